/-
  Seat b1973a: NewCTA by its contract.
-/
import Derived.Test.YbulkanvkCta0
import Derived.Deep.AppendLies
import Derived.Deep.RegionLaw
import Derived.Deep.DrawnRows
namespace Go.Proofs.Ybulkanvk
open Go.RowKit

/-- The kernel that the call is made on: its struct in block kq, its entry in block eq. -/
structure KAt (w : World) (kq eq gx gy gz bx by' bz dy eo nr : Nat) : Prop where
  k0 : w.cell? ⟨kq, 0, none⟩ = some (.pointer (some ⟨eq, 0, none⟩))
  k1 : w.cell? ⟨kq, 1, none⟩ = some (.int .u32 gx)
  k2 : w.cell? ⟨kq, 2, none⟩ = some (.int .u32 gy)
  k3 : w.cell? ⟨kq, 3, none⟩ = some (.int .u32 gz)
  k4 : w.cell? ⟨kq, 4, none⟩ = some (.int .u32 bx)
  k5 : w.cell? ⟨kq, 5, none⟩ = some (.int .u32 by')
  k6 : w.cell? ⟨kq, 6, none⟩ = some (.int .u32 bz)
  k9 : w.cell? ⟨kq, 9, none⟩ = some (.int .i64 dy)
  e5 : ∃ ra rc, w.cell? ⟨eq, 5, none⟩ = some (.slice ra nr rc)
  e9 : w.cell? ⟨eq, 9, none⟩ = some (.int .i64 eo)

theorem KAt.ext {w w' : World} {kq eq gx gy gz bx by' bz dy eo nr : Nat} (h : KAt w kq eq gx gy gz bx by' bz dy eo nr) (x : Ext w w') : KAt w' kq eq gx gy gz bx by' bz dy eo nr :=
  ⟨x.cell h.k0, x.cell h.k1, x.cell h.k2, x.cell h.k3, x.cell h.k4, x.cell h.k5, x.cell h.k6, x.cell h.k9, by obtain ⟨ra, rc, h5⟩ := h.e5; exact ⟨ra, rc, x.cell h5⟩, x.cell h.e9⟩

/-- The CTA in block cq; its shared memory and the window over it. v: its slice of warps. -/
structure Made (w wx : World) (cq sm wm d n a b c : Nat) (v : Value) : Prop where
  cta : wx.heap[cq]? = some (.cells #[.int .u32 a, .int .u32 b, .int .u32 c, v, .pointer (some ⟨sm, 0, none⟩), .pointer (some ⟨wm, 0, none⟩)] 42 (0, 0))
  sh : MemAt wx sm d n 0
  wi : MemAt wx wm d n 17592186044416
  dat : wx.heap[d]? = some (.cells (row n (.int .u8 0)) 5 (0, 0))
  ext : Ext w wx
  new : w.heap.size ≤ cq

theorem Made.more {w wx wy : World} {cq sm wm d n a b c : Nat} {v : Value} (h : Made w wx cq sm wm d n a b c v) (x : Ext wx wy) : Made w wy cq sm wm d n a b c v :=
  ⟨x.blk h.cta, x.blk h.sh, x.blk h.wi, x.blk h.dat, h.ext.trans x, h.new⟩

/-- Blocks of two element types are two. -/
theorem blk_ne {w : World} {b1 b2 : Nat} {cs1 cs2 : Array Value} {t1 t2 : TypeId} {f1 f2 : Nat × Nat} (h1 : w.heap[b1]? = some (.cells cs1 t1 f1)) (h2 : w.heap[b2]? = some (.cells cs2 t2 f2)) (ht : t1 ≠ t2) : b1 ≠ b2 := by
  intro e; subst e; rw [h1] at h2; simp at h2; exact ht h2.2.1

theorem made_window {w w5 : World} {cq sm wm d n a b c : Nat} (b5 : w5.heap[cq]? = some (.cells #[.int .u32 a, .int .u32 b, .int .u32 c, .slice none 0 0, .pointer (some ⟨sm, 0, none⟩), .pointer none] 42 (0, 0)))
    (s5 : MemAt w5 sm d n 0) (m5 : MemAt w5 wm d n 17592186044416) (d5 : w5.heap[d]? = some (.cells (row n (.int .u8 0)) 5 (0, 0))) (x : Ext w w5) (hn : w.heap.size ≤ cq) :
    Made w (w5.setCell ⟨cq, 5, none⟩ (.pointer (some ⟨wm, 0, none⟩))) cq sm wm d n a b c (.slice none 0 0) := by
  refine ⟨?_, ?_, ?_, ?_, x.setCell _ _ hn, hn⟩
  · rw [heap_setCell_same w5 cq 5 _ 42 _ b5]; rfl
  · unfold MemAt; rw [heap_setCell_other _ _ _ _ (blk_ne s5 b5 (by decide))]; exact s5
  · unfold MemAt; rw [heap_setCell_other _ _ _ _ (blk_ne m5 b5 (by decide))]; exact m5
  · rw [heap_setCell_other _ _ _ _ (blk_ne d5 b5 (by decide))]; exact d5

def ptr (p : Nat) : Value := .pointer (some ⟨p, 0, none⟩)

/-- A warp in block p: its path in a block of its own, its registers (n of them, all zero) in another. -/
def WarpAt (w : World) (kq cq n p first : Nat) (mask : Int) : Prop := ∃ pb rb, w.heap[p]? = some (.cells #[ptr kq, ptr cq, .int .i64 first, .int .u32 mask, .int .u32 0, .slice (some ⟨pb, 0, none⟩) 1 1, .slice none 0 0, .slice (some ⟨rb, 0, none⟩) n n] 52 (0, 0)) ∧
  w.heap[pb]? = some (.cells #[.int .i64 0, .int .i64 (-1), .int .u32 mask] 54 (0, 0)) ∧ w.heap[rb]? = some (.cells (row n (.int .u64 0)) 23 (0, 0))

/-- How many threads warp j has, of T; their mask. -/
def lanes (T j : Nat) : Nat := min 32 (T - 32 * j)
def mask (l : Nat) : Int := ((2 ^ l - 1 : Nat) : Int)

theorem mask_shift (l : Nat) (h : l ≤ 32) : IntKind.u64.wrap (IntKind.u64.wrap (2 ^ l) - 1) % 4294967296 = mask l := by
  have go : ∀ l, l < 33 → IntKind.u64.wrap (IntKind.u64.wrap (2 ^ l) - 1) % 4294967296 = mask l := by decide
  exact go l (by omega)

/-- A block of another element type is not the row that is appended to: it is as it was behind the append. -/
theorem keep_far {base k b : Nat} {wr X w1 : World} {v : Value} {xs : List Value} {cs : Array Value} {t : TypeId} {f : Nat × Nat} (hO : wr.ownsRow base 47 1 v k xs) (x : Ext wr X) (hg : X.grownBy w1 v.ownBlock)
    (hb : wr.heap[b]? = some (.cells cs t f)) (ht : t ≠ 47) : w1.heap[b]? = some (.cells cs t f) := by
  have hlt := (Array.getElem?_eq_some_iff.1 (x.blk hb)).1
  refine (hg.block b hlt ?_).trans (x.blk hb)
  rcases hO.2 with ⟨rfl, _⟩ | ⟨g, cap, cur, rfl, _, hh, _⟩
  · simp [Value.ownBlock]
  · simp only [Value.ownBlock, ne_eq, Option.some.injEq]
    exact blk_ne hb hh ht

/-- The same of a block that is new. -/
theorem keep_new {base k b : Nat} {wr X w1 : World} {v : Value} {xs : List Value} {o : Obj} (hO : wr.ownsRow base 47 1 v k xs) (hg : X.grownBy w1 v.ownBlock) (hb : X.heap[b]? = some o) (hn : wr.heap.size ≤ b) : w1.heap[b]? = some o := by
  refine (hg.block b (Array.getElem?_eq_some_iff.1 hb).1 ?_).trans hb
  intro e
  have := (hO.lt b e.symm).2
  omega

/-- One warp more. -/
theorem next_warp {w wr X w1 : World} {cq sm wm d n a b c k kq nn pb rb p g cap l : Nat} {fi : Int} {v : Value} {ps : List Nat} {T : Nat} (hM : Made w wr cq sm wm d n a b c v) (hO : wr.ownsRow w.heap.size 47 1 v k (ps.map ptr))
    (hl : ps.length = k) (hP : ∀ j, j < k → WarpAt wr kq cq nn (ps.getD j 0) (32 * j) (mask (lanes T j))) (x : Ext wr X)
    (h1 : X.heap[p]? = some (.cells #[ptr kq, ptr cq, .int .i64 fi, .int .u32 (mask l), .int .u32 0, .slice (some ⟨pb, 0, none⟩) 1 1, .slice none 0 0, .slice (some ⟨rb, 0, none⟩) nn nn] 52 (0, 0)))
    (h2 : X.heap[pb]? = some (.cells #[.int .i64 0, .int .i64 (-1), .int .u32 (mask l)] 54 (0, 0))) (h3 : X.heap[rb]? = some (.cells (row nn (.int .u64 0)) 23 (0, 0)))
    (n1 : wr.heap.size ≤ p) (n2 : wr.heap.size ≤ pb) (n3 : wr.heap.size ≤ rb) (hf : fi = ((32 * k : Nat) : Int)) (hlk : l = lanes T k) (hg : X.grownBy w1 v.ownBlock)
    (hO1 : w1.ownsRow w.heap.size 47 1 (.slice (some ⟨g, 0, none⟩) (k + 1) cap) (k + 1) (ps.map ptr ++ [ptr p])) :
    Made w (w1.setCell ⟨cq, 3, none⟩ (.slice (some ⟨g, 0, none⟩) (k + 1) cap)) cq sm wm d n a b c (.slice (some ⟨g, 0, none⟩) (k + 1) cap) ∧
    (w1.setCell ⟨cq, 3, none⟩ (.slice (some ⟨g, 0, none⟩) (k + 1) cap)).ownsRow w.heap.size 47 1 (.slice (some ⟨g, 0, none⟩) (k + 1) cap) (k + 1) ((ps ++ [p]).map ptr) ∧
    ((ps ++ [p]).length = k + 1 ∧ ∀ j, j < k + 1 → WarpAt (w1.setCell ⟨cq, 3, none⟩ (.slice (some ⟨g, 0, none⟩) (k + 1) cap)) kq cq nn ((ps ++ [p]).getD j 0) (32 * j) (mask (lanes T j))) := by
  have cta1 := keep_far hO x hg hM.cta (by decide)
  have hgt : ∃ cur, w1.heap[g]? = some (.cells cur 47 (0, 0)) := by
    rcases hO1.2 with ⟨h, _⟩ | ⟨g', cap', cur, h, _, hh, _⟩
    · simp at h
    · simp only [Value.slice.injEq, Option.some.injEq, Addr.mk.injEq, and_true, true_and] at h
      obtain ⟨rfl, rfl⟩ := h
      exact ⟨cur, hh⟩
  obtain ⟨cur, hgc⟩ := hgt
  have hne : g ≠ cq := blk_ne hgc cta1 (by decide)
  have oth : ∀ {b' : Nat} {cs : Array Value} {t : TypeId} {f : Nat × Nat}, w1.heap[b']? = some (.cells cs t f) → t ≠ 42 → (w1.setCell ⟨cq, 3, none⟩ (.slice (some ⟨g, 0, none⟩) (k + 1) cap)).heap[b']? = some (.cells cs t f) := by
    intro b' cs t f hb ht
    rw [heap_setCell_other _ _ _ _ (blk_ne hb cta1 ht)]; exact hb
  have gr : w1.grownBy (w1.setCell ⟨cq, 3, none⟩ (.slice (some ⟨g, 0, none⟩) (k + 1) cap)) (some cq) := ⟨rfl, rfl, rfl, by simp, fun j _ hj => heap_setCell_other w1 ⟨cq, 3, none⟩ j _ (fun e => hj (by simp [e]))⟩
  have ext1 : Ext w w1 := by
    have xx := hM.ext.trans x
    refine ⟨hg.os.trans xx.os, hg.tape.trans xx.tape, hg.output.trans xx.output, Nat.le_trans xx.size hg.size, fun j hj _ => (hg.block j (Nat.lt_of_lt_of_le hj xx.size) ?_).trans (xx.block j hj trivial)⟩
    intro e
    have := (hO.lt j e.symm).1
    omega
  refine ⟨⟨?_, ?_, ?_, ?_, ext1.setCell _ _ hM.new, hM.new⟩, ?_, by simp [hl], ?_⟩
  · rw [heap_setCell_same w1 cq 3 _ 42 _ cta1]; rfl
  · exact oth (keep_far hO x hg hM.sh (by decide)) (by decide)
  · exact oth (keep_far hO x hg hM.wi (by decide)) (by decide)
  · exact oth (keep_far hO x hg hM.dat (by decide)) (by decide)
  · have := hO1.kept gr (.inr (by simp [Value.ownBlock]; exact hne))
    simpa using this
  · intro j hj
    by_cases e : j = k
    · subst e
      have eg : (ps ++ [p]).getD j 0 = p := by simp [List.getD, ← hl]
      rw [eg]
      rw [hf, hlk] at h1
      rw [hlk] at h2
      exact ⟨pb, rb, oth (keep_new hO hg h1 n1) (by decide), oth (keep_new hO hg h2 n2) (by decide), oth (keep_new hO hg h3 n3) (by decide)⟩
    · have hjk : j < k := by omega
      have eg : (ps ++ [p]).getD j 0 = ps.getD j 0 := by simp [List.getD, List.getElem?_append, show j < ps.length by omega]
      rw [eg]
      obtain ⟨pb', rb', q1, q2, q3⟩ := hP j hjk
      exact ⟨pb', rb', oth (keep_far hO x hg q1 (by decide)) (by decide), oth (keep_far hO x hg q2 (by decide)) (by decide), oth (keep_far hO x hg q3 (by decide)) (by decide)⟩

theorem four_new (w : World) (o1 o2 o3 o4 : Obj) : ((((w.alloc o1).alloc o2).alloc o3).alloc o4).heap[w.heap.size]? = some o1 ∧ ((((w.alloc o1).alloc o2).alloc o3).alloc o4).heap[w.heap.size + 1]? = some o2 ∧
    ((((w.alloc o1).alloc o2).alloc o3).alloc o4).heap[w.heap.size + 2]? = some o3 ∧ ((((w.alloc o1).alloc o2).alloc o3).alloc o4).heap[w.heap.size + 3]? = some o4 := by
  have n1 := one_new w o1
  have n2 := one_new (w.alloc o1) o2
  have n3 := one_new ((w.alloc o1).alloc o2) o3
  have n4 := one_new (((w.alloc o1).alloc o2).alloc o3) o4
  rw [n3.2, n2.2, n1.2] at n4
  rw [n2.2, n1.2] at n3
  rw [n1.2] at n2
  exact ⟨((((Ext.refl _).alloc o2).alloc o3).alloc o4).blk n1.1, (((Ext.refl _).alloc o3).alloc o4).blk n2.1, ((Ext.refl _).alloc o4).blk n3.1, n4.1⟩

theorem info23' : (Yba.prog.info? 23).map (fun i => (i.zero, i.size, i.bytes)) = some (some (.int .u64 0), 1, 8) := by kernel_rfl
theorem info47 : (Yba.prog.info? 47).map (fun i => (i.zero, i.size, i.bytes)) = some (some (.pointer none), 1, 8) := by kernel_rfl

/-- What NewCTA leaves: the CTA in block cq, T threads dealt to warps. -/
structure Done (w w' : World) (kq cq sm wm d n a b c nn T : Nat) (v : Value) (ps : List Nat) : Prop where
  made : Made w w' cq sm wm d n a b c v
  owns : w'.ownsRow w.heap.size 47 1 v ps.length (ps.map ptr)
  num : ps.length = (T + 31) / 32
  warp : ∀ j, j < ps.length → WarpAt w' kq cq nn (ps.getD j 0) (32 * j) (mask (lanes T j))
  newd : w.heap.size ≤ d

attribute [local go_sem ↓] Go.wp_at_zero Go.wp_at_succ

set_option maxHeartbeats 8000000 in
set_option maxRecDepth 100000 in
theorem newCTA_any (kq eq gx gy gz bx by' bz dy eo nr i a b c : Nat) (w : World) (h : KAt w kq eq gx gy gz bx by' bz dy eo nr)
    (hX : 0 < gx) (hY : 0 < gy) (hX1 : gx ≤ 65535) (hY1 : gy ≤ 65535) (hi : i ≤ 1000000) (ha : a = i % gx) (hb : b = i / gx % gy) (hc : c = i / (gx * gy)) (hdy : dy ≤ 100000) (heo : eo ≤ 100000) (hnr : nr ≤ 1000)
    (hbx : bx ≤ 65535) (hby : by' ≤ 65535) (hbz : bz ≤ 65535) (hT : bx * by' * bz ≤ 4096) :
    Calls Yba.prog 7 #[.pointer (some ⟨kq, 0, none⟩), .int .i64 i] w fun e w' => ∃ cq sm wm d v ps, e = .returned (.pointer (some ⟨cq, 0, none⟩)) ∧ Done w w' kq cq sm wm d (eo + dy) a b c (nr * 32) (bx * by' * bz) v ps := by
  have HI := Hid.mk (index_any gx gy gz i a b c w hX hY hX1 hY1 hi ha hb hc)
  obtain ⟨i7, hi7, hp0, hp1, hp2⟩ := info_parts info47
  have HMK : Hid (∀ wq : World, (Instr.makeSlice 50 (.int .i64 ((nr : Int) * 32)) (.int .i64 ((nr : Int) * 32))).run Yba.prog wq = .ok (.slice (some ⟨wq.heap.size, 0, none⟩) (nr * 32) (nr * 32)) (wq.alloc (.cells (row (nr * 32) (.int .u64 0)) 23))) := by
    obtain ⟨i0, hi0, hz0, hz1, hz2⟩ := info_parts info23'
    intro wq
    have hrun := run_make (P := Yba.prog) wq 50 23 i0 (.int .u64 0) Yba.underlying50 hi0 hz0 .i64 .i64 ((nr : Int) * 32) ((nr : Int) * 32) (by omega) (Int.le_refl _) (by rw [hz2]; omega) (by omega)
    rw [show ((nr : Int) * 32).toNat = nr * 32 by omega, hz1, madeCells_row _ rfl] at hrun
    exact hrun
  have HK := Hid.mk h
  have k1 := h.k1
  have k2 := h.k2
  have k3 := h.k3
  clear h ha hb hc
  go_enter Yba.func7, Yba.ntmps7
  go_wp2_with fail
  refine HI.out.mono ?_
  rintro e w1 ⟨rfl, x1⟩
  have HK1 := Hid.mk (HK.out.ext x1)
  have HX1 := Hid.mk x1
  have HNd := Hid.mk x1.size
  clear x1 k1 k2 k3 HI
  go_wp2_with fail
  refine (sharedBytes_any kq eq eo dy w1 HK1.out.k0 HK1.out.k9 HK1.out.e9 heo hdy).mono ?_
  rintro e w2 ⟨rfl, m, hw2⟩
  rw [hw2]
  clear hw2 w2
  go_wp2_with fail
  refine (newShared_any (eo + dy) (w1.drewN m) (by omega)).mono ?_
  rintro e w3 ⟨rfl, x3, z3, m3, d3⟩
  have hs1 : (w1.drewN m).heap.size = w1.heap.size := rfl
  rw [hs1] at z3 m3 d3 ⊢
  have HX3 := Hid.mk (((HX1.out).drewN m).trans x3)
  have HM3 := Hid.mk m3
  have HD3 := Hid.mk d3
  have HZ3 := Hid.mk z3
  clear x3 m3 d3 z3 hs1
  go_upto_region 2 with fail
  obtain ⟨cq, hcq⟩ : ∃ cq, cq = w3.heap.size := ⟨_, rfl⟩
  rw [← hcq]
  have hB : ∃ w4, w4 = w3.alloc (.cells #[.int .u32 a, .int .u32 b, .int .u32 c, .slice none 0 0, .pointer (some ⟨w1.heap.size + 1, 0, none⟩), .pointer none] 42) ∧
      w4.heap[cq]? = some (.cells #[.int .u32 a, .int .u32 b, .int .u32 c, .slice none 0 0, .pointer (some ⟨w1.heap.size + 1, 0, none⟩), .pointer none] 42 (0, 0)) ∧ w4.heap.size = cq + 1 ∧ Ext w3 w4 := by
    refine ⟨_, rfl, ?_, ?_, (Ext.refl _).alloc _⟩
    · rw [hcq]; exact (one_new _ _).1
    · rw [hcq]; exact (one_new _ _).2
  obtain ⟨w4, hw4, b4, z4, x4⟩ := hB
  rw [← hw4]
  have HB4 := Hid.mk b4
  have HZ4 := Hid.mk z4
  have HX4 := Hid.mk x4
  have hncq : w.heap.size ≤ cq := by rw [hcq]; exact HX3.out.size
  clear hw4 b4 z4 x4 hcq
  go_cut [] (fun wx => ∃ wm, Hid (Made w wx cq (w1.heap.size + 1) wm w1.heap.size (eo + dy) a b c (.slice none 0 0)))
  case first =>
    have c4 : w4.cell? ⟨cq, 4, none⟩ = some (.pointer (some ⟨w1.heap.size + 1, 0, none⟩)) := by rw [cell_of_row w4 cq 4 _ 42 (0, 0) HB4.out]; rfl
    have HFr := Hid.mk (from_any (w1.heap.size + 1) w1.heap.size (eo + dy) 0 17592186044416 w4 (HX4.out.blk HM3.out))
    go_wp2_with fail
    refine HFr.out.mono ?_
    rintro e w5 ⟨rfl, x5, z5, m5⟩
    have b5 := x5.blk HB4.out
    have c5 : w5.cell? ⟨cq, 5, none⟩ = some (.pointer none) := by rw [cell_of_row w5 cq 5 _ 42 (0, 0) b5]; rfl
    have f5 : w5.frozen? ⟨cq, 5, none⟩ = false := frozen_of_row w5 cq 5 _ 42 b5
    have HM : Hid (Made w (w5.setCell ⟨cq, 5, none⟩ (.pointer (some ⟨w4.heap.size, 0, none⟩))) cq (w1.heap.size + 1) w4.heap.size w1.heap.size (eo + dy) a b c (.slice none 0 0)) := by
      exact made_window b5 (x5.blk (HX4.out.blk HM3.out)) m5 (x5.blk (HX4.out.blk HD3.out)) ((HX3.out.trans HX4.out).trans x5) hncq
    clear x5 z5 m5 b5 c4
    go_wp2
    go_meet
    case rel => exact ⟨_, HM⟩
  case rest =>
    obtain ⟨wm, HM⟩ := hcut
    clear HK1 HX1 HX3 HM3 HD3 HZ3 HB4 HZ4 HX4
    have HKc := Hid.mk (HK.out.ext HM.out.ext)
    have k4 := HKc.out.k4
    have k5 := HKc.out.k5
    have k6 := HKc.out.k6
    go_wp2_with fail
    refine (count_any bx by' bz wc hbx hby hbz).mono ?_
    rintro e w6 ⟨rfl, x6⟩
    have HM6 := Hid.mk (HM.out.more x6)
    have HK6 := Hid.mk (HKc.out.ext x6)
    obtain ⟨ra, rc, e5⟩ := HK6.out.e5
    have k0 := HK6.out.k0
    clear HM HKc x6 k4 k5 k6
    obtain ⟨T, hTT⟩ : ∃ T, T = bx * by' * bz := ⟨_, rfl⟩
    rw [← hTT]
    rw [← hTT] at hT
    have HTT := Hid.mk hTT
    clear hTT
    go_wp2
    go_loopg [8] (T + 32) (fun gk t wx => ∃ (k : Nat) (v : Value) (ps : List Nat), 32 * k < T + 32 ∧ gk = T + 32 - 32 * k ∧ t = .int .i64 ((32 * k : Nat) : Int) ∧ Hid (Made w wx cq (w1.heap.size + 1) wm w1.heap.size (eo + dy) a b c v) ∧
      Hid (wx.ownsRow w.heap.size 47 1 v k (ps.map ptr)) ∧ Hid (ps.length = k ∧ ∀ j, j < k → WarpAt wx kq cq (nr * 32) (ps.getD j 0) (32 * j) (mask (lanes T j))))
    case atStart => exact ⟨0, .slice none 0 0, [], by omega, rfl, rfl, HM6, World.ownsRow_nil _ _ _ _, ⟨rfl, fun j hj => by omega⟩⟩
    case round =>
      obtain ⟨k, v, ps, hk, rfl, rfl, HMr, HOr, HPr⟩ := hrel
      by_cases hlt : 32 * k < T
      · have hl1 : ((32 * k : Nat) : Int) < (T : Int) := by omega
        have hl2 : decide (32 * (k : Int) < (T : Int)) = true := decide_eq_true (by omega)
        obtain ⟨l, hl⟩ : ∃ l, l = lanes T k := ⟨_, rfl⟩
        have HL := Hid.mk hl
        have hl0 : 0 < l := by rw [hl]; unfold lanes; omega
        have hl32 : l ≤ 32 := by rw [hl]; unfold lanes; omega
        clear hl
        go_upto_block 1 with fail
        go_cut [] (fun wx => ∃ (v' : Value) (ps' : List Nat), Hid (Made w wx cq (w1.heap.size + 1) wm w1.heap.size (eo + dy) a b c v') ∧
          Hid (wx.ownsRow w.heap.size 47 1 v' (k + 1) (ps'.map ptr)) ∧ Hid (ps'.length = k + 1 ∧ ∀ j, j < k + 1 → WarpAt wx kq cq (nr * 32) (ps'.getD j 0) (32 * j) (mask (lanes T j))))
        case first =>
          go_upto_region 8 with fail
          go_cut [9] (fun t wx => wr = wx ∧ t = .int .i64 l)
          case first =>
            by_cases hm : (T : Int) - 32 * (k : Int) < 32
            · go_wp2
              go_meet
              case rel => exact ⟨rfl, by rw [HL.out]; unfold lanes; congr 1; omega⟩
            · go_wp2
              go_meet
              case rel => exact ⟨rfl, by rw [HL.out]; unfold lanes; congr 1; omega⟩
          case rest =>
          obtain ⟨rfl, rfl⟩ := hcut
          go_upto_region 9 with fail
          go_cut [10] (fun t wx => wr = wx ∧ t = .int .u32 (mask l))
          case first =>
            go_wp2
            go_meet
            case rel => exact ⟨rfl, by rw [mask_shift l hl32]⟩
          case rest =>
          obtain ⟨rfl, rfl⟩ := hcut
          have c3 : wr.cell? ⟨cq, 3, none⟩ = some v := by rw [cell_of_row wr cq 3 _ 42 (0, 0) HMr.out.cta]; rfl
          have hcl : cq < wr.heap.size := World.block_lt_of_cell? wr _ c3
          have hws : w.heap.size ≤ wr.heap.size := HMr.out.ext.size
          have hcl1 : cq < wr.heap.size + 1 := by omega
          have hcl2 : cq < wr.heap.size + 2 := by omega
          have hcl3 : cq < wr.heap.size + 3 := by omega
          have hcl1' : cq < wr.heap.size + 1 + 1 := by omega
          have hcl2' : cq < wr.heap.size + 1 + 1 + 1 := by omega
          have hmk : ∀ wq : World, (Instr.makeSlice 50 (.int .i64 ((nr : Int) * 32)) (.int .i64 ((nr : Int) * 32))).run Yba.prog wq = .ok (.slice (some ⟨wq.heap.size, 0, none⟩) (nr * 32) (nr * 32)) (wq.alloc (.cells (row (nr * 32) (.int .u64 0)) 23)) := HMK.out
          go_upto_region 10 with fail
          go_region_law (first | (refine step_append_lies _ (by rfl) _ _ 40 (by rfl) w.heap.size 47 i7 (.pointer none) 1 8 Yba.underlying40 hi7 hp0 hp1 hp2 rfl (by decide) v k (ps.map ptr) (by rfl) (by exact ((((HOr.out.alloc _).alloc _).alloc _).alloc _)) ⟨wr.heap.size + 3, 0, none⟩ 1 1 [ptr (wr.heap.size + 2)] (by rfl) (by rfl) (by exact (World.news_of_block (cs := #[ptr (wr.heap.size + 2)]) (t := 47) (fr := (0, 0)) (four_new wr _ _ _ _).2.2.2)) (by intro u hu; simp at hu; subst hu; rfl) (by decide) (by unfold maxLen; omega) (by omega) (by simp; omega) (wr.heap.size + 4) (by simp) ?_; intro g cap wn hown1 hgrow hat hlt2; have cta1 := keep_far HOr.out (((((Ext.refl wr).alloc _).alloc _).alloc _).alloc _).drew hgrow HMr.out.cta (by decide); have j3 : wn.cell? ⟨cq, 3, none⟩ = some v := (by rw [cell_of_row wn cq 3 _ 42 (0, 0) cta1]; rfl); have jf : wn.frozen? ⟨cq, 3, none⟩ = false := frozen_of_row wn cq 3 _ 42 cta1; clear cta1 hat hlt2))
          all_goals go_wp2
          all_goals go_meet
          all_goals
            first
            | (exact ⟨_, ps ++ [wr.heap.size + 2], next_warp (T := T) (l := l) (pb := wr.heap.size) (rb := wr.heap.size + 1) (p := wr.heap.size + 2) HMr.out HOr.out HPr.out.1 HPr.out.2 (((((Ext.refl wr).alloc _).alloc _).alloc _).alloc _).drew (four_new wr _ _ _ _).2.2.1 (four_new wr _ _ _ _).1 (four_new wr _ _ _ _).2.1 (by omega) (by omega) (by omega) (by omega) HL.out hgrow hown1⟩)
            | (exact ⟨_, ps ++ [wr.heap.size + 2], next_warp (T := T) (l := l) (pb := wr.heap.size + 1) (rb := wr.heap.size) (p := wr.heap.size + 2) HMr.out HOr.out HPr.out.1 HPr.out.2 (((((Ext.refl wr).alloc _).alloc _).alloc _).alloc _).drew (four_new wr _ _ _ _).2.2.1 (four_new wr _ _ _ _).2.1 (four_new wr _ _ _ _).1 (by omega) (by omega) (by omega) (by omega) HL.out hgrow hown1⟩)
        case rest =>
          obtain ⟨v', ps', HM', HO', HP'⟩ := hcut
          go_wp2
          go_roundg (T + 32 - 32 * (k + 1))
          case measure => omega
          case rel => exact ⟨k + 1, v', ps', by omega, rfl, by go_num, HM', HO', HP'⟩
      · have hkT : k = (T + 31) / 32 := by omega
        have hd : decide (32 * (k : Int) < (T : Int)) = false := decide_eq_false (by omega)
        have HKT := Hid.mk hkT
        clear hkT
        go_wp2
        go_ret
        refine ⟨cq, _, _, _, v, ps, rfl, ⟨HMr.out, ?_, ?_, ?_, HNd.out⟩⟩
        · rw [HPr.out.1]; exact HOr.out
        · rw [HPr.out.1, HKT.out, HTT.out]
        · intro j hj
          rw [← HTT.out]
          exact HPr.out.2 j (by rw [← HPr.out.1]; exact hj)

end Go.Proofs.Ybulkanvk
