/-
  Seat b1973a: LawS1973AWarps: the walk.
-/
import Derived.Test.YbulkanvkWarps1
import Derived.Lib.Builder
import Derived.WalkSpells
namespace Go.Proofs.Ybulkanvk
open Go.RowKit

theorem info37 : (Yba.prog.info? 37).map (fun i => i.size) = some 11 := by kernel_rfl
theorem info42 : (Yba.prog.info? 42).map (fun i => i.size) = some 6 := by kernel_rfl

theorem neq24 (ad : Addr) (w : World) : (binOp .neq 24 (.pointer (some ad)) (.pointer (some ad))).run Yba.prog w = .ok (.bool false) w := by
  obtain ⟨i, hi, _⟩ := Option.map_eq_some_iff.1 info37
  exact Lib.run_neq_ptr_same w ad Yba.underlying24 hi

theorem neq38 (ad : Addr) (w : World) : (binOp .neq 38 (.pointer (some ad)) (.pointer (some ad))).run Yba.prog w = .ok (.bool false) w := by
  obtain ⟨i, hi, _⟩ := Option.map_eq_some_iff.1 info42
  exact Lib.run_neq_ptr_same w ad Yba.underlying38 hi

theorem neq49 (w : World) : (binOp .neq 49 (.slice none 0 0) (.slice none 0 0)).run Yba.prog w = .ok (.bool false) w :=
  run_neq_slice_nil_any w 49 _ none 0 0 0 0 Yba.underlying49

/-- What the second half of the law reads: the CTA's warps, each as it was made; the kernel's block shape. -/
structure AtW (w wx : World) (kq cq P T nn bx by' bz cap : Nat) (ra : Option Addr) (ps : List Nat) : Prop where
  c3 : wx.cell? ⟨cq, 3, none⟩ = some (.slice ra P cap)
  row : ∀ j, j < P → ∃ g, ra = some ⟨g, 0, none⟩ ∧ wx.cell? ⟨g, j, none⟩ = some (ptr (ps.getD j 0))
  warp : ∀ j, j < P → WarpAt wx kq cq nn (ps.getD j 0) (32 * j) (mask (lanes T j))
  k4 : wx.cell? ⟨kq, 4, none⟩ = some (.int .u32 bx)
  k5 : wx.cell? ⟨kq, 5, none⟩ = some (.int .u32 by')
  k6 : wx.cell? ⟨kq, 6, none⟩ = some (.int .u32 bz)
  bel : Below w.heap.size w wx

theorem AtW.ext {w wx wy : World} {kq cq P T nn bx by' bz cap : Nat} {ra : Option Addr} {ps : List Nat} (h : AtW w wx kq cq P T nn bx by' bz cap ra ps) (x : Ext wx wy) : AtW w wy kq cq P T nn bx by' bz cap ra ps := by
  refine ⟨x.cell h.c3, fun j hj => ?_, fun j hj => ?_, x.cell h.k4, x.cell h.k5, x.cell h.k6, h.bel.trans (x.below.mono h.bel.size)⟩
  · obtain ⟨g, e, c⟩ := h.row j hj
    exact ⟨g, e, x.cell c⟩
  · obtain ⟨pb, rb, q1, q2, q3⟩ := h.warp j hj
    exact ⟨pb, rb, x.blk q1, x.blk q2, x.blk q3⟩

theorem atW_start {w w0 w2 : World} {kq eq cq sm wm d n T nn bx by' bz cap dy eo nr P : Nat} {ra : Option Addr} {ps : List Nat} (hx : Ext w w2) (hK : KAt w2 kq eq 1 1 1 bx by' bz dy eo nr) (hD : Done w0 w2 kq cq sm wm d n 0 0 0 nn T (.slice ra P cap) ps) (hP : P = ps.length)
    (hro : ∀ j, j < P → ∃ g, ra = some ⟨g, 0, none⟩ ∧ w2.cell? ⟨g, j, none⟩ = some (ptr (ps.getD j 0)) ∧ ∃ cs, w2.heap[g]? = some (.cells cs 47 (0, 0))) : AtW w w2 kq cq P T nn bx by' bz cap ra ps :=
  ⟨by rw [cell_of_row w2 cq 3 _ 42 (0, 0) hD.made.cta]; rfl, fun j hj => by obtain ⟨g, e, c, _⟩ := hro j hj; exact ⟨g, e, c⟩, fun j hj => hD.warp j (by omega), hK.k4, hK.k5, hK.k6, hx.below⟩

theorem atW_stored {w w0 w2 : World} {kq eq cq sm wm d n T nn bx by' bz cap dy eo nr P : Nat} {ra : Option Addr} {ps : List Nat} (hx : Ext w w2) (hs : w.heap.size ≤ d) (hn : 0 < n) (hK : KAt w2 kq eq 1 1 1 bx by' bz dy eo nr) (hD : Done w0 w2 kq cq sm wm d n 0 0 0 nn T (.slice ra P cap) ps) (hP : P = ps.length)
    (hro : ∀ j, j < P → ∃ g, ra = some ⟨g, 0, none⟩ ∧ w2.cell? ⟨g, j, none⟩ = some (ptr (ps.getD j 0)) ∧ ∃ cs, w2.heap[g]? = some (.cells cs 47 (0, 0))) (u : Value) : AtW w (w2.setCell ⟨d, 0, none⟩ u) kq cq P T nn bx by' bz cap ra ps ∧
    MemAt (w2.setCell ⟨d, 0, none⟩ u) wm d n 17592186044416 ∧ (w2.setCell ⟨d, 0, none⟩ u).heap[cq]? = w2.heap[cq]? ∧ (w2.setCell ⟨d, 0, none⟩ u).cell? ⟨d, 0, none⟩ = some u := by
  have hd := hD.made.dat
  have oth : ∀ {b' : Nat} {cs : Array Value} {t : TypeId} {f : Nat × Nat}, w2.heap[b']? = some (.cells cs t f) → t ≠ 5 → (w2.setCell ⟨d, 0, none⟩ u).heap[b']? = some (.cells cs t f) := by
    intro b' cs t f hb ht
    rw [heap_setCell_other _ _ _ _ (blk_ne hb hd ht)]; exact hb
  have hkd : kq ≠ d := by
    intro e
    have k0 := hK.k0
    rw [e, cell_of_row w2 d 0 _ 5 (0, 0) hd] at k0
    simp [row, hn] at k0
  have kc : ∀ {j : Nat} {v : Value}, w2.cell? ⟨kq, j, none⟩ = some v → (w2.setCell ⟨d, 0, none⟩ u).cell? ⟨kq, j, none⟩ = some v := by
    intro j v hc
    rw [← hc]
    simp only [World.cell?]
    rw [heap_setCell_other _ _ _ _ hkd]
  refine ⟨⟨?_, ?_, ?_, kc hK.k4, kc hK.k5, kc hK.k6, ?_⟩, oth hD.made.wi (by decide), ?_, ?_⟩
  · rw [cell_of_row _ cq 3 _ 42 (0, 0) (oth hD.made.cta (by decide))]; rfl
  · intro j hj
    obtain ⟨g, e, c, cs, hg⟩ := hro j hj
    refine ⟨g, e, ?_⟩
    rw [cell_of_row _ g j _ 47 (0, 0) (oth hg (by decide)), ← cell_of_row w2 g j _ 47 (0, 0) hg]; exact c
  · intro j hj
    obtain ⟨pb, rb, q1, q2, q3⟩ := hD.warp j (by omega)
    exact ⟨pb, rb, oth q1 (by decide), oth q2 (by decide), oth q3 (by decide)⟩
  · exact (hx.setCell _ _ hs).below
  · rw [hD.made.cta]; exact oth hD.made.cta (by decide)
  · rw [cell_of_row _ d 0 _ 5 (0, 0) (heap_setCell_same w2 d 0 _ 5 _ hd)]; simp [row, hn]

set_option maxHeartbeats 4000000 in
set_option maxRecDepth 100000 in
theorem walkW (bx by' bz T : Nat) (x3 x4 x5 : Int) (w : World) (hx : bx ≤ 4096) (hy : by' ≤ 4096) (hz : bz ≤ 4096) (hT : T = bx * by' * bz) (h : T ≤ 4096) (h3 : 0 ≤ x3) (h3' : x3 ≤ 255) (h4 : 0 ≤ x4) (h4' : x4 ≤ 65535) (h5 : 0 ≤ x5) (h5' : x5 ≤ 65535) :
    Calls Yba.prog 3 #[.int .u16 bx, .int .u16 by', .int .u16 bz, .int .u8 x3, .int .u16 x4, .int .u16 x5] w fun e w' => e = .returned (.bool true) ∧ Below w.heap.size w w' := by
  have g1 : decide ((4096 : Int) < (bx : Int)) = false := decide_eq_false (by omega)
  have g2 : decide ((4096 : Int) < (by' : Int)) = false := decide_eq_false (by omega)
  have g3 : decide ((4096 : Int) < (bz : Int)) = false := decide_eq_false (by omega)
  have g4 : decide ((4096 : Int) < (T : Int)) = false := decide_eq_false (by omega)
  have hXY := Nat.mul_le_mul hx hy
  have eT : (bx : Int) * (by' : Int) * (bz : Int) = (T : Int) := by rw [hT]; simp
  have p0 : (0 : Int) ≤ (bx : Int) * (by' : Int) := by rw [← Int.natCast_mul]; omega
  have p1 : (bx : Int) * (by' : Int) ≤ 16777216 := by rw [← Int.natCast_mul]; omega
  obtain ⟨nr, enr, hnr⟩ : ∃ n : Nat, x3 % 65 = (n : Int) ∧ n ≤ 64 := ⟨(x3 % 65).toNat, by omega, by omega⟩
  obtain ⟨eo, eeo, heo⟩ : ∃ n : Nat, x4 % 4097 = (n : Int) ∧ n ≤ 4096 := ⟨(x4 % 4097).toNat, by omega, by omega⟩
  obtain ⟨dy, edy, hdy⟩ : ∃ n : Nat, x5 % 4097 = (n : Int) ∧ n ≤ 4096 := ⟨(x5 % 4097).toNat, by omega, by omega⟩
  obtain ⟨i9, z9, hi9, hz9, hb9⟩ := info89'
  have b9 : i9.bytes * nr ≤ 1000000 * 64 := Nat.mul_le_mul hb9 hnr
  have HT := Hid.mk hT
  clear hXY hT
  go_enter Yba.func3, Yba.ntmps3
  go_wp2_with (at_make; refine wpList_make_any _ rfl _ _ 26 rfl 89 i9 z9 Yba.underlying26 hi9 hz9 _ _ _ _ nr rfl rfl ?c1 ?c2 ?c3 ?c4 ?_)
  case c1 => rfl
  case c2 => rfl
  case c3 => omega
  case c4 => omega
  intro w1 z1 x1
  have X1 := Hid.mk x1
  have Z1 := Hid.mk z1
  clear x1 z1 hi9 hz9 hb9 b9
  go_wp2_with fail
  refine (newCTA_any (w1.heap.size + 1) w1.heap.size 1 1 1 bx by' bz dy eo nr 0 0 0 0 _ (kat_new w1 _ 1 1 1 bx by' bz dy eo nr (some ⟨w.heap.size, 0, none⟩) nr rfl rfl) (by omega) (by omega) (by omega) (by omega) (by omega) rfl rfl rfl (by omega) (by omega) (by omega) (by omega) (by omega) (by omega) (by rw [← HT.out]; exact h)).mono ?_
  rintro e w2 ⟨cq, sm, wm, d, v, ps, rfl, hD⟩
  rw [← HT.out] at hD
  have hx2 : Ext w w2 := (X1.out.trans (((Ext.refl w1).alloc _).alloc _)).trans hD.made.ext
  have hK2 := (kat_new w1 _ 1 1 1 bx by' bz dy eo nr (some ⟨w.heap.size, 0, none⟩) nr rfl rfl).ext hD.made.ext
  obtain ⟨kq, hkq⟩ : ∃ kq, kq = w1.heap.size + 1 := ⟨_, rfl⟩
  rw [← hkq] at hD hK2 ⊢
  have HX2 := Hid.mk hx2
  have HW0 : Hid (w.heap.size ≤ d) := Nat.le_trans (X1.out.trans (((Ext.refl w1).alloc _).alloc _)).size hD.newd
  have HK2 := Hid.mk hK2
  have HD := Hid.mk hD
  obtain ⟨ra, cap, hv, hro⟩ := owns_open hD.owns rfl
  obtain ⟨N, hN⟩ : ∃ N, N = eo + dy := ⟨_, rfl⟩
  have eN : (eo : Int) + (dy : Int) = (N : Int) := by omega
  have hN1 : N ≤ 8192 := by omega
  obtain ⟨P, hP⟩ : ∃ P, P = ps.length := ⟨_, rfl⟩
  rw [← hP] at hv hro
  have hnum : P = (T + 31) / 32 := by rw [hP]; exact hD.num
  have HN := Hid.mk hN
  have HP := Hid.mk hP
  have HRo := Hid.mk hro
  have HNum := Hid.mk hnum
  subst hv
  have hcta := hD.made.cta
  have hsh := hD.made.sh
  have hwi := hD.made.wi
  rw [← hN] at hsh hwi
  have c0 : w2.cell? ⟨cq, 0, none⟩ = some (.int .u32 0) := by rw [cell_of_row w2 cq 0 _ 42 (0, 0) hcta]; rfl
  have c1 : w2.cell? ⟨cq, 1, none⟩ = some (.int .u32 0) := by rw [cell_of_row w2 cq 1 _ 42 (0, 0) hcta]; rfl
  have c2 : w2.cell? ⟨cq, 2, none⟩ = some (.int .u32 0) := by rw [cell_of_row w2 cq 2 _ 42 (0, 0) hcta]; rfl
  have c3 : w2.cell? ⟨cq, 3, none⟩ = some (.slice ra P cap) := by rw [cell_of_row w2 cq 3 _ 42 (0, 0) hcta]; rfl
  have c4 : w2.cell? ⟨cq, 4, none⟩ = some (.pointer (some ⟨sm, 0, none⟩)) := by rw [cell_of_row w2 cq 4 _ 42 (0, 0) hcta]; rfl
  have c5 : w2.cell? ⟨cq, 5, none⟩ = some (.pointer (some ⟨wm, 0, none⟩)) := by rw [cell_of_row w2 cq 5 _ 42 (0, 0) hcta]; rfl
  have s0 : w2.cell? ⟨sm, 0, none⟩ = some (.int .i64 3) := by rw [cell_of_row w2 sm 0 _ 45 (0, 0) hsh]; rfl
  have s1 : w2.cell? ⟨sm, 1, none⟩ = some (.int .u64 0) := by rw [cell_of_row w2 sm 1 _ 45 (0, 0) hsh]; rfl
  have s2 : w2.cell? ⟨sm, 2, none⟩ = some (.slice (some ⟨d, 0, none⟩) N N) := by rw [cell_of_row w2 sm 2 _ 45 (0, 0) hsh]; rfl
  have q0 : w2.cell? ⟨wm, 0, none⟩ = some (.int .i64 3) := by rw [cell_of_row w2 wm 0 _ 45 (0, 0) hwi]; rfl
  have q1 : w2.cell? ⟨wm, 1, none⟩ = some (.int .u64 17592186044416) := by rw [cell_of_row w2 wm 1 _ 45 (0, 0) hwi]; rfl
  have q2 : w2.cell? ⟨wm, 2, none⟩ = some (.slice (some ⟨d, 0, none⟩) N N) := by rw [cell_of_row w2 wm 2 _ 45 (0, 0) hwi]; rfl
  clear hD hx2 hK2 hro hcta hsh hwi hN hP hnum hkq X1 Z1
  go_wp2
  go_loopg [20] N (fun gk tk wx => ∃ k : Nat, k ≤ N ∧ gk = N - k ∧ tk = .int .i64 k ∧ w2 = wx)
  case atStart => exact ⟨0, by omega, rfl, rfl, rfl⟩
  case round =>
    obtain ⟨k, hk, rfl, rfl, rfl⟩ := hrel
    by_cases hlt : k < N
    · as_aux_lemma =>
        have hl : decide ((k : Int) < (N : Int)) = true := decide_eq_true (by omega)
        have dk : w2.cell? ⟨d, k, none⟩ = some (.int .u8 0) := by
          have hd := HD.out.made.dat
          rw [← HN.out] at hd
          rw [cell_of_row w2 d k _ 5 (0, 0) hd]; simp [row, hlt]
        go_wp2
        go_roundg (N - (k + 1))
        case measure => omega
        case rel => exact ⟨k + 1, by omega, rfl, by go_num, rfl⟩
    · have hl : decide ((k : Int) < (N : Int)) = false := decide_eq_false (by omega)
      obtain rfl : N = k := by omega
      clear hk hlt hl
      have HNl := Hid.mk (show N ≤ 8192 from hN1)
      go_upto_if 179 with fail
      go_cut [] from 30 (fun wx => Hid (AtW w wx kq cq P T (nr * 32) bx by' bz cap ra ps))
      case first =>
        as_aux_lemma =>
          by_cases hn0 : 0 < N
          · have hl : decide ((0 : Int) < (N : Int)) = true := decide_eq_true (by omega)
            have hd := HD.out.made.dat
            rw [← HN.out] at hd
            have d0 : w2.cell? ⟨d, 0, none⟩ = some (.int .u8 0) := by rw [cell_of_row w2 d 0 _ 5 (0, 0) hd]; simp [row, hn0]
            have f0 : w2.frozen? ⟨d, 0, none⟩ = false := frozen_of_row w2 d 0 _ 5 hd
            have hst := atW_stored HX2.out HW0.out (by rw [← HN.out]; exact hn0) HK2.out HD.out HP.out HRo.out (.int .u8 1)
            rw [← HN.out] at hst
            obtain ⟨hat, hwm, hcq, hd0⟩ := hst
            have HAt := Hid.mk hat
            have hcta := HD.out.made.cta
            rw [← hcq] at hcta
            have c5' : (w2.setCell ⟨d, 0, none⟩ (.int .u8 1)).cell? ⟨cq, 5, none⟩ = some (.pointer (some ⟨wm, 0, none⟩)) := by rw [cell_of_row _ cq 5 _ 42 (0, 0) hcta]; rfl
            have q2' : (w2.setCell ⟨d, 0, none⟩ (.int .u8 1)).cell? ⟨wm, 2, none⟩ = some (.slice (some ⟨d, 0, none⟩) N N) := by rw [cell_of_row _ wm 2 _ 45 (0, 0) hwm]; rfl
            clear hat hwm hcq hcta hd
            go_upto_region 27 with fail
            generalize w2.setCell ⟨d, 0, none⟩ (.int .u8 1) = w3 at HAt c5' q2' hd0 ⊢
            clear HD HX2 HK2 HRo c0 c1 c2 c3 c4 c5 s0 s1 s2 q0 q1 q2 d0 f0
            go_wp2
            go_meet
            case rel => exact HAt
          · have hl : decide ((0 : Int) < (N : Int)) = false := decide_eq_false (by omega)
            have HAt := Hid.mk (atW_start HX2.out HK2.out HD.out HP.out HRo.out)
            clear HD HX2 HK2 HRo
            go_wp2
            go_meet
            case rel => exact HAt
      case rest =>
        as_aux_lemma =>
          clear HD HX2 HK2 HRo c0 c1 c2 c3 c4 c5 s0 s1 s2 q0 q1 q2 HW0
          have HAt := hcut
          clear hcut
          have c3 := HAt.out.c3
          have eP : ((T : Int) + 31) / 32 = (P : Int) := by have := HNum.out; omega
          have HPc := Hid.mk (perCTA_any kq bx by' bz wc HAt.out.k4 HAt.out.k5 HAt.out.k6 (by omega) (by omega) (by omega) T HT.out h)
          rw [← HNum.out] at HPc
          go_wp2_with fail
          refine HPc.out.mono ?_
          rintro e w4 ⟨rfl, x4⟩
          have HA4 := Hid.mk (HAt.out.ext x4)
          clear x4 HAt HPc c3
          have c3 := HA4.out.c3
          go_wp2
          clear c3 eP
          have hP1 : P ≤ 129 := by have := HNum.out; omega
          have hPT : T ≤ 32 * P := by have := HNum.out; omega
          obtain ⟨nn, hnn⟩ : ∃ nn, nn = nr * 32 := ⟨_, rfl⟩
          have enn : (nr : Int) * 32 = (nn : Int) := by omega
          have hnn1 : nn ≤ 2048 := by omega
          rw [← hnn] at HA4
          have HNN := Hid.mk hnn
          clear hnn
          go_loopg [23] P (fun gk tk wx => ∃ k : Nat, k ≤ P ∧ gk = P - k ∧ tk = .int .i64 k ∧ Hid (AtW w wx kq cq P T nn bx by' bz cap ra ps))
          case atStart => exact ⟨0, by omega, rfl, rfl, HA4⟩
          case round =>
            obtain ⟨k, hk, rfl, rfl, HA⟩ := hrel
            clear HA4
            have c3 := HA.out.c3
            by_cases hlt : k < P
            · as_aux_lemma =>
                have hl : decide ((k : Int) < (P : Int)) = true := decide_eq_true (by omega)
                obtain ⟨g, rfl, cg⟩ := HA.out.row k hlt
                have hW := HA.out.warp k hlt
                obtain ⟨p, hp⟩ : ∃ p, p = ps.getD k 0 := ⟨_, rfl⟩
                obtain ⟨l, hl⟩ : ∃ l, l = lanes T k := ⟨_, rfl⟩
                rw [← hp] at cg hW
                rw [← hl] at hW
                have HL := Hid.mk hl
                have hl32 : l ≤ 32 := by rw [hl]; unfold lanes; omega
                have hkT : 32 * k < T := by have := HNum.out; omega
                clear hl hp
                obtain ⟨pb, rb, q1, q2, q3⟩ := hW
                have cg' : wr.cell? ⟨g, k, none⟩ = some (.pointer (some ⟨p, 0, none⟩)) := cg
                have m0 : wr.cell? ⟨p, 0, none⟩ = some (.pointer (some ⟨kq, 0, none⟩)) := by rw [cell_of_row wr p 0 _ 52 (0, 0) q1]; rfl
                have m1 : wr.cell? ⟨p, 1, none⟩ = some (.pointer (some ⟨cq, 0, none⟩)) := by rw [cell_of_row wr p 1 _ 52 (0, 0) q1]; rfl
                have m2 : wr.cell? ⟨p, 2, none⟩ = some (.int .i64 ((k : Int) * 32)) := by
                  rw [cell_of_row wr p 2 _ 52 (0, 0) q1, show (k : Int) * 32 = ((32 * k : Nat) : Int) by omega]; rfl
                have m3 : wr.cell? ⟨p, 3, none⟩ = some (.int .u32 (mask l)) := by rw [cell_of_row wr p 3 _ 52 (0, 0) q1]; rfl
                have m4 : wr.cell? ⟨p, 4, none⟩ = some (.int .u32 0) := by rw [cell_of_row wr p 4 _ 52 (0, 0) q1]; rfl
                have m5 : wr.cell? ⟨p, 5, none⟩ = some (.slice (some ⟨pb, 0, none⟩) 1 1) := by rw [cell_of_row wr p 5 _ 52 (0, 0) q1]; rfl
                have m6 : wr.cell? ⟨p, 6, none⟩ = some (.slice none 0 0) := by rw [cell_of_row wr p 6 _ 52 (0, 0) q1]; rfl
                have m7 : wr.cell? ⟨p, 7, none⟩ = some (.slice (some ⟨rb, 0, none⟩) nn nn) := by rw [cell_of_row wr p 7 _ 52 (0, 0) q1]; rfl
                have t0 : wr.cell? ⟨pb, 0, none⟩ = some (.int .i64 0) := by rw [cell_of_row wr pb 0 _ 54 (0, 0) q2]; rfl
                have t1 : wr.cell? ⟨pb, 1, none⟩ = some (.int .i64 (-1)) := by rw [cell_of_row wr pb 1 _ 54 (0, 0) q2]; rfl
                have t2 : wr.cell? ⟨pb, 2, none⟩ = some (.int .u32 (mask l)) := by rw [cell_of_row wr pb 2 _ 54 (0, 0) q2]; rfl
                have HQ1 := Hid.mk q1
                have HQ3 := Hid.mk q3
                clear q1 q2 q3 cg
                go_upto_if 240 with fail
                go_cut [26] (fun t wx => wr = wx ∧ t = .int .i64 l)
                case first =>
                  as_aux_lemma =>
                    by_cases hm : 32 < (T : Int) - (k : Int) * 32
                    · have hm' : decide (32 < (T : Int) - (k : Int) * 32) = true := decide_eq_true hm
                      go_wp2
                      go_meet
                      case rel => exact ⟨rfl, by rw [HL.out]; unfold lanes; congr 1; omega⟩
                    · have hm' : decide (32 < (T : Int) - (k : Int) * 32) = false := decide_eq_false hm
                      go_wp2
                      go_meet
                      case rel => exact ⟨rfl, by rw [HL.out]; unfold lanes; congr 1; omega⟩
                case rest =>
                  as_aux_lemma =>
                    obtain ⟨rfl, rfl⟩ := hcut
                    have HMa := Hid.mk (mask_any l wr hl32)
                    have e24 : ∀ (ad : Addr) (wx : World), (binOp .neq 24 (.pointer (some ad)) (.pointer (some ad))).run Yba.prog wx = .ok (.bool false) wx := fun ad wx => neq24 ad wx
                    have e38 : ∀ (ad : Addr) (wx : World), (binOp .neq 38 (.pointer (some ad)) (.pointer (some ad))).run Yba.prog wx = .ok (.bool false) wx := fun ad wx => neq38 ad wx
                    have e49 : ∀ (wx : World), (binOp .neq 49 (.slice none 0 0) (.slice none 0 0)).run Yba.prog wx = .ok (.bool false) wx := fun wx => neq49 wx
                    go_upto_region 51 with (go_at_call 9; refine HMa.out.mono ?_; rintro e w' ⟨rfl, hw'⟩; rw [hw'])
                    have x5 : Ext wr (wr.alloc (.cells #[.int .i64 0, .int .i64 (-1), .int .u32 (mask l)] 54)) := (Ext.refl _).alloc _
                    have HA5 := Hid.mk (HA.out.ext x5)
                    have q5 := x5.blk HQ1.out
                    have HQ5 := Hid.mk (x5.blk HQ3.out)
                    have m7' : (wr.alloc (.cells #[.int .i64 0, .int .i64 (-1), .int .u32 (mask l)] 54)).cell? ⟨p, 7, none⟩ = some (.slice (some ⟨rb, 0, none⟩) nn nn) := by rw [cell_of_row _ p 7 _ 52 (0, 0) q5]; rfl
                    clear x5 q5 HA HQ1 HQ3 HMa e24 e38 e49 m0 m1 m2 m3 m4 m5 m6 m7 t0 t1 t2 cg' c3
                    generalize wr.alloc (.cells #[.int .i64 0, .int .i64 (-1), .int .u32 (mask l)] 54) = w5 at HA5 HQ5 m7' ⊢
                    go_wp2
                    go_loopg [29] nn (fun gk tk wx => ∃ i : Nat, i ≤ nn ∧ gk = nn - i ∧ tk = .int .i64 i ∧ w5 = wx)
                    case atStart => exact ⟨0, by omega, rfl, rfl, rfl⟩
                    case round =>
                      obtain ⟨i, hi, rfl, rfl, rfl⟩ := hrel
                      by_cases hil : i < nn
                      · as_aux_lemma =>
                          have hl : decide ((i : Int) < (nn : Int)) = true := decide_eq_true (by omega)
                          have ri : w5.cell? ⟨rb, i, none⟩ = some (.int .u64 0) := by rw [cell_of_row w5 rb i _ 23 (0, 0) HQ5.out]; simp [row, hil]
                          go_wp2
                          go_roundg (nn - (i + 1))
                          case measure => omega
                          case rel => exact ⟨i + 1, by omega, rfl, by go_num, rfl⟩
                      · as_aux_lemma =>
                          have hl : decide ((i : Int) < (nn : Int)) = false := decide_eq_false (by omega)
                          go_wp2
                          go_roundg (P - (k + 1))
                          case measure => omega
                          case rel => exact ⟨k + 1, by omega, rfl, by go_num, HA5⟩
            · as_aux_lemma =>
                have hl : decide ((k : Int) < (P : Int)) = false := decide_eq_false (by omega)
                have HBel := Hid.mk HA.out.bel
                clear HA
                go_wp2
                go_ret
                exact ⟨rfl, HBel.out⟩

end Go.Proofs.Ybulkanvk
