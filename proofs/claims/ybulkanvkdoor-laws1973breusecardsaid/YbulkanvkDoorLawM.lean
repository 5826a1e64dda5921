/-
  Seat b1973aD: LawS1973BModel: the walk.
-/
import Derived.Test.YbulkanvkDoorCycles
namespace Go.Proofs.YbulkanvkDoor
open Go.RowKit

theorem size24 : (Ybad.prog.info? 24).map (fun i => i.size) = some 32 := by kernel_rfl

theorem zeros_lit : (#[.int .u64 0, .int .u64 0, .int .u64 0, .int .u64 0, .int .u64 0, .int .u64 0, .int .u64 0, .int .u64 0, .int .u64 0, .int .u64 0, .int .u64 0, .int .u64 0, .int .u64 0, .int .u64 0, .int .u64 0, .int .u64 0, .int .u64 0, .int .u64 0, .int .u64 0, .int .u64 0, .int .u64 0, .int .u64 0, .int .u64 0, .int .u64 0, .int .u64 0, .int .u64 0, .int .u64 0, .int .u64 0, .int .u64 0, .int .u64 0, .int .u64 0, .int .u64 0] : Array Value) = zeros32 := rfl

/-- A new array variable, written whole. -/
theorem wide_world (w5 : World) (us : Array Value) (hu : us.size = 32) :
    ((w5.alloc (.cells zeros32 41)).setCells w5.heap.size 0 us.toList).heap[w5.heap.size]? = some (.cells us 41 (0, 0)) ∧ Ext w5 ((w5.alloc (.cells zeros32 41)).setCells w5.heap.size 0 us.toList) ∧
    ((w5.alloc (.cells zeros32 41)).setCells w5.heap.size 0 us.toList).heap.size = w5.heap.size + 1 := by
  have hb := one_new w5 (.cells zeros32 41)
  refine ⟨?_, Ext.setCells _ (Nat.le_refl _) _ _ _ ((Ext.refl _).alloc _), by rw [size_setCells]; exact hb.2⟩
  have := heap_setCells 41 w5.heap.size us.toList 0 [] (w5.alloc (.cells zeros32 41)) zeros32 rfl (by simp [zeros32, hu]) rfl hb.1
  simpa using this

/-- The array's cells as cycles and the model want them. -/
theorem wide_cells {w : World} {aq : Nat} {L : List Int} (hL : L.length = 32) (hLb : ∀ j, 0 ≤ L.getD j 0 ∧ L.getD j 0 ≤ 65535) (h : w.heap[aq]? = some (.cells (L.map (Value.int .u64)).toArray 41 (0, 0))) :
    ∀ i, i < 32 → w.cell? ⟨aq, i, none⟩ = some (.int .u64 (((L.getD i 0).toNat : Nat) : Int)) := by
  intro i hi
  have := hLb i
  rw [cell_of_row w aq i _ 41 (0, 0) h, Int.toNat_of_nonneg this.1]
  simp [List.getD, show i < L.length by omega]

theorem Port.ext {w w' : World} {pq cfq gb n bb : Nat} {v : Value} {P : List Int} (h : Port w pq cfq gb n bb v P) (x : Ext w w') : Port w' pq cfq gb n bb v P := by
  refine ⟨h.len, ?_, x.blk h.cfg, x.blk h.per⟩
  obtain ⟨c1, c2, c3, c4, c5, c6, c7, ho⟩ := h.obj
  exact ⟨c1, c2, c3, c4, c5, c6, c7, x.blk ho⟩

set_option maxHeartbeats 2000000 in
set_option maxRecDepth 100000 in
theorem walkM (x0 x1 x2 x3 : Int) (m : Nat) (L : List Int) (w : World) (h0 : 0 ≤ x0) (h0' : x0 ≤ 255) (h1 : 0 ≤ x1) (h1' : x1 ≤ 255) (h2 : 0 ≤ x2) (h2' : x2 ≤ 255) (h3 : 0 ≤ x3) (h3' : x3 ≤ 255) (hm : m < 4294967296)
    (hL : L.length = 32) (hLb : ∀ j, 0 ≤ L.getD j 0 ∧ L.getD j 0 ≤ 65535) (hT : Go.Proofs.TabAt 0 Lib.deBruijn32tab w) (hw0 : 0 < w.heap.size) :
    Calls Ybad.prog 3 #[.int .u8 x0, .int .u8 x1, .int .u8 x2, .int .u8 x3, .int .u32 m, .agg (L.map (Value.int .u16)).toArray] w fun e w' => e = .returned (.bool true) ∧ Below w.heap.size w w' := by
  obtain ⟨cs, hcs⟩ : ∃ cs, cs = (L.map (Value.int .u16)).toArray := ⟨_, rfl⟩
  rw [← hcs]
  obtain ⟨kk, ek, hk5⟩ : ∃ kk : Nat, x0 % 5 = (kk : Int) ∧ kk < 5 := ⟨(x0 % 5).toNat, by omega, by omega⟩
  obtain ⟨n, en, hn0, hn1⟩ : ∃ n : Nat, 1 + x1 % 32 = (n : Int) ∧ 0 < n ∧ n ≤ 32 := ⟨(1 + x1 % 32).toNat, by omega, by omega, by omega⟩
  obtain ⟨bb, eb, hb0, hb1⟩ : ∃ bb : Nat, 1 + x2 % 8 = (bb : Int) ∧ 0 < bb ∧ bb ≤ 8 := ⟨(1 + x2 % 8).toNat, by omega, by omega, by omega⟩
  obtain ⟨size, es, hs0, hs1⟩ : ∃ size : Nat, 1 + x3 % 16 = (size : Int) ∧ 0 < size ∧ size ≤ 16 := ⟨(1 + x3 % 16).toNat, by omega, by omega, by omega⟩
  have HL := Hid.mk hL
  have HLb := Hid.mk hLb
  have HC := Hid.mk hcs
  have HT := Hid.mk hT
  clear hL hLb hcs hT
  go_enter Ybad.func3, Ybad.ntmps3
  go_wp2_with fail
  have n1 := one_new w (.cells cs 24)
  have n2 := one_new (w.alloc (.cells cs 24)) (.cells #[.int .i64 n, .int .i64 bb, .int .i64 3] 27)
  have x2 : Ext w ((w.alloc (.cells cs 24)).alloc (.cells #[.int .i64 n, .int .i64 bb, .int .i64 3] 27)) := ((Ext.refl w).alloc _).alloc _
  have m1 := ((Ext.refl (w.alloc (.cells cs 24))).alloc (.cells #[.int .i64 n, .int .i64 bb, .int .i64 3] 27)).blk n1.1
  rw [n1.2] at n2
  generalize (w.alloc (.cells cs 24)).alloc (.cells #[.int .i64 n, .int .i64 bb, .int .i64 3] 27) = w2 at n2 x2 m1 ⊢
  refine (newPort_any (w.heap.size + 1) n bb w2 n2.1 (by omega)).mono ?_
  rintro e w3 ⟨rfl, x3', z3, r3⟩
  have hz2 : w2.heap.size = w.heap.size + 2 := n2.2
  rw [hz2] at z3 r3
  rw [hz2]
  have X3 := Hid.mk (x2.trans x3')
  have HCf := Hid.mk (x3'.blk n2.1)
  have HCs := Hid.mk (x3'.blk m1)
  have HR3 := Hid.mk r3
  have HZ3 := Hid.mk z3
  clear n1 n2 x2 m1 hz2 x3' z3 r3 w2
  go_upto_region 7 with fail
  have hB : ∃ w4, w4 = w3.alloc (.cells #[.pointer (some ⟨w.heap.size + 1, 0, none⟩), .int .i64 0, .pointer none, .slice none 0 0, .int .i64 0, .int .i64 0, .int .i64 0, .int .i64 0, .slice none 0 0, .slice (some ⟨w.heap.size + 2 + 1, 0, none⟩) n n] 38) := ⟨_, rfl⟩
  obtain ⟨w4, hw4⟩ := hB
  rw [← hw4]
  have b4 : w4.heap[w.heap.size + 4]? = some (.cells #[.pointer (some ⟨w.heap.size + 1, 0, none⟩), .int .i64 0, .pointer none, .slice none 0 0, .int .i64 0, .int .i64 0, .int .i64 0, .int .i64 0, .slice none 0 0, .slice (some ⟨w.heap.size + 2 + 1, 0, none⟩) n n] 38 (0, 0)) := by
    rw [hw4]; have := (one_new w3 (.cells #[.pointer (some ⟨w.heap.size + 1, 0, none⟩), .int .i64 0, .pointer none, .slice none 0 0, .int .i64 0, .int .i64 0, .int .i64 0, .int .i64 0, .slice none 0 0, .slice (some ⟨w.heap.size + 2 + 1, 0, none⟩) n n] 38)).1; rw [HZ3.out] at this; exact this
  have x4 : Ext w3 w4 := by rw [hw4]; exact (Ext.refl _).alloc _
  have z4 : w4.heap.size = w.heap.size + 5 := by rw [hw4]; have := (one_new w3 (.cells #[.pointer (some ⟨w.heap.size + 1, 0, none⟩), .int .i64 0, .pointer none, .slice none 0 0, .int .i64 0, .int .i64 0, .int .i64 0, .int .i64 0, .slice none 0 0, .slice (some ⟨w.heap.size + 2 + 1, 0, none⟩) n n] 38)).2; rw [HZ3.out] at this; exact this
  rw [HZ3.out, show w.heap.size + 2 + 2 = w.heap.size + 4 from rfl]
  have X4 := Hid.mk (X3.out.trans x4)
  have HCf4 := Hid.mk (x4.blk HCf.out)
  have HCs4 := Hid.mk (x4.blk HCs.out)
  have HR4 := Hid.mk (x4.blk HR3.out)
  have HB4 := Hid.mk b4
  have HZ4 := Hid.mk z4
  have hi24 : (Ybad.prog.info? 24).map (·.size) = some cs.size := by
    have e : cs.size = 32 := by rw [HC.out]; simp [HL.out]
    rw [e]; exact size24
  clear x4 b4 z4 hw4 X3 HCf HCs HR3 HZ3 w3
  go_wp2_with (refine wpList_load_row rfl 24 _ rfl w.heap.size rfl 24 _ (0, 0) _ HCs4.out Ybad.underlying24 rfl hi24 ?_)
  have HWd : Hid (Calls Ybad.prog 6 #[.agg cs] w4 fun e w' => e = .returned (.agg (L.map (Value.int .u64)).toArray) ∧ Ext w4 w') := by
    have := widen_any L w4 HL.out HLb.out; rw [← HC.out] at this; exact this
  refine HWd.out.mono ?_
  rintro e w5 ⟨rfl, x5⟩
  have X5 := Hid.mk x5
  clear x5 HWd hi24
  obtain ⟨us, hus⟩ : ∃ us, us = (L.map (Value.int .u64)).toArray := ⟨_, rfl⟩
  have hi41 : (Ybad.prog.info? 41).map (·.size) = some us.size := by
    have e : us.size = 32 := by rw [hus]; simp [HL.out]
    rw [e]; exact size41
  have hth : (w5.alloc (.cells zeros32 41)).there w5.heap.size 0 us.size := by
    intro j hj
    have hj' : j < 32 := by rw [hus] at hj; simpa [HL.out] using hj
    have hb := (one_new w5 (.cells zeros32 41)).1
    rw [Nat.zero_add]
    refine ⟨?_, frozen_of_row _ _ j _ 41 hb⟩
    rw [cell_of_row _ _ j _ 41 (0, 0) hb]
    simp [zeros32, hj']
  have hoc : us.all (·.oneCell') = true := by rw [hus]; exact all_oneCell_toArray (ints_oneCell _ _)
  rw [← hus]
  have HUS := Hid.mk hus
  clear hus
  have HTH := Hid.mk hth
  have HOC := Hid.mk hoc
  clear hth hoc
  go_wp2_with (refine wpList_store_mid rfl 41 _ _ rfl w5.heap.size 0 us rfl rfl HTH.out hi41 HOC.out ?_)
  rw [zeros_lit]
  have hwd := wide_world w5 us (by rw [HUS.out]; simp [HL.out])
  obtain ⟨w6, hw6⟩ : ∃ w6, w6 = (w5.alloc (.cells zeros32 41)).setCells w5.heap.size 0 us.toList := ⟨_, rfl⟩
  rw [← hw6] at hwd ⊢
  obtain ⟨ha6, x6, z6⟩ := hwd
  rw [HUS.out] at ha6
  have X6 : Ext w w6 := (X4.out.trans X5.out).trans x6
  have hz5 : w.heap.size + 5 ≤ w5.heap.size := by have := X5.out.size; rw [HZ4.out] at this; exact this
  have hS : St w6 w6 (w.heap.size + 4) (w.heap.size + 1) (w.heap.size + 2 + 1) n bb (w5.heap.size + 1) (.slice none 0 0) [] (List.replicate n 0) := by
    have x := X5.out.trans x6
    refine ⟨⟨by simp, ⟨_, _, _, _, _, _, _, x.blk HB4.out⟩, x.blk HCf4.out, ?_⟩, World.ownsRow_nil _ _ _ _, Kept.refl _ _, by rw [z6]; omega, by omega, by omega, by omega⟩
    rw [x.blk HR4.out]; simp [row]
  have hT6 : Go.Proofs.TabAt 0 Lib.deBruijn32tab w6 := fun j hj => X6.cell (HT.out j hj)
  have hA6 := wide_cells HL.out HLb.out ha6
  have hA1 : ∀ i, (L.getD i 0).toNat ≤ 65535 := fun i => by have := HLb.out i; omega
  obtain ⟨am, ham⟩ : ∃ am : Bool, am = (kk == 3 || kk == 4) := ⟨_, rfl⟩
  refine (cycles_any (w.heap.size + 4) (w.heap.size + 1) (w.heap.size + 2 + 1) n bb (w5.heap.size + 1) size m w5.heap.size kk am (fun i => (L.getD i 0).toNat) _ [] w6 hS hA6 hA1 ham hT6 ⟨by omega, by omega, by omega⟩ ⟨by omega, by omega, by omega⟩ hn0 hn1 hb0 hb1 hs0 hs1 hm).mono ?_
  rintro e w7 ⟨v', rfl, hS7⟩
  have hA7 : ∀ i, i < 32 → w7.cell? ⟨w5.heap.size, i, none⟩ = some (.int .u64 (((L.getD i 0).toNat : Nat) : Int)) := fun i hi => hS7.kept.cell (hA6 i hi) ⟨by show w5.heap.size < w5.heap.size + 1; omega, by show w5.heap.size ≠ w.heap.size + 4; omega, by show w5.heap.size ≠ w.heap.size + 2 + 1; omega⟩
  have HMod := Hid.mk (model_any am n bb size m w5.heap.size (fun i => (L.getD i 0).toNat) w7 hA7 hA1 hn0 hn1 hb0 hb1 hs0 hs1 hm)
  have HZe : Hid (∀ w8, Ext w7 w8 → Calls Ybad.prog 9 #[.pointer (some ⟨w.heap.size + 4, 0, none⟩)] w8 fun e w' => e = .returned (.bool true) ∧ w' = w8) := fun w8 x8 => zero_any _ _ _ n bb _ w8 (hS7.port.ext x8) (by omega)
  have HBel : Hid (Below w.heap.size w w7) := by
    have k7 : Kept (· < w.heap.size) w6 w7 := hS7.kept.mono (fun k _ hk => by have : k < w.heap.size := hk; exact ⟨by omega, by omega, by omega⟩)
    exact X6.below.trans (k7.below (by omega))
  generalize Pl.runL am bb size (fun i => (L.getD i 0).toNat) (Pl.lanesFrom m 0) [] = WW at HMod
  clear hS7 hA7 hA6 hT6 hS ha6 x6 z6 hw6 X6
  have HAM := Hid.mk ham
  clear ham
  by_cases c3 : kk = 3
  · have q3 : ((kk : Int) == 3) = true := by simp; omega
    have ea : am = true := by rw [HAM.out, c3]; rfl
    subst ea
    have H3 := Hid.mk c3
    clear c3
    go_wp2_with fail
    refine HMod.out.mono ?_
    rintro e w8 ⟨rfl, x8⟩
    have HB8 := Hid.mk (HBel.out.trans (x8.below.mono HBel.out.size))
    have HZ8 := Hid.mk (HZe.out w8 x8)
    clear x8 HMod HZe HBel
    go_wp2_with (go_at_call 9; refine HZ8.out.mono ?_; rintro e w' ⟨rfl, hw'⟩; rw [hw'])
    go_ret
    exact ⟨rfl, HB8.out⟩
  · have q3 : ((kk : Int) == 3) = false := by simp; omega
    by_cases c4 : kk = 4
    · have q4 : ((kk : Int) == 4) = true := by simp; omega
      have ea : am = true := by rw [HAM.out, c4]; rfl
      subst ea
      have H4 := Hid.mk c4
      clear c4
      go_wp2_with fail
      refine HMod.out.mono ?_
      rintro e w8 ⟨rfl, x8⟩
      have HB8 := Hid.mk (HBel.out.trans (x8.below.mono HBel.out.size))
      have HZ8 := Hid.mk (HZe.out w8 x8)
      clear x8 HMod HZe HBel
      go_wp2_with (go_at_call 9; refine HZ8.out.mono ?_; rintro e w' ⟨rfl, hw'⟩; rw [hw'])
      go_ret
      exact ⟨rfl, HB8.out⟩
    · have q4 : ((kk : Int) == 4) = false := by simp; omega
      have ea : am = false := by rw [HAM.out]; simp [c3, c4]
      subst ea
      go_wp2_with fail
      refine HMod.out.mono ?_
      rintro e w8 ⟨rfl, x8⟩
      have HB8 := Hid.mk (HBel.out.trans (x8.below.mono HBel.out.size))
      have HZ8 := Hid.mk (HZe.out w8 x8)
      clear x8 HMod HZe HBel
      go_wp2_with (go_at_call 9; refine HZ8.out.mono ?_; rintro e w' ⟨rfl, hw'⟩; rw [hw'])
      go_ret
      exact ⟨rfl, HB8.out⟩

end Go.Proofs.YbulkanvkDoor
