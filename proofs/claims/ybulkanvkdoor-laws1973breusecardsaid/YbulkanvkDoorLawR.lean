/-
  Seat b1973aD: LawS1973BReuse: the walk.
-/
import Derived.Test.YbulkanvkDoorLawM
namespace Go.Proofs.YbulkanvkDoor
open Go.RowKit

theorem kk_cases (kk : Nat) (am : Bool) (h : am = (kk == 3 || kk == 4)) : ((((kk : Int) == 3) = true ∧ am = true) ∨ (((kk : Int) == 3) = false ∧ ((kk : Int) == 4) = true ∧ am = true)) ∨ (((kk : Int) == 3) = false ∧ ((kk : Int) == 4) = false ∧ am = false) := by
  by_cases h3 : kk = 3
  · exact .inl (.inl ⟨by simp; omega, by rw [h, h3]; rfl⟩)
  · by_cases h4 : kk = 4
    · exact .inl (.inr ⟨by simp; omega, by simp; omega, by rw [h, h4]; rfl⟩)
    · exact .inr ⟨by simp; omega, by simp; omega, by rw [h]; simp [h3, h4]⟩

theorem St.again {w wx : World} {pq cfq gb n bb base : Nat} {v : Value} {Ws : List Nat} {P : List Int} (h : St w wx pq cfq gb n bb base v Ws P) : St wx wx pq cfq gb n bb base v Ws P :=
  ⟨h.port, h.owns, Kept.refl _ _, h.size, h.lp, h.lc, h.lg⟩

set_option maxHeartbeats 4000000 in
set_option maxRecDepth 100000 in
theorem walkR (x0 x1 x2 x3 x4 x5 : Int) (m m' : Nat) (L L' : List Int) (w : World) (h0 : 0 ≤ x0) (h0' : x0 ≤ 255) (h1 : 0 ≤ x1) (h1' : x1 ≤ 255) (h2 : 0 ≤ x2) (h2' : x2 ≤ 255) (h3 : 0 ≤ x3) (h3' : x3 ≤ 255) (h4 : 0 ≤ x4) (h4' : x4 ≤ 255) (h5 : 0 ≤ x5) (h5' : x5 ≤ 255)
    (hm : m < 4294967296) (hm' : m' < 4294967296) (hL : L.length = 32) (hLb : ∀ j, 0 ≤ L.getD j 0 ∧ L.getD j 0 ≤ 65535) (hL' : L'.length = 32) (hLb' : ∀ j, 0 ≤ L'.getD j 0 ∧ L'.getD j 0 ≤ 65535) (hT : Go.Proofs.TabAt 0 Lib.deBruijn32tab w) (hw0 : 0 < w.heap.size) :
    Calls Ybad.prog 4 #[.int .u8 x0, .int .u8 x1, .int .u8 x2, .int .u8 x3, .int .u8 x4, .int .u8 x5, .int .u32 m, .int .u32 m', .agg (L.map (Value.int .u16)).toArray, .agg (L'.map (Value.int .u16)).toArray] w fun e w' => e = .returned (.bool true) ∧ Below w.heap.size w w' := by
  obtain ⟨cs, hcs⟩ : ∃ cs, cs = (L.map (Value.int .u16)).toArray := ⟨_, rfl⟩
  rw [← hcs]
  obtain ⟨ds, hds⟩ : ∃ ds, ds = (L'.map (Value.int .u16)).toArray := ⟨_, rfl⟩
  rw [← hds]
  obtain ⟨kk, ek, hk5⟩ : ∃ kk : Nat, x0 % 5 = (kk : Int) ∧ kk < 5 := ⟨(x0 % 5).toNat, by omega, by omega⟩
  obtain ⟨kk', ek', hk5'⟩ : ∃ kk : Nat, x1 % 5 = (kk : Int) ∧ kk < 5 := ⟨(x1 % 5).toNat, by omega, by omega⟩
  obtain ⟨n, en, hn0, hn1⟩ : ∃ n : Nat, 1 + x2 % 32 = (n : Int) ∧ 0 < n ∧ n ≤ 32 := ⟨(1 + x2 % 32).toNat, by omega, by omega, by omega⟩
  obtain ⟨bb, eb, hb0, hb1⟩ : ∃ bb : Nat, 1 + x3 % 8 = (bb : Int) ∧ 0 < bb ∧ bb ≤ 8 := ⟨(1 + x3 % 8).toNat, by omega, by omega, by omega⟩
  obtain ⟨size, es, hs0, hs1⟩ : ∃ size : Nat, 1 + x4 % 16 = (size : Int) ∧ 0 < size ∧ size ≤ 16 := ⟨(1 + x4 % 16).toNat, by omega, by omega, by omega⟩
  obtain ⟨size', es', hs0', hs1'⟩ : ∃ size : Nat, 1 + x5 % 16 = (size : Int) ∧ 0 < size ∧ size ≤ 16 := ⟨(1 + x5 % 16).toNat, by omega, by omega, by omega⟩
  have HL := Hid.mk hL
  have HLb := Hid.mk hLb
  have HC := Hid.mk hcs
  have HL2 := Hid.mk hL'
  have HLb2 := Hid.mk hLb'
  have HC2 := Hid.mk hds
  have HT := Hid.mk hT
  clear hL hLb hcs hL' hLb' hds hT
  go_enter Ybad.func4, Ybad.ntmps4
  go_wp2_with fail
  have n1 := one_new w (.cells cs 24)
  have n2 := one_new (w.alloc (.cells cs 24)) (.cells ds 24)
  have n3 := one_new ((w.alloc (.cells cs 24)).alloc (.cells ds 24)) (.cells #[.int .i64 n, .int .i64 bb, .int .i64 3] 27)
  have x2' : Ext w (((w.alloc (.cells cs 24)).alloc (.cells ds 24)).alloc (.cells #[.int .i64 n, .int .i64 bb, .int .i64 3] 27)) := (((Ext.refl w).alloc _).alloc _).alloc _
  have m1 := (((Ext.refl (w.alloc (.cells cs 24))).alloc (.cells ds 24)).alloc (.cells #[.int .i64 n, .int .i64 bb, .int .i64 3] 27)).blk n1.1
  have m2 := ((Ext.refl ((w.alloc (.cells cs 24)).alloc (.cells ds 24))).alloc (.cells #[.int .i64 n, .int .i64 bb, .int .i64 3] 27)).blk n2.1
  rw [n2.2, n1.2] at n3
  rw [n1.2] at m2
  generalize ((w.alloc (.cells cs 24)).alloc (.cells ds 24)).alloc (.cells #[.int .i64 n, .int .i64 bb, .int .i64 3] 27) = w2 at n3 x2' m1 m2 ⊢
  refine (newPort_any (w.heap.size + 2) n bb w2 n3.1 (by omega)).mono ?_
  rintro e w3 ⟨rfl, x3w, z3, r3⟩
  have hz2 : w2.heap.size = w.heap.size + 3 := n3.2
  rw [hz2] at z3 r3
  rw [hz2]
  have X3 := Hid.mk (x2'.trans x3w)
  have HCf := Hid.mk (x3w.blk n3.1)
  have HCs := Hid.mk (x3w.blk m1)
  have HDs := Hid.mk (x3w.blk m2)
  have HR3 := Hid.mk r3
  have HZ3 := Hid.mk z3
  clear n1 n2 n3 x2' m1 m2 hz2 x3w z3 r3 w2
  go_upto_region 9 with fail
  have hB : ∃ w4, w4 = w3.alloc (.cells #[.pointer (some ⟨w.heap.size + 2, 0, none⟩), .int .i64 0, .pointer none, .slice none 0 0, .int .i64 0, .int .i64 0, .int .i64 0, .int .i64 0, .slice none 0 0, .slice (some ⟨w.heap.size + 3 + 1, 0, none⟩) n n] 38) := ⟨_, rfl⟩
  obtain ⟨w4, hw4⟩ := hB
  rw [← hw4]
  have b4 : w4.heap[w.heap.size + 5]? = some (.cells #[.pointer (some ⟨w.heap.size + 2, 0, none⟩), .int .i64 0, .pointer none, .slice none 0 0, .int .i64 0, .int .i64 0, .int .i64 0, .int .i64 0, .slice none 0 0, .slice (some ⟨w.heap.size + 3 + 1, 0, none⟩) n n] 38 (0, 0)) := by
    rw [hw4]; have := (one_new w3 (.cells #[.pointer (some ⟨w.heap.size + 2, 0, none⟩), .int .i64 0, .pointer none, .slice none 0 0, .int .i64 0, .int .i64 0, .int .i64 0, .int .i64 0, .slice none 0 0, .slice (some ⟨w.heap.size + 3 + 1, 0, none⟩) n n] 38)).1; rw [HZ3.out] at this; exact this
  have x4w : Ext w3 w4 := by rw [hw4]; exact (Ext.refl _).alloc _
  have z4 : w4.heap.size = w.heap.size + 6 := by rw [hw4]; have := (one_new w3 (.cells #[.pointer (some ⟨w.heap.size + 2, 0, none⟩), .int .i64 0, .pointer none, .slice none 0 0, .int .i64 0, .int .i64 0, .int .i64 0, .int .i64 0, .slice none 0 0, .slice (some ⟨w.heap.size + 3 + 1, 0, none⟩) n n] 38)).2; rw [HZ3.out] at this; exact this
  rw [HZ3.out, show w.heap.size + 3 + 2 = w.heap.size + 5 from rfl]
  have X4 := Hid.mk (X3.out.trans x4w)
  have HCf4 := Hid.mk (x4w.blk HCf.out)
  have HCs4 := Hid.mk (x4w.blk HCs.out)
  have HDs4 := Hid.mk (x4w.blk HDs.out)
  have HR4 := Hid.mk (x4w.blk HR3.out)
  have HB4 := Hid.mk b4
  have HZ4 := Hid.mk z4
  clear x4w b4 z4 hw4 X3 HCf HCs HDs HR3 HZ3 w3
  have hi24a : (Ybad.prog.info? 24).map (·.size) = some cs.size := by
    have e : cs.size = 32 := by rw [HC.out]; simp [HL.out]
    rw [e]; exact size24
  go_wp2_with (refine wpList_load_row rfl 24 _ rfl (w.heap.size) rfl 24 _ (0, 0) _ HCs4.out Ybad.underlying24 rfl hi24a ?_)
  have HWda : Hid (Calls Ybad.prog 6 #[.agg cs] w4 fun e w' => e = .returned (.agg (L.map (Value.int .u64)).toArray) ∧ Ext w4 w') := by
    have := widen_any L w4 HL.out HLb.out; rw [← HC.out] at this; exact this
  refine HWda.out.mono ?_
  rintro e w5 ⟨rfl, xwa⟩
  have XWa := Hid.mk xwa
  clear xwa HWda hi24a
  obtain ⟨us, husa⟩ : ∃ us, us = (L.map (Value.int .u64)).toArray := ⟨_, rfl⟩
  have hi41a : (Ybad.prog.info? 41).map (·.size) = some us.size := by
    have e : us.size = 32 := by rw [husa]; simp [HL.out]
    rw [e]; exact size41
  have HTHa : Hid ((w5.alloc (.cells zeros32 41)).there w5.heap.size 0 us.size) := by
    intro j hj
    have hj' : j < 32 := by rw [husa] at hj; simpa [HL.out] using hj
    have hb := (one_new w5 (.cells zeros32 41)).1
    rw [Nat.zero_add]
    refine ⟨?_, frozen_of_row _ _ j _ 41 hb⟩
    rw [cell_of_row _ _ j _ 41 (0, 0) hb]
    simp [zeros32, hj']
  have HOCa : Hid (us.all (·.oneCell') = true) := by show _ = _; rw [husa]; exact all_oneCell_toArray (ints_oneCell _ _)
  rw [← husa]
  have HUSa := Hid.mk husa
  clear husa
  go_upto_region 10 with (refine wpList_store_mid rfl 41 _ _ rfl w5.heap.size 0 us rfl rfl HTHa.out hi41a HOCa.out ?_)
  rw [zeros_lit]
  have hwda := wide_world w5 us (by rw [HUSa.out]; simp [HL.out])
  obtain ⟨w6, hwoa⟩ : ∃ w6, w6 = (w5.alloc (.cells zeros32 41)).setCells w5.heap.size 0 us.toList := ⟨_, rfl⟩
  rw [← hwoa] at hwda ⊢
  obtain ⟨haa, xoa, zoa⟩ := hwda
  rw [HUSa.out] at haa
  have HAa := Hid.mk haa
  have XOa := Hid.mk xoa
  have HZOa := Hid.mk zoa
  clear haa xoa zoa hwoa HTHa HOCa hi41a
  have HDs6 := Hid.mk (XOa.out.blk (XWa.out.blk HDs4.out))
  have hi24b : (Ybad.prog.info? 24).map (·.size) = some ds.size := by
    have e : ds.size = 32 := by rw [HC2.out]; simp [HL2.out]
    rw [e]; exact size24
  go_wp2_with (refine wpList_load_row rfl 24 _ rfl (w.heap.size + 1) rfl 24 _ (0, 0) _ HDs6.out Ybad.underlying24 rfl hi24b ?_)
  have HWdb : Hid (Calls Ybad.prog 6 #[.agg ds] w6 fun e w' => e = .returned (.agg (L'.map (Value.int .u64)).toArray) ∧ Ext w6 w') := by
    have := widen_any L' w6 HL2.out HLb2.out; rw [← HC2.out] at this; exact this
  refine HWdb.out.mono ?_
  rintro e w7 ⟨rfl, xwb⟩
  have XWb := Hid.mk xwb
  clear xwb HWdb hi24b
  obtain ⟨vs, husb⟩ : ∃ us, us = (L'.map (Value.int .u64)).toArray := ⟨_, rfl⟩
  have hi41b : (Ybad.prog.info? 41).map (·.size) = some vs.size := by
    have e : vs.size = 32 := by rw [husb]; simp [HL2.out]
    rw [e]; exact size41
  have HTHb : Hid ((w7.alloc (.cells zeros32 41)).there w7.heap.size 0 vs.size) := by
    intro j hj
    have hj' : j < 32 := by rw [husb] at hj; simpa [HL2.out] using hj
    have hb := (one_new w7 (.cells zeros32 41)).1
    rw [Nat.zero_add]
    refine ⟨?_, frozen_of_row _ _ j _ 41 hb⟩
    rw [cell_of_row _ _ j _ 41 (0, 0) hb]
    simp [zeros32, hj']
  have HOCb : Hid (vs.all (·.oneCell') = true) := by show _ = _; rw [husb]; exact all_oneCell_toArray (ints_oneCell _ _)
  rw [← husb]
  have HUSb := Hid.mk husb
  clear husb
  go_wp2_with (refine wpList_store_mid rfl 41 _ _ rfl w7.heap.size 0 vs rfl rfl HTHb.out hi41b HOCb.out ?_)
  rw [zeros_lit]
  have hwdb := wide_world w7 vs (by rw [HUSb.out]; simp [HL2.out])
  obtain ⟨w8, hwob⟩ : ∃ w6, w6 = (w7.alloc (.cells zeros32 41)).setCells w7.heap.size 0 vs.toList := ⟨_, rfl⟩
  rw [← hwob] at hwdb ⊢
  obtain ⟨hab, xob, zob⟩ := hwdb
  rw [HUSb.out] at hab
  have HAb := Hid.mk hab
  have XOb := Hid.mk xob
  have HZOb := Hid.mk zob
  clear hab xob zob hwob HTHb HOCb hi41b
  have X68 := Hid.mk (XWb.out.trans XOb.out)
  have X8 := Hid.mk ((X4.out.trans (XWa.out.trans XOa.out)).trans X68.out)
  have hz5 : w.heap.size + 6 ≤ w5.heap.size := by have := XWa.out.size; rw [HZ4.out] at this; exact this
  have hz7 : w5.heap.size + 1 ≤ w7.heap.size := by have := XWb.out.size; rw [HZOa.out] at this; exact this
  have hS : St w8 w8 (w.heap.size + 5) (w.heap.size + 2) (w.heap.size + 3 + 1) n bb (w7.heap.size + 1) (.slice none 0 0) [] (List.replicate n 0) := by
    have x := (XWa.out.trans XOa.out).trans X68.out
    refine ⟨⟨by simp, ⟨_, _, _, _, _, _, _, x.blk HB4.out⟩, x.blk HCf4.out, ?_⟩, World.ownsRow_nil _ _ _ _, Kept.refl _ _, by rw [HZOb.out]; omega, by omega, by omega, by omega⟩
    rw [x.blk HR4.out]; simp [row]
  have hT8 : Go.Proofs.TabAt 0 Lib.deBruijn32tab w8 := fun j hj => X8.out.cell (HT.out j hj)
  have hA8 := wide_cells HL.out HLb.out (X68.out.blk HAa.out)
  have hB8 := wide_cells HL2.out HLb2.out HAb.out
  have hA1 : ∀ i, (L.getD i 0).toNat ≤ 65535 := fun i => by have := HLb.out i; omega
  have hB1 : ∀ i, (L'.getD i 0).toNat ≤ 65535 := fun i => by have := HLb2.out i; omega
  obtain ⟨am, ham⟩ : ∃ am : Bool, am = (kk == 3 || kk == 4) := ⟨_, rfl⟩
  obtain ⟨am', ham'⟩ : ∃ am : Bool, am = (kk' == 3 || kk' == 4) := ⟨_, rfl⟩
  have hC1 := cycles_any (w.heap.size + 5) (w.heap.size + 2) (w.heap.size + 3 + 1) n bb (w7.heap.size + 1) size m w5.heap.size kk am (fun i => (L.getD i 0).toNat) _ [] w8 hS hA8 hA1 ham hT8 ⟨by omega, by omega, by omega⟩ ⟨by omega, by omega, by omega⟩ hn0 hn1 hb0 hb1 hs0 hs1 hm
  have HHC1 := Hid.mk hC1
  have HBB : Hid (∀ WW w9 v9, St w8 w9 (w.heap.size + 5) (w.heap.size + 2) (w.heap.size + 3 + 1) n bb (w7.heap.size + 1) v9 WW (List.replicate n 0) → Below w.heap.size w w9) := by
    intro WW w9 v9 h
    have k7 : Kept (· < w.heap.size) w8 w9 := h.kept.mono (fun k _ hk => by have : k < w.heap.size := hk; exact ⟨by omega, by omega, by omega⟩)
    exact X8.out.below.trans (k7.below X8.out.size)
  have HC2' : Hid (∀ WW w9 v9, St w8 w9 (w.heap.size + 5) (w.heap.size + 2) (w.heap.size + 3 + 1) n bb (w7.heap.size + 1) v9 WW (List.replicate n 0) →
      Calls Ybad.prog 7 #[.pointer (some ⟨w.heap.size + 5, 0, none⟩), .int .i64 kk', .int .i64 size', .int .u32 m', .pointer (some ⟨w7.heap.size, 0, none⟩)] w9 fun e w' =>
      ∃ v', e = .returned (.int .i64 (Pl.best n (Pl.runL am' bb size' (fun i => (L'.getD i 0).toNat) (Pl.lanesFrom m' 0) []))) ∧ St w9 w' (w.heap.size + 5) (w.heap.size + 2) (w.heap.size + 3 + 1) n bb (w7.heap.size + 1) v' (Pl.runL am' bb size' (fun i => (L'.getD i 0).toNat) (Pl.lanesFrom m' 0) []) (List.replicate n 0)) := by
    intro WW w9 v9 h
    exact cycles_any (w.heap.size + 5) (w.heap.size + 2) (w.heap.size + 3 + 1) n bb (w7.heap.size + 1) size' m' w7.heap.size kk' am' (fun i => (L'.getD i 0).toNat) _ WW w9 h.again (fun i hi => h.kept.cell (hB8 i hi) ⟨by show w7.heap.size < w7.heap.size + 1; omega, by show w7.heap.size ≠ w.heap.size + 5; omega, by show w7.heap.size ≠ w.heap.size + 3 + 1; omega⟩) hB1 ham'
      (fun j hj => h.kept.cell (hT8 j hj) ⟨by show 0 < w7.heap.size + 1; omega, by show 0 ≠ w.heap.size + 5; omega, by show 0 ≠ w.heap.size + 3 + 1; omega⟩) ⟨by omega, by omega, by omega⟩ ⟨by omega, by omega, by omega⟩ hn0 hn1 hb0 hb1 hs0' hs1' hm'
  have HM1 : Hid (∀ WW w9 v9 WW' w10 v10, St w8 w9 (w.heap.size + 5) (w.heap.size + 2) (w.heap.size + 3 + 1) n bb (w7.heap.size + 1) v9 WW (List.replicate n 0) → St w9 w10 (w.heap.size + 5) (w.heap.size + 2) (w.heap.size + 3 + 1) n bb (w7.heap.size + 1) v10 WW' (List.replicate n 0) →
      (Calls Ybad.prog 8 #[.bool am, .int .i64 n, .int .i64 bb, .int .i64 size, .int .u32 m, .pointer (some ⟨w5.heap.size, 0, none⟩)] w10 fun e w' => e = .returned (.int .i64 (Pl.best n (Pl.runL am bb size (fun i => (L.getD i 0).toNat) (Pl.lanesFrom m 0) []))) ∧ Ext w10 w') ∧
      (∀ w11, Ext w10 w11 → Calls Ybad.prog 8 #[.bool am', .int .i64 n, .int .i64 bb, .int .i64 size', .int .u32 m', .pointer (some ⟨w7.heap.size, 0, none⟩)] w11 fun e w' => e = .returned (.int .i64 (Pl.best n (Pl.runL am' bb size' (fun i => (L'.getD i 0).toNat) (Pl.lanesFrom m' 0) []))) ∧ Ext w11 w')) := by
    intro WW w9 v9 WW' w10 v10 h h'
    refine ⟨model_any am n bb size m w5.heap.size (fun i => (L.getD i 0).toNat) w10 (fun i hi => h'.kept.cell (h.kept.cell (hA8 i hi) ⟨?_, ?_, ?_⟩) ⟨?_, ?_, ?_⟩) hA1 hn0 hn1 hb0 hb1 hs0 hs1 hm, fun w11 x11 => model_any am' n bb size' m' w7.heap.size (fun i => (L'.getD i 0).toNat) w11 (fun i hi => x11.cell (h'.kept.cell (h.kept.cell (hB8 i hi) ⟨?_, ?_, ?_⟩) ⟨?_, ?_, ?_⟩)) hB1 hn0 hn1 hb0 hb1 hs0' hs1' hm'⟩
    · show w5.heap.size < w7.heap.size + 1; omega
    · show w5.heap.size ≠ w.heap.size + 5; omega
    · show w5.heap.size ≠ w.heap.size + 3 + 1; omega
    · show w5.heap.size < w7.heap.size + 1; omega
    · show w5.heap.size ≠ w.heap.size + 5; omega
    · show w5.heap.size ≠ w.heap.size + 3 + 1; omega
    · show w7.heap.size < w7.heap.size + 1; omega
    · show w7.heap.size ≠ w.heap.size + 5; omega
    · show w7.heap.size ≠ w.heap.size + 3 + 1; omega
    · show w7.heap.size < w7.heap.size + 1; omega
    · show w7.heap.size ≠ w.heap.size + 5; omega
    · show w7.heap.size ≠ w.heap.size + 3 + 1; omega
  have HHB : Hid (∀ WW w9 v9 WW' w10 v10, St w8 w9 (w.heap.size + 5) (w.heap.size + 2) (w.heap.size + 3 + 1) n bb (w7.heap.size + 1) v9 WW (List.replicate n 0) → St w9 w10 (w.heap.size + 5) (w.heap.size + 2) (w.heap.size + 3 + 1) n bb (w7.heap.size + 1) v10 WW' (List.replicate n 0) → Below w.heap.size w w10) := by
    intro WW w9 v9 WW' w10 v10 h h'
    have b9 := HBB.out _ _ _ h
    have k7 : Kept (· < w.heap.size) w9 w10 := h'.kept.mono (fun k _ hk => by have : k < w.heap.size := hk; exact ⟨by omega, by omega, by omega⟩)
    exact b9.trans (k7.below b9.size)
  have HK1 := Hid.mk (kk_cases kk am ham)
  have HK2 := Hid.mk (kk_cases kk' am' ham')
  clear hS hT8 hA8 hB8 hA1 hB1 ham ham' hC1 HAa HAb XWa XWb XOa XOb HZOa HZOb X4 HCf4 HCs4 HDs4 HDs6 HR4 HB4 HZ4 X8 X68 HT hz5 hz7
  generalize Pl.runL am bb size (fun i => (L.getD i 0).toNat) (Pl.lanesFrom m 0) [] = WW at HHC1 HM1
  generalize Pl.runL am' bb size' (fun i => (L'.getD i 0).toNat) (Pl.lanesFrom m' 0) [] = WW' at HC2' HM1
  refine HHC1.out.mono ?_
  rintro e w9 ⟨v9, rfl, hS9⟩
  have HS9 := Hid.mk hS9
  clear hS9
  go_wp2_with fail
  refine (HC2'.out _ _ _ HS9.out).mono ?_
  rintro e w10 ⟨v10, rfl, hS10⟩
  have HP := Hid.mk hS10.port
  have HM := Hid.mk (HM1.out _ _ _ _ _ _ HS9.out hS10)
  have HBel := Hid.mk (HHB.out _ _ _ _ _ _ HS9.out hS10)
  clear hS10 HM1 HHB HBB HC2' HHC1 HS9
  rcases HK1.out with (⟨q3, rfl⟩ | ⟨q3, q4, rfl⟩) | ⟨q3, q4, rfl⟩
  · rcases HK2.out with (⟨r3, rfl⟩ | ⟨r3, r4, rfl⟩) | ⟨r3, r4, rfl⟩
    · have HMa := Hid.mk HM.out.1
      have HMb := Hid.mk HM.out.2
      clear HM
      go_wp2_with fail
      refine HMa.out.mono ?_
      rintro e w11 ⟨rfl, x11⟩
      have X11 := Hid.mk x11
      clear x11 HMa
      go_wp2_with fail
      refine (HMb.out w11 X11.out).mono ?_
      rintro e w12 ⟨rfl, x12⟩
      have HBf := Hid.mk (HBel.out.trans ((X11.out.trans x12).below.mono HBel.out.size))
      have HZf := Hid.mk (zero_any _ _ _ n bb _ w12 (HP.out.ext (X11.out.trans x12)) (by omega))
      clear x12 X11 HMb HBel HP
      go_wp2_with (go_at_call 9; refine HZf.out.mono ?_; rintro e w' ⟨rfl, hw'⟩; rw [hw'])
      go_ret
      exact ⟨rfl, HBf.out⟩
    · have HMa := Hid.mk HM.out.1
      have HMb := Hid.mk HM.out.2
      clear HM
      go_wp2_with fail
      refine HMa.out.mono ?_
      rintro e w11 ⟨rfl, x11⟩
      have X11 := Hid.mk x11
      clear x11 HMa
      go_wp2_with fail
      refine (HMb.out w11 X11.out).mono ?_
      rintro e w12 ⟨rfl, x12⟩
      have HBf := Hid.mk (HBel.out.trans ((X11.out.trans x12).below.mono HBel.out.size))
      have HZf := Hid.mk (zero_any _ _ _ n bb _ w12 (HP.out.ext (X11.out.trans x12)) (by omega))
      clear x12 X11 HMb HBel HP
      go_wp2_with (go_at_call 9; refine HZf.out.mono ?_; rintro e w' ⟨rfl, hw'⟩; rw [hw'])
      go_ret
      exact ⟨rfl, HBf.out⟩
    · have HMa := Hid.mk HM.out.1
      have HMb := Hid.mk HM.out.2
      clear HM
      go_wp2_with fail
      refine HMa.out.mono ?_
      rintro e w11 ⟨rfl, x11⟩
      have X11 := Hid.mk x11
      clear x11 HMa
      go_wp2_with fail
      refine (HMb.out w11 X11.out).mono ?_
      rintro e w12 ⟨rfl, x12⟩
      have HBf := Hid.mk (HBel.out.trans ((X11.out.trans x12).below.mono HBel.out.size))
      have HZf := Hid.mk (zero_any _ _ _ n bb _ w12 (HP.out.ext (X11.out.trans x12)) (by omega))
      clear x12 X11 HMb HBel HP
      go_wp2_with (go_at_call 9; refine HZf.out.mono ?_; rintro e w' ⟨rfl, hw'⟩; rw [hw'])
      go_ret
      exact ⟨rfl, HBf.out⟩
  · rcases HK2.out with (⟨r3, rfl⟩ | ⟨r3, r4, rfl⟩) | ⟨r3, r4, rfl⟩
    · have HMa := Hid.mk HM.out.1
      have HMb := Hid.mk HM.out.2
      clear HM
      go_wp2_with fail
      refine HMa.out.mono ?_
      rintro e w11 ⟨rfl, x11⟩
      have X11 := Hid.mk x11
      clear x11 HMa
      go_wp2_with fail
      refine (HMb.out w11 X11.out).mono ?_
      rintro e w12 ⟨rfl, x12⟩
      have HBf := Hid.mk (HBel.out.trans ((X11.out.trans x12).below.mono HBel.out.size))
      have HZf := Hid.mk (zero_any _ _ _ n bb _ w12 (HP.out.ext (X11.out.trans x12)) (by omega))
      clear x12 X11 HMb HBel HP
      go_wp2_with (go_at_call 9; refine HZf.out.mono ?_; rintro e w' ⟨rfl, hw'⟩; rw [hw'])
      go_ret
      exact ⟨rfl, HBf.out⟩
    · have HMa := Hid.mk HM.out.1
      have HMb := Hid.mk HM.out.2
      clear HM
      go_wp2_with fail
      refine HMa.out.mono ?_
      rintro e w11 ⟨rfl, x11⟩
      have X11 := Hid.mk x11
      clear x11 HMa
      go_wp2_with fail
      refine (HMb.out w11 X11.out).mono ?_
      rintro e w12 ⟨rfl, x12⟩
      have HBf := Hid.mk (HBel.out.trans ((X11.out.trans x12).below.mono HBel.out.size))
      have HZf := Hid.mk (zero_any _ _ _ n bb _ w12 (HP.out.ext (X11.out.trans x12)) (by omega))
      clear x12 X11 HMb HBel HP
      go_wp2_with (go_at_call 9; refine HZf.out.mono ?_; rintro e w' ⟨rfl, hw'⟩; rw [hw'])
      go_ret
      exact ⟨rfl, HBf.out⟩
    · have HMa := Hid.mk HM.out.1
      have HMb := Hid.mk HM.out.2
      clear HM
      go_wp2_with fail
      refine HMa.out.mono ?_
      rintro e w11 ⟨rfl, x11⟩
      have X11 := Hid.mk x11
      clear x11 HMa
      go_wp2_with fail
      refine (HMb.out w11 X11.out).mono ?_
      rintro e w12 ⟨rfl, x12⟩
      have HBf := Hid.mk (HBel.out.trans ((X11.out.trans x12).below.mono HBel.out.size))
      have HZf := Hid.mk (zero_any _ _ _ n bb _ w12 (HP.out.ext (X11.out.trans x12)) (by omega))
      clear x12 X11 HMb HBel HP
      go_wp2_with (go_at_call 9; refine HZf.out.mono ?_; rintro e w' ⟨rfl, hw'⟩; rw [hw'])
      go_ret
      exact ⟨rfl, HBf.out⟩
  · rcases HK2.out with (⟨r3, rfl⟩ | ⟨r3, r4, rfl⟩) | ⟨r3, r4, rfl⟩
    · have HMa := Hid.mk HM.out.1
      have HMb := Hid.mk HM.out.2
      clear HM
      go_wp2_with fail
      refine HMa.out.mono ?_
      rintro e w11 ⟨rfl, x11⟩
      have X11 := Hid.mk x11
      clear x11 HMa
      go_wp2_with fail
      refine (HMb.out w11 X11.out).mono ?_
      rintro e w12 ⟨rfl, x12⟩
      have HBf := Hid.mk (HBel.out.trans ((X11.out.trans x12).below.mono HBel.out.size))
      have HZf := Hid.mk (zero_any _ _ _ n bb _ w12 (HP.out.ext (X11.out.trans x12)) (by omega))
      clear x12 X11 HMb HBel HP
      go_wp2_with (go_at_call 9; refine HZf.out.mono ?_; rintro e w' ⟨rfl, hw'⟩; rw [hw'])
      go_ret
      exact ⟨rfl, HBf.out⟩
    · have HMa := Hid.mk HM.out.1
      have HMb := Hid.mk HM.out.2
      clear HM
      go_wp2_with fail
      refine HMa.out.mono ?_
      rintro e w11 ⟨rfl, x11⟩
      have X11 := Hid.mk x11
      clear x11 HMa
      go_wp2_with fail
      refine (HMb.out w11 X11.out).mono ?_
      rintro e w12 ⟨rfl, x12⟩
      have HBf := Hid.mk (HBel.out.trans ((X11.out.trans x12).below.mono HBel.out.size))
      have HZf := Hid.mk (zero_any _ _ _ n bb _ w12 (HP.out.ext (X11.out.trans x12)) (by omega))
      clear x12 X11 HMb HBel HP
      go_wp2_with (go_at_call 9; refine HZf.out.mono ?_; rintro e w' ⟨rfl, hw'⟩; rw [hw'])
      go_ret
      exact ⟨rfl, HBf.out⟩
    · have HMa := Hid.mk HM.out.1
      have HMb := Hid.mk HM.out.2
      clear HM
      go_wp2_with fail
      refine HMa.out.mono ?_
      rintro e w11 ⟨rfl, x11⟩
      have X11 := Hid.mk x11
      clear x11 HMa
      go_wp2_with fail
      refine (HMb.out w11 X11.out).mono ?_
      rintro e w12 ⟨rfl, x12⟩
      have HBf := Hid.mk (HBel.out.trans ((X11.out.trans x12).below.mono HBel.out.size))
      have HZf := Hid.mk (zero_any _ _ _ n bb _ w12 (HP.out.ext (X11.out.trans x12)) (by omega))
      clear x12 X11 HMb HBel HP
      go_wp2_with (go_at_call 9; refine HZf.out.mono ?_; rintro e w' ⟨rfl, hw'⟩; rw [hw'])
      go_ret
      exact ⟨rfl, HBf.out⟩

end Go.Proofs.YbulkanvkDoor
