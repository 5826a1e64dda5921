/-
  Seat b1973aD: newSmemPort and zzs1973bwiden by contracts.
-/
import Derived.Test.YbulkanvkDoorLeaf
namespace Go.Proofs.YbulkanvkDoor
open Go.RowKit

theorem info3 : (Ybad.prog.info? 3).map (fun i => (i.zero, i.size, i.bytes)) = some (some (.int .i64 0), 1, 8) := by kernel_rfl

set_option maxHeartbeats 1000000 in
theorem newPort_any (cfq n bb : Nat) (w : World) (hc : w.heap[cfq]? = some (.cells #[.int .i64 n, .int .i64 bb, .int .i64 3] 27 (0, 0))) (hn : n ≤ 1000) :
    Calls Ybad.prog 5 #[.pointer (some ⟨cfq, 0, none⟩)] w fun e w' => e = .returned (.agg #[.pointer (some ⟨cfq, 0, none⟩), .int .i64 0, .pointer none, .slice none 0 0, .int .i64 0, .int .i64 0, .int .i64 0, .int .i64 0, .slice none 0 0, .slice (some ⟨w.heap.size + 1, 0, none⟩) n n]) ∧
      Ext w w' ∧ w'.heap.size = w.heap.size + 2 ∧ w'.heap[w.heap.size + 1]? = some (.cells (row n (.int .i64 0)) 3 (0, 0)) := by
  obtain ⟨i0, hi, hz0, hz1, hz2⟩ := info_parts info3
  have c0 : w.cell? ⟨cfq, 0, none⟩ = some (.int .i64 n) := by rw [cell_of_row w cfq 0 _ 27 (0, 0) hc]; rfl
  have hlt := World.block_lt_of_cell? w _ c0
  clear hc
  go_enter Ybad.func5, Ybad.ntmps5
  go_wp2_with (at_make; refine wpList_make_row _ rfl _ _ 36 rfl 3 i0 (.int .i64 0) rfl Ybad.underlying36 hi hz0 hz1 _ _ _ _ n rfl rfl rfl rfl ?c3 ?c4 ?_)
  case c3 => first | (rw [hz2]; omega) | omega
  case c4 => omega
  go_wp2
  have h1 := one_new w (.cells #[.pointer (some ⟨cfq, 0, none⟩), .int .i64 0, .pointer none, .slice none 0 0, .int .i64 0, .int .i64 0, .int .i64 0, .int .i64 0, .slice none 0 0, .slice (some ⟨w.heap.size + 1, 0, none⟩) n n] 38)
  have h2 := one_new (w.alloc (.cells #[.pointer (some ⟨cfq, 0, none⟩), .int .i64 0, .pointer none, .slice none 0 0, .int .i64 0, .int .i64 0, .int .i64 0, .int .i64 0, .slice none 0 0, .slice (some ⟨w.heap.size + 1, 0, none⟩) n n] 38)) (.cells (row n (.int .i64 0)) 3)
  rw [h1.2] at h2
  refine bodyPost_ret (v := .agg #[.pointer (some ⟨cfq, 0, none⟩), .int .i64 0, .pointer none, .slice none 0 0, .int .i64 0, .int .i64 0, .int .i64 0, .int .i64 0, .slice none 0 0, .slice (some ⟨w.heap.size + 1, 0, none⟩) n n]) ?_ rfl ⟨rfl, ((Ext.refl w).alloc _).alloc _, h2.2, h2.1⟩
  exact results_cell_row Ybad.results5 _ _ w.heap.size 38 _ (0, 0) _ rfl (((Ext.refl _).alloc _).blk h1.1) Ybad.underlying38 rfl (by kernel_rfl)

/-- A whole row is written anew. -/
theorem heap_setCells (t : TypeId) (b : Nat) : ∀ (vs : List Value) (o : Nat) (pre : List Value) (w : World) (cs : Array Value), pre.length = o → o + vs.length = cs.size → cs.toList.take o = pre →
    w.heap[b]? = some (.cells cs t (0, 0)) → (w.setCells b o vs).heap[b]? = some (.cells (pre ++ vs).toArray t (0, 0)) := by
  intro vs
  induction vs with
  | nil =>
    intro o pre w cs h1 h2 h3 hg
    simp only [List.length_nil, Nat.add_zero] at h2
    have : cs = pre.toArray := by
      apply Array.toList_inj.1
      rw [← h3, List.take_of_length_le (by simp; omega)]
    show w.heap[b]? = _
    rw [hg, List.append_nil, this]
  | cons v vs ih =>
    intro o pre w cs h1 h2 h3 hg
    simp only [List.length_cons] at h2
    have := ih (o + 1) (pre ++ [v]) (w.setCell ⟨b, o, none⟩ v) (cs.setIfInBounds o v) (by simp [h1]) (by simp; omega) (by
      rw [Array.toList_setIfInBounds, List.take_set, List.take_succ_eq_append_getElem (by simp; omega), h3, List.set_append_right _ _ (by omega), h1]; simp) (heap_setCell_same w b o cs t v hg)
    rw [List.append_assoc] at this
    exact this

theorem Ext.setCells {a : World} (b : Nat) (hb : a.heap.size ≤ b) : ∀ (vs : List Value) (o : Nat) (w : World), Ext a w → Ext a (w.setCells b o vs) := by
  intro vs
  induction vs with
  | nil => intro o w h; exact h
  | cons v vs ih => intro o w h; exact ih (o + 1) _ (h.setCell _ _ hb)

theorem heap_setCells_other (b k : Nat) (hk : k ≠ b) : ∀ (vs : List Value) (o : Nat) (w : World), (w.setCells b o vs).heap[k]? = w.heap[k]? := by
  intro vs
  induction vs with
  | nil => intro o w; rfl
  | cons v vs ih => intro o w; exact (ih (o + 1) _).trans (heap_setCell_other w ⟨b, o, none⟩ k v hk)

theorem size_setCells (b : Nat) : ∀ (vs : List Value) (o : Nat) (w : World), (w.setCells b o vs).heap.size = w.heap.size := by
  intro vs
  induction vs with
  | nil => intro o w; rfl
  | cons v vs ih => intro o w; exact (ih (o + 1) _).trans (by simp [World.setCell])

def wid (L : List Int) (k : Nat) : List Int := L.take k ++ List.replicate (32 - k) 0
theorem wid_len (L : List Int) (k : Nat) (hL : L.length = 32) (hk : k ≤ 32) : (wid L k).length = 32 := by simp [wid]; omega
theorem wid_set (L : List Int) (k : Nat) (hL : L.length = 32) (hk : k < 32) : (wid L k).set k (L.getD k 0) = wid L (k + 1) := by
  have eT : L.take (k + 1) = L.take k ++ [L.getD k 0] := by rw [List.take_succ_eq_append_getElem (by omega)]; simp [List.getD, show k < L.length by omega]
  have e1 : 32 - k = (32 - (k + 1)) + 1 := by omega
  have e2 : k - (L.take k).length = 0 := by simp; omega
  unfold wid
  rw [eT, List.set_append_right _ _ (by simp; omega), e1, List.replicate_succ, e2, List.set_cons_zero, List.append_assoc]; rfl

theorem size41 : (Ybad.prog.info? 41).map (fun i => i.size) = some 32 := by kernel_rfl

def zeros32 : Array Value := (List.replicate 32 (Value.int .u64 0)).toArray

set_option maxHeartbeats 1000000 in
set_option maxRecDepth 100000 in
theorem widen_any (L : List Int) (w : World) (hL : L.length = 32) (hb : ∀ j, 0 ≤ L.getD j 0 ∧ L.getD j 0 ≤ 65535) :
    Calls Ybad.prog 6 #[.agg (L.map (Value.int .u16)).toArray] w fun e w' => e = .returned (.agg (L.map (Value.int .u64)).toArray) ∧ Ext w w' := by
  obtain ⟨cs, hcs⟩ : ∃ cs, cs = (L.map (Value.int .u16)).toArray := ⟨_, rfl⟩
  rw [← hcs]
  have HL := Hid.mk hL
  have HB := Hid.mk hb
  have HC := Hid.mk hcs
  clear hL hb hcs
  go_enter Ybad.func6, Ybad.ntmps6
  go_wp2
  go_loopg [4] 32 (fun gk t wx => ∃ k : Nat, k ≤ 32 ∧ gk = 32 - k ∧ t = .int .i64 k ∧ Hid (wx.heap[w.heap.size]? = some (.cells cs 24 (0, 0)) ∧ wx.heap[w.heap.size + 1]? = some (.cells zeros32 41 (0, 0)) ∧
    wx.heap[w.heap.size + 1 + 1]? = some (.cells ((wid L k).map (Value.int .u64)).toArray 41 (0, 0)) ∧ Ext w wx))
  case atStart =>
    refine ⟨0, by omega, rfl, rfl, ?_⟩
    have n1 := one_new w (.cells cs 24)
    have n2 := one_new (w.alloc (.cells cs 24)) (.cells zeros32 41)
    have n3 := one_new ((w.alloc (.cells cs 24)).alloc (.cells zeros32 41)) (.cells zeros32 41)
    rw [n2.2, n1.2] at n3
    rw [n1.2] at n2
    exact ⟨(((Ext.refl _).alloc _).alloc _).blk n1.1, ((Ext.refl _).alloc _).blk n2.1, n3.1, (((Ext.refl w).alloc _).alloc _).alloc _⟩
  case round =>
    obtain ⟨k, hk, rfl, rfl, HI⟩ := hrel
    obtain ⟨hA, hZ, hR, hE⟩ := HI.out
    by_cases hlt : k < 32
    · have c0 : wr.cell? ⟨w.heap.size, k, none⟩ = some (.int .u16 (L.getD k 0)) := by
        rw [cell_of_row wr w.heap.size k _ 24 (0, 0) hA, HC.out]; have := HL.out; simp [List.getD, show k < L.length by omega]
      obtain ⟨x, hx, c1⟩ : ∃ x, Hid (x = L.getD k 0) ∧ wr.cell? ⟨w.heap.size, k, none⟩ = some (.int .u16 x) := ⟨_, rfl, c0⟩
      clear c0
      have bx := HB.out k
      rw [← hx.out] at bx
      obtain ⟨bx0, bx1⟩ := bx
      have c2 : wr.cell? ⟨w.heap.size + 1 + 1, k, none⟩ = some (.int .u64 ((wid L k).getD k 0)) := by
        rw [cell_of_row wr _ k _ 41 (0, 0) hR]; have := wid_len L k HL.out (by omega); simp [List.getD, show k < (wid L k).length by omega]
      have f2 : wr.frozen? ⟨w.heap.size + 1 + 1, k, none⟩ = false := frozen_of_row wr _ k _ 41 hR
      have HN : Hid ((wr.setCell ⟨w.heap.size + 1 + 1, k, none⟩ (.int .u64 x)).heap[w.heap.size]? = some (.cells cs 24 (0, 0)) ∧ (wr.setCell ⟨w.heap.size + 1 + 1, k, none⟩ (.int .u64 x)).heap[w.heap.size + 1]? = some (.cells zeros32 41 (0, 0)) ∧
          (wr.setCell ⟨w.heap.size + 1 + 1, k, none⟩ (.int .u64 x)).heap[w.heap.size + 1 + 1]? = some (.cells ((wid L (k + 1)).map (Value.int .u64)).toArray 41 (0, 0)) ∧ Ext w (wr.setCell ⟨w.heap.size + 1 + 1, k, none⟩ (.int .u64 x))) := by
        refine ⟨by rw [heap_setCell_other _ _ _ _ (by show w.heap.size ≠ w.heap.size + 1 + 1; omega)]; exact hA, by rw [heap_setCell_other _ _ _ _ (by show w.heap.size + 1 ≠ w.heap.size + 1 + 1; omega)]; exact hZ, ?_, hE.setCell _ _ (by show w.heap.size ≤ w.heap.size + 1 + 1; omega)⟩
        rw [heap_setCell_same wr _ k _ 41 _ hR, ← wid_set L k HL.out hlt, ← hx.out]
        simp [List.map_set]
      clear hA hZ hR hE
      go_wp2
      go_roundg (32 - (k + 1))
      case measure => omega
      case rel => exact ⟨k + 1, by omega, rfl, by go_num, HN⟩
    · obtain rfl : k = 32 := by omega
      have eR : wid L 32 = L := by unfold wid; rw [List.take_of_length_le (by rw [HL.out]; omega)]; simp
      rw [eR] at hR
      have HI2 := Hid.mk (And.intro hR hE)
      have hi32 : (Ybad.prog.info? 41).map (·.size) = some ((L.map (Value.int .u64)).toArray.size) := by
        have e : (L.map (Value.int .u64)).toArray.size = 32 := by simp [HL.out]
        rw [e]; exact size41
      have hth : wr.there (w.heap.size + 1) 0 ((L.map (Value.int .u64)).toArray.size) := by
        intro j hj
        have hj' : j < 32 := by simpa [HL.out] using hj
        rw [Nat.zero_add]
        refine ⟨?_, frozen_of_row wr _ j _ 41 hZ⟩
        rw [cell_of_row wr _ j _ 41 (0, 0) hZ]
        simp [zeros32, hj']
      have HZ := Hid.mk hZ
      clear hA hZ hR hE HI
      go_wp2_with (first | (refine wpList_load_row rfl 41 _ rfl (w.heap.size + 1 + 1) rfl 41 _ (0, 0) _ HI2.out.1 Ybad.underlying41 rfl hi32 ?_) | (refine wpList_store_mid rfl 41 _ _ rfl (w.heap.size + 1) 0 (L.map (Value.int .u64)).toArray rfl rfl hth hi32 (all_oneCell_toArray (ints_oneCell _ _)) ?_))
      have hg := heap_setCells 41 (w.heap.size + 1) (L.map (Value.int .u64)) 0 [] wr zeros32 rfl (by simp [zeros32, HL.out]) rfl HZ.out
      rw [List.nil_append] at hg
      refine bodyPost_ret (v := .agg (L.map (Value.int .u64)).toArray) ?_ rfl ⟨rfl, Ext.setCells _ (by omega) _ _ _ HI2.out.2⟩
      exact results_cell_row Ybad.results6 _ _ (w.heap.size + 1) 41 _ (0, 0) _ rfl hg Ybad.underlying41 rfl hi32

end Go.Proofs.YbulkanvkDoor
