/-
  Seat b1973a: lru.go by contracts: newLRU, used, victim.
-/
import Derived.Test.YbulkanvkParts
namespace Go.Proofs.Ybulkanvk
open Go.RowKit

theorem info23 : (Yba.prog.info? 23).map (fun i => (i.zero, i.size, i.bytes)) = some (some (.int .u64 0), 1, 8) := by kernel_rfl

/-- The policy in memory: its stamps L in block g, the struct in block q, u uses so far. -/
structure Lru (g q na n : Nat) (w : World) (L : List Int) (u : Int) : Prop where
  len : L.length = n
  ne : g ≠ q
  row : w.heap[g]? = some (.cells (L.map (Value.int .u64)).toArray 23 (0, 0))
  obj : w.heap[q]? = some (.cells #[.int .i64 na, .slice (some ⟨g, 0, none⟩) n n, .int .u64 u] 66 (0, 0))

theorem Lru.kept {g q na n : Nat} {w w' : World} {L : List Int} {u : Int} {p : Nat → Prop} (h : Lru g q na n w L u) (k : Kept p w w') (hg : p g) (hq : p q) : Lru g q na n w' L u :=
  ⟨h.len, h.ne, (k.block g ((Array.getElem?_eq_some_iff.1 h.row).1) hg).trans h.row, (k.block q ((Array.getElem?_eq_some_iff.1 h.obj).1) hq).trans h.obj⟩

theorem Lru.at {g q na n : Nat} {w : World} {L : List Int} {u : Int} (h : Lru g q na n w L u) (j : Nat) (hj : j < n) : w.cell? ⟨g, j, none⟩ = some (.int .u64 (L.getD j 0)) := by
  rw [cell_of_row w g j _ 23 (0, 0) h.row]
  have := h.len
  simp [List.getD, show j < L.length by omega]
theorem Lru.fr {g q na n : Nat} {w : World} {L : List Int} {u : Int} (h : Lru g q na n w L u) (j : Nat) : w.frozen? ⟨g, j, none⟩ = false := frozen_of_row w g j _ 23 h.row
theorem Lru.o0 {g q na n : Nat} {w : World} {L : List Int} {u : Int} (h : Lru g q na n w L u) : w.cell? ⟨q, 0, none⟩ = some (.int .i64 na) := by rw [cell_of_row w q 0 _ 66 (0, 0) h.obj]; rfl
theorem Lru.o1 {g q na n : Nat} {w : World} {L : List Int} {u : Int} (h : Lru g q na n w L u) : w.cell? ⟨q, 1, none⟩ = some (.slice (some ⟨g, 0, none⟩) n n) := by rw [cell_of_row w q 1 _ 66 (0, 0) h.obj]; rfl
theorem Lru.o2 {g q na n : Nat} {w : World} {L : List Int} {u : Int} (h : Lru g q na n w L u) : w.cell? ⟨q, 2, none⟩ = some (.int .u64 u) := by rw [cell_of_row w q 2 _ 66 (0, 0) h.obj]; rfl
theorem Lru.fo {g q na n : Nat} {w : World} {L : List Int} {u : Int} (h : Lru g q na n w L u) (j : Nat) : w.frozen? ⟨q, j, none⟩ = false := frozen_of_row w q j _ 66 h.obj

/-- A world that is two new blocks beyond w. -/
theorem two_new (w : World) (o o' : Obj) : ((w.alloc o).alloc o').heap[w.heap.size]? = some o ∧ ((w.alloc o).alloc o').heap[w.heap.size + 1]? = some o' ∧ ((w.alloc o).alloc o').heap.size = w.heap.size + 2 := by
  refine ⟨?_, ?_, by simp⟩
  · rw [Below.heap_alloc _ _ _ (by simp)]; exact heap_alloc_new w o
  · have := heap_alloc_new (w.alloc o) o'
    simpa using this

set_option maxHeartbeats 400000 in
theorem newLRU_any (ns na : Nat) (w : World) (h1 : ns ≤ 1000) (h2 : na ≤ 1000) :
    Calls Yba.prog 10 #[.int .i64 ns, .int .i64 na] w fun e w' => e = .returned (.pointer (some ⟨w.heap.size + 1, 0, none⟩)) ∧
      Lru w.heap.size (w.heap.size + 1) na (ns * na) w' (List.replicate (ns * na) 0) 0 ∧ Below w.heap.size w w' ∧ w'.heap.size = w.heap.size + 2 := by
  obtain ⟨i0, hi, hz0, hz1, hz2⟩ := info_parts info23
  have hb : ns * na ≤ 1000 * 1000 := Nat.mul_le_mul h1 h2
  have p0 : (0 : Int) ≤ (ns : Int) * (na : Int) := by rw [← Int.natCast_mul]; omega
  have p1 : (ns : Int) * (na : Int) ≤ 1000000 := by rw [← Int.natCast_mul]; omega
  go_enter Yba.func10, Yba.ntmps10
  go_wp2_with (at_make; refine wpList_make_row _ rfl _ _ 50 rfl 23 i0 (.int .u64 0) rfl Yba.underlying50 hi hz0 hz1 _ _ _ _ (ns * na) rfl rfl ?c1 ?c2 ?c3 ?c4 ?_)
  case c1 => rw [Int.natCast_mul]
  case c2 => rw [Int.natCast_mul]
  case c3 => rw [hz2]; omega
  case c4 => omega
  go_wp2
  go_ret
  have ht := two_new w (.cells (row (ns * na) (.int .u64 0)) 23) (.cells #[.int .i64 na, .slice (some ⟨w.heap.size, 0, none⟩) (ns * na) (ns * na), .int .u64 0] 66)
  refine ⟨rfl, ⟨by simp, by omega, ?_, ht.2.1⟩, ((Below.refl _ _).alloc (Nat.le_refl _) _).alloc (by simp) _, ht.2.2⟩
  rw [ht.1]; simp [row]

theorem Lru.bump {g q na n : Nat} {w : World} {L : List Int} {u : Int} (h : Lru g q na n w L u) (u' : Int) : Lru g q na n (w.setCell ⟨q, 2, none⟩ (.int .u64 u')) L u' ∧ Kept (fun k => k ≠ g ∧ k ≠ q) w (w.setCell ⟨q, 2, none⟩ (.int .u64 u')) :=
  ⟨⟨h.len, h.ne, by rw [heap_setCell_other _ _ _ _ h.ne]; exact h.row, by rw [heap_setCell_same w q 2 _ 66 _ h.obj]; rfl⟩, (Kept.refl _ _).setCell _ _ (fun hh => hh.2 rfl)⟩

theorem Lru.stamp {g q na n : Nat} {w : World} {L : List Int} {u : Int} (h : Lru g q na n w L u) (j : Nat) (v : Int) : Lru g q na n (w.setCell ⟨g, j, none⟩ (.int .u64 v)) (L.set j v) u ∧ Kept (fun k => k ≠ g ∧ k ≠ q) w (w.setCell ⟨g, j, none⟩ (.int .u64 v)) := by
  refine ⟨⟨by simpa using h.len, h.ne, ?_, by rw [heap_setCell_other _ _ _ _ (Ne.symm h.ne)]; exact h.obj⟩, (Kept.refl _ _).setCell _ _ (fun hh => hh.1 rfl)⟩
  rw [heap_setCell_same w g j _ 23 _ h.row]
  simp [List.map_set]

theorem Lru.drew {g q na n : Nat} {w : World} {L : List Int} {u : Int} (h : Lru g q na n w L u) : Lru g q na n w.drew L u := ⟨h.len, h.ne, h.row, h.obj⟩
theorem Lru.drewN {g q na n : Nat} {w : World} {L : List Int} {u : Int} (h : Lru g q na n w L u) (m : Nat) : Lru g q na n (w.drewN m) L u := ⟨h.len, h.ne, h.row, h.obj⟩

set_option maxHeartbeats 400000 in
theorem used_any (g q na n : Nat) (L : List Int) (u : Int) (s wy j : Nat) (w : World) (h : Lru g q na n w L u) (hs : s ≤ 1000) (hw : wy ≤ 1000) (hna : na ≤ 1000) (hjj : j = s * na + wy) (hj : j < n) (hu0 : 0 ≤ u) (hu1 : u ≤ 100000) :
    Calls Yba.prog 11 #[.pointer (some ⟨q, 0, none⟩), .int .i64 s, .int .i64 wy] w fun e w' => e = .returned (.tuple #[]) ∧
      Lru g q na n w' (L.set j (u + 1)) (u + 1) ∧ Kept (fun k => k ≠ g ∧ k ≠ q) w w' := by
  have o2 := h.o2
  have fo := h.fo 2
  have HH := Hid.mk h
  have hb : s * na ≤ 1000 * 1000 := Nat.mul_le_mul hs hna
  have p0 : (0 : Int) ≤ (s : Int) * (na : Int) := by rw [← Int.natCast_mul]; omega
  have p1 : (s : Int) * (na : Int) ≤ 1000000 := by rw [← Int.natCast_mul]; omega
  have e1 : (s : Int) * (na : Int) + (wy : Int) = (j : Int) := by rw [hjj]; simp
  clear h hjj
  go_enter Yba.func11, Yba.ntmps11
  go_upto_region 0 with fail
  go_cut [] (fun wx => Hid (Lru g q na n wx L (u + 1) ∧ Kept (fun k => k ≠ g ∧ k ≠ q) w wx))
  case first =>
    go_wp2
    go_meet
    case rel => exact HH.out.bump (u + 1)
  case rest =>
    clear o2 fo
    obtain ⟨hL, hK⟩ := hcut.out
    have o0 := hL.o0
    have o1 := hL.o1
    have o2 := hL.o2
    have ce := hL.at j (by omega)
    have fr := hL.fr j
    clear hL hK
    go_wp2
    go_region
    all_goals go_wp2
    all_goals go_end0
    all_goals
      have hh := hcut.out
      have h2 := hh.1.stamp j (u + 1)
      exact ⟨rfl, h2.1.drew, (hh.2.trans h2.2).drew⟩

end Go.Proofs.Ybulkanvk
