/-
  Seat b1973aD: the leaves by contracts: TrailingZeros32, holdsWord, zzs1973bzero, newSmemPort, zzs1973bwiden.
-/
import Derived.Test.YbulkanvkDoorParts
import Derived.Test.YbulkanvkDoorPlain
import Derived.Shelf.Spec.TrailingZeros
namespace Go.Proofs.YbulkanvkDoor
open Go.RowKit

set_option maxHeartbeats 1000000 in
theorem tz32_core (x k idx : Nat) (w : World) (hx0 : ((x : Int) == 0) = false)
    (key : bits BinOp.and IntKind.u32 (x : Int) (-(x : Int) % 4294967296) * 125613361 % 4294967296 / 134217728 = (idx : Int))
    (hi : idx < 32) (hk : k < 32) (hcell : w.cell? ⟨0, idx, none⟩ = some (.int .u8 k)) :
    Calls Ybad.prog 10 #[.int .u32 x] w fun e w' => e = .returned (.int .i64 k) ∧ w' = w := by
  go_enter Ybad.func10, Ybad.ntmps10
  go_wp2_with (simp only [key])
  go_ret
  exact ⟨rfl, rfl⟩

theorem tz32_any (x : Nat) (hx : x < 4294967296) (hx0 : x ≠ 0) (w : World) (hT : Go.Proofs.TabAt 0 Lib.deBruijn32tab w) :
    Calls Ybad.prog 10 #[.int .u32 x] w fun e w' => e = .returned (.int .i64 (Lib.ctz 32 x)) ∧ w' = w := by
  obtain ⟨hlow, hk⟩ := Lib.lowest_bit 32 x hx0 hx
  obtain ⟨hi, htab⟩ := Lib.deBruijn32_at _ hk
  have hcell := hT _ hi
  rw [htab] at hcell
  exact tz32_core x _ _ w (by simp; omega) (Go.Proofs.tz32_key x _ hx hx0 hlow) hi hk hcell

/-- The words Ws lie behind a slice. -/
def WordsAt (w : World) (ao : Option Addr) (Ws : List Nat) : Prop := ∀ j, j < Ws.length → ∃ g, ao = some ⟨g, 0, none⟩ ∧ w.cell? ⟨g, j, none⟩ = some (.int .u64 ((Ws.getD j 0 : Nat) : Int))

theorem ret_bool' {a b : Bool} (h : a = b) : Ending.returned (.bool a) = .returned (.bool b) := by rw [h]

set_option maxHeartbeats 400000 in
theorem holdsWord_any (ao : Option Addr) (cap : Nat) (Ws : List Nat) (x : Nat) (w : World) (h : WordsAt w ao Ws) (hn : Ws.length ≤ 1000000) :
    Calls Ybad.prog 11 #[.slice ao Ws.length cap, .int .u64 x] w fun e w' => e = .returned (.bool (decide (x ∈ Ws))) ∧ w' = w := by
  have HH := Hid.mk h
  clear h
  go_enter Ybad.func11, Ybad.ntmps11
  go_wp2
  go_loopg [9] Ws.length (fun gk t wx => w = wx ∧ ∃ k : Nat, k ≤ Ws.length ∧ gk = Ws.length - k ∧ t = .int .i64 k ∧ Hid (∀ j, j < k → Ws.getD j 0 ≠ x))
  case atStart => exact ⟨rfl, 0, by omega, rfl, rfl, fun j hj => by omega⟩
  case round =>
    obtain ⟨rfl, k, hk, rfl, rfl, HN⟩ := hrel
    by_cases hlt : k < Ws.length
    · obtain ⟨g, rfl, hc0⟩ := HH.out k hlt
      obtain ⟨y, HY, hc⟩ : ∃ y : Nat, Hid (y = Ws.getD k 0) ∧ w.cell? ⟨g, k, none⟩ = some (.int .u64 (y : Int)) := ⟨_, rfl, hc0⟩
      clear hc0
      by_cases hxy : y = x
      · have hb : ((y : Int) == (x : Int)) = true := by simp [hxy]
        have HE := Hid.mk hxy
        clear hxy
        go_wp2
        go_ret
        refine ⟨ret_bool' ?_, rfl⟩
        symm
        rw [decide_eq_true_iff, ← HE.out, HY.out]
        simp [List.getD, hlt]
      · have hb : ((y : Int) == (x : Int)) = false := by simp; omega
        go_wp2
        go_roundg (Ws.length - (k + 1))
        case measure => omega
        case rel => exact ⟨rfl, k + 1, by omega, rfl, by go_num, fun j hj => by
          by_cases e : j = k
          · rw [e, ← HY.out]; exact hxy
          · exact HN.out j (by omega)⟩
    · obtain rfl : k = Ws.length := by omega
      go_wp2
      go_ret
      refine ⟨ret_bool' ?_, rfl⟩
      symm
      rw [decide_eq_false_iff_not]
      intro hm
      obtain ⟨i, hi, he⟩ := List.getElem_of_mem hm
      exact HN.out i hi (by simp [List.getD, hi, he])

/-- The port in block pq. -/
structure Port (w : World) (pq cfq gb n bb : Nat) (v : Value) (P : List Int) : Prop where
  len : P.length = n
  obj : ∃ c1 c2 c3 c4 c5 c6 c7, w.heap[pq]? = some (.cells #[.pointer (some ⟨cfq, 0, none⟩), c1, c2, c3, c4, c5, c6, c7, v, .slice (some ⟨gb, 0, none⟩) n n] 38 (0, 0))
  cfg : w.heap[cfq]? = some (.cells #[.int .i64 n, .int .i64 bb, .int .i64 3] 27 (0, 0))
  per : w.heap[gb]? = some (.cells (P.map (Value.int .i64)).toArray 3 (0, 0))

theorem Port.o0 {w : World} {pq cfq gb n bb : Nat} {v : Value} {P : List Int} (h : Port w pq cfq gb n bb v P) : w.cell? ⟨pq, 0, none⟩ = some (.pointer (some ⟨cfq, 0, none⟩)) := by
  obtain ⟨c1, c2, c3, c4, c5, c6, c7, ho⟩ := h.obj; rw [cell_of_row w pq 0 _ 38 (0, 0) ho]; rfl
theorem Port.o8 {w : World} {pq cfq gb n bb : Nat} {v : Value} {P : List Int} (h : Port w pq cfq gb n bb v P) : w.cell? ⟨pq, 8, none⟩ = some v := by
  obtain ⟨c1, c2, c3, c4, c5, c6, c7, ho⟩ := h.obj; rw [cell_of_row w pq 8 _ 38 (0, 0) ho]; rfl
theorem Port.o9 {w : World} {pq cfq gb n bb : Nat} {v : Value} {P : List Int} (h : Port w pq cfq gb n bb v P) : w.cell? ⟨pq, 9, none⟩ = some (.slice (some ⟨gb, 0, none⟩) n n) := by
  obtain ⟨c1, c2, c3, c4, c5, c6, c7, ho⟩ := h.obj; rw [cell_of_row w pq 9 _ 38 (0, 0) ho]; rfl
theorem Port.f8 {w : World} {pq cfq gb n bb : Nat} {v : Value} {P : List Int} (h : Port w pq cfq gb n bb v P) : w.frozen? ⟨pq, 8, none⟩ = false := by
  obtain ⟨c1, c2, c3, c4, c5, c6, c7, ho⟩ := h.obj; exact frozen_of_row w pq 8 _ 38 ho
theorem Port.g0 {w : World} {pq cfq gb n bb : Nat} {v : Value} {P : List Int} (h : Port w pq cfq gb n bb v P) : w.cell? ⟨cfq, 0, none⟩ = some (.int .i64 n) := by rw [cell_of_row w cfq 0 _ 27 (0, 0) h.cfg]; rfl
theorem Port.g1 {w : World} {pq cfq gb n bb : Nat} {v : Value} {P : List Int} (h : Port w pq cfq gb n bb v P) : w.cell? ⟨cfq, 1, none⟩ = some (.int .i64 bb) := by rw [cell_of_row w cfq 1 _ 27 (0, 0) h.cfg]; rfl
theorem Port.at {w : World} {pq cfq gb n bb : Nat} {v : Value} {P : List Int} (h : Port w pq cfq gb n bb v P) (j : Nat) (hj : j < n) : w.cell? ⟨gb, j, none⟩ = some (.int .i64 (P.getD j 0)) := by
  rw [cell_of_row w gb j _ 3 (0, 0) h.per]
  have := h.len
  simp [List.getD, show j < P.length by omega]
theorem Port.fr {w : World} {pq cfq gb n bb : Nat} {v : Value} {P : List Int} (h : Port w pq cfq gb n bb v P) (j : Nat) : w.frozen? ⟨gb, j, none⟩ = false := frozen_of_row w gb j _ 3 h.per

set_option maxHeartbeats 400000 in
theorem zero_any (pq cfq gb n bb : Nat) (v : Value) (w : World) (h : Port w pq cfq gb n bb v (List.replicate n 0)) (hn : n ≤ 1000) :
    Calls Ybad.prog 9 #[.pointer (some ⟨pq, 0, none⟩)] w fun e w' => e = .returned (.bool true) ∧ w' = w := by
  have HH := Hid.mk h
  have o9 := h.o9
  clear h
  go_enter Ybad.func9, Ybad.ntmps9
  go_wp2
  go_loopg [10] n (fun gk t wx => w = wx ∧ ∃ k : Nat, k ≤ n ∧ gk = n - k ∧ t = .int .i64 k)
  case atStart => exact ⟨rfl, 0, by omega, rfl, rfl⟩
  case round =>
    obtain ⟨rfl, k, hk, rfl, rfl⟩ := hrel
    by_cases hlt : k < n
    · have hc : w.cell? ⟨gb, k, none⟩ = some (.int .i64 0) := by have := HH.out.at k hlt; simpa [List.getD, hlt] using this
      go_wp2
      go_roundg (n - (k + 1))
      case measure => omega
      case rel => exact ⟨rfl, k + 1, by omega, rfl, by go_num⟩
    · obtain rfl : k = n := by omega
      go_wp2
      go_ret
      exact ⟨rfl, rfl⟩

end Go.Proofs.YbulkanvkDoor
