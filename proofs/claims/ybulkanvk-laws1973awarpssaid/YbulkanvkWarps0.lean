/-
  Seat b1973a: LawS1973AWarps: the law's own mask and WarpsPerCTA, by contracts.
-/
import Derived.Test.YbulkanvkIndex
namespace Go.Proofs.Ybulkanvk
open Go.RowKit

set_option maxHeartbeats 400000 in
theorem perCTA_any (kq bx by' bz : Nat) (w : World) (k4 : w.cell? ⟨kq, 4, none⟩ = some (.int .u32 bx)) (k5 : w.cell? ⟨kq, 5, none⟩ = some (.int .u32 by')) (k6 : w.cell? ⟨kq, 6, none⟩ = some (.int .u32 bz))
    (hbx : bx ≤ 65535) (hby : by' ≤ 65535) (hbz : bz ≤ 65535) (T : Nat) (hT : T = bx * by' * bz) (hT1 : T ≤ 4096) :
    Calls Yba.prog 8 #[.pointer (some ⟨kq, 0, none⟩)] w fun e w' => e = .returned (.int .i64 (((T + 31) / 32 : Nat) : Int)) ∧ Ext w w' := by
  have HT := Hid.mk hT
  clear hT
  go_enter Yba.func8, Yba.ntmps8
  go_wp2_with fail
  refine (count_any bx by' bz w hbx hby hbz).mono ?_
  rintro e w1 ⟨rfl, x1⟩
  rw [← HT.out]
  have X1 := Hid.mk x1
  clear x1
  go_wp2
  go_ret
  exact ⟨ret_int (by omega), X1.out⟩

theorem mask_or (k : Nat) (h : k < 32) : bits BinOp.or IntKind.u32 (mask k) (2 ^ k % 4294967296) = mask (k + 1) := by
  have go : ∀ k, k < 32 → bits BinOp.or IntKind.u32 (mask k) (2 ^ k % 4294967296) = mask (k + 1) := by decide +kernel
  exact go k h

set_option maxHeartbeats 400000 in
theorem mask_any (n : Nat) (w : World) (hn : n ≤ 32) :
    Calls Yba.prog 9 #[.int .i64 n] w fun e w' => e = .returned (.int .u32 (mask n)) ∧ w' = w := by
  go_enter Yba.func9, Yba.ntmps9
  go_wp2
  go_loopg [3, 4] n (fun gk tm tk wx => ∃ k : Nat, k ≤ n ∧ gk = n - k ∧ tm = .int .u32 (mask k) ∧ tk = .int .i64 k ∧ wx = w)
  case atStart => exact ⟨0, by omega, rfl, rfl, rfl, rfl⟩
  case round =>
    obtain ⟨k, hk, rfl, rfl, rfl, rfl⟩ := hrel
    by_cases hlt : k < n
    · have hl : decide ((k : Int) < (n : Int)) = true := decide_eq_true (by omega)
      go_wp2
      go_roundg (n - (k + 1))
      case measure => omega
      case rel => exact ⟨k + 1, by omega, rfl, by rw [mask_or k (by omega)], by go_num, rfl⟩
    · have hl : decide ((k : Int) < (n : Int)) = false := decide_eq_false (by omega)
      obtain rfl : k = n := by omega
      go_wp2
      go_ret
      exact ⟨rfl, rfl⟩
end Go.Proofs.Ybulkanvk
