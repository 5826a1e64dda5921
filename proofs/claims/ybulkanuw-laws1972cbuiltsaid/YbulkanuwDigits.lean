/-
  digitsEnd BY ITS CONTRACT: it returns 'Pl.de zs i', and turns nothing.
-/
import Derived.Test.YbulkanuwRows
import Derived.Test.YbulkanuwPlain
import Derived.WalkKit
namespace Go.Proofs.Ybulkanuw
open Go.RowKit

theorem ret_int {k : IntKind} {a b : Int} (h : a = b) : Ending.returned (.int k a) = .returned (.int k b) := by rw [h]

set_option maxHeartbeats 400000 in
theorem digitsEnd_any (b off len cap : Nat) (zs : List Int) (i : Nat) (w : World) (hz : zs.length = len) (hlen : len ≤ 1000000) (hi : i ≤ len)
    (hc : ∀ j, j < len → w.cell? ⟨b, off + j, none⟩ = some (.int .u8 (zs.getD j 0))) :
    Calls Yba.prog 7 #[.slice (some ⟨b, off, none⟩) len cap, .int .i64 i] w fun e w' => e = .returned (.int .i64 (Pl.de zs i)) ∧ w' = w := by
  have HZ : Hid (zs.length = len) := hz
  clear hz
  go_enter Yba.func7, Yba.ntmps7
  go_wp2
  go_loop [1] (fun t => ∃ k : Nat, k ≤ len ∧ t = .int .i64 k ∧ Hid (Pl.de zs k = Pl.de zs i)) (fun t => len - (intOf t).toNat)
  case atStart => exact ⟨i, hi, rfl, rfl⟩
  case round =>
    obtain ⟨k, hk, rfl, HD⟩ := hrel
    by_cases hlt : k < len
    · have hcell := hc k hlt
      obtain ⟨c, hce⟩ : ∃ c, c = zs.getD k 0 := ⟨_, rfl⟩
      rw [← hce] at hcell
      have HC : Hid (c = zs.getD k 0) := hce
      clear hce hc
      by_cases h1 : 48 ≤ c
      · by_cases h2 : c ≤ 57
        · go_wp2
          go_round
          case rel => exact ⟨k + 1, by omega, by go_num, by show Pl.de zs (k + 1) = _; rw [← Pl.de_step zs k (by rw [HZ.out]; exact hlt) (by rw [← HC.out]; exact h1) (by rw [← HC.out]; exact h2)]; exact HD⟩
          case measure => simp [intOf]; omega
        · go_wp2
          go_ret
          exact ⟨ret_int (by rw [← HD.out, Pl.de_stop zs k (by rw [← HC.out]; omega)]), rfl⟩
      · go_wp2
        go_ret
        exact ⟨ret_int (by rw [← HD.out, Pl.de_stop zs k (by rw [← HC.out]; omega)]), rfl⟩
    · clear hc
      go_wp2
      go_ret
      exact ⟨ret_int (by rw [← HD.out, Pl.de_stop zs k (by rw [HZ.out]; omega)]), rfl⟩

end Go.Proofs.Ybulkanuw
