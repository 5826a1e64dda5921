/-
  Seat b1973a: the victim, and the model's own oldest way, by contracts.
-/
import Derived.Test.YbulkanvkLru
namespace Go.Proofs.Ybulkanvk
open Go.RowKit

/-- The way of the least stamp among the first k from place o on; among equals the lowest. -/
def vicTo (L : List Int) (o : Nat) : Nat → Nat
  | 0 => 0
  | k + 1 => if L.getD (o + k) 0 < L.getD (o + vicTo L o k) 0 then k else vicTo L o k

theorem vicTo_lt (L : List Int) (o k : Nat) : vicTo L o k ≤ k - 1 := by
  induction k with
  | zero => simp [vicTo]
  | succ k ih => simp only [vicTo]; split <;> omega

theorem vicTo_le (L : List Int) (o k : Nat) : ∀ j, j < k → L.getD (o + vicTo L o k) 0 ≤ L.getD (o + j) 0 := by
  induction k with
  | zero => intro j hj; omega
  | succ k ih =>
    intro j hj
    simp only [vicTo]
    by_cases h : L.getD (o + k) 0 < L.getD (o + vicTo L o k) 0
    · rw [if_pos h]
      by_cases e : j = k
      · rw [e]; omega
      · have := ih j (by omega); omega
    · rw [if_neg h]
      by_cases e : j = k
      · rw [e]; omega
      · exact ih j (by omega)

theorem vicTo_step (L : List Int) (o k v : Nat) (x y : Int) (hv : v = vicTo L o k) (hx : x = L.getD (o + k) 0) (hy : y = L.getD (o + v) 0) : vicTo L o (k + 1) = if x < y then k else v := by
  subst hv hx hy; rfl

set_option maxHeartbeats 400000 in
theorem victim_any (g q na n : Nat) (L : List Int) (u : Int) (s o : Nat) (w : World) (h : Lru g q na n w L u) (hs : s ≤ 1000) (hna : na ≤ 1000) (hna0 : 0 < na) (ho : o = s * na) (hn : o + na ≤ n) :
    Calls Yba.prog 12 #[.pointer (some ⟨q, 0, none⟩), .int .i64 s] w fun e w' => e = .returned (.int .i64 (vicTo L o na)) ∧ ∃ m, w' = w.drewN m := by
  have o0 := h.o0
  have o1 := h.o1
  have HH := Hid.mk h
  have hb : s * na ≤ 1000 * 1000 := Nat.mul_le_mul hs hna
  have e1 : (s : Int) * (na : Int) = (o : Int) := by rw [ho]; simp
  have e2 : ((s : Int) + 1) * (na : Int) = (o : Int) + (na : Int) := by rw [ho, Int.add_mul]; simp
  have hob : o ≤ 1000000 := by omega
  have n1 : (o : Int) ≤ (o : Int) + (na : Int) := by omega
  have n2 : (o : Int) + (na : Int) ≤ (n : Int) := by omega
  have n3 : ¬ n = o := by omega
  clear h ho hb
  go_enter Yba.func12, Yba.ntmps12
  go_wp2
  go_quiet (fail)
  go_wp2
  simp only [Nat.add_sub_cancel_left]
  go_loopg [6, 28] na (fun gk tv tk wx => ∃ k v m : Nat, k ≤ na ∧ gk = na - k ∧ tk = .int .i64 k ∧ tv = .int .i64 v ∧ Hid (v = vicTo L o k) ∧ wx = w.drewN m)
  case atStart => exact ⟨0, 0, nq, by omega, rfl, rfl, rfl, rfl, rfl⟩
  case round =>
    obtain ⟨k, v, m, hk, rfl, rfl, rfl, HV, rfl⟩ := hrel
    by_cases hlt : k < na
    · have hv : v < na := by have := vicTo_lt L o k; rw [HV.out]; omega
      obtain ⟨x, HX, hx⟩ : ∃ x, Hid (x = L.getD (o + k) 0) ∧ w.cell? ⟨g, o + k, none⟩ = some (.int .u64 x) := ⟨_, rfl, HH.out.at (o + k) (by omega)⟩
      obtain ⟨y, HY, hy⟩ : ∃ y, Hid (y = L.getD (o + v) 0) ∧ w.cell? ⟨g, o + v, none⟩ = some (.int .u64 y) := ⟨_, rfl, HH.out.at (o + v) (by omega)⟩
      have HS := Hid.mk (vicTo_step L o k v x y HV.out HX.out HY.out)
      clear HX HY HV
      by_cases hxy : x < y
      · go_wp2
        go_quiet (fail)
        go_wp2
        go_roundg (na - (k + 1))
        case measure => omega
        case rel => exact ⟨k + 1, k, _, by omega, rfl, by go_num, rfl, by show k = _; rw [HS.out, if_pos hxy], rfl⟩
      · go_wp2
        go_quiet (fail)
        go_wp2
        go_roundg (na - (k + 1))
        case measure => omega
        case rel => exact ⟨k + 1, v, _, by omega, rfl, by go_num, rfl, by show v = _; rw [HS.out, if_neg (by omega)], rfl⟩
    · obtain rfl : k = na := by omega
      go_wp2
      go_ret
      exact ⟨ret_int (by rw [HV.out]), m, rfl⟩

/-- The model's oldest way: the stamps M lie in block g. -/
theorem oldest_any (g na n : Nat) (M : List Int) (s o : Nat) (w : World) (hM : ∀ j, j < n → w.cell? ⟨g, j, none⟩ = some (.int .u64 (M.getD j 0))) (hs : s ≤ 1000) (hna : na ≤ 1000) (hna0 : 0 < na) (ho : o = s * na) (hn : o + na ≤ n) (hn1 : n ≤ 1000000) :
    Calls Yba.prog 13 #[.slice (some ⟨g, 0, none⟩) n n, .int .i64 s, .int .i64 na] w fun e w' => e = .returned (.int .i64 (vicTo M o na)) ∧ w' = w := by
  have HM := Hid.mk hM
  have hb : s * na ≤ 1000 * 1000 := Nat.mul_le_mul hs hna
  have e1 : (s : Int) * (na : Int) = (o : Int) := by rw [ho]; simp
  have hob : o ≤ 1000000 := by omega
  clear ho hb hM
  go_enter Yba.func13, Yba.ntmps13
  go_wp2
  go_loopg [7, 8, 9] na (fun gk tv ts tk wx => w = wx ∧ ∃ (k : Nat) (v st : Int), k ≤ na ∧ gk = na - k ∧ tk = .int .i64 k ∧ tv = .int .i64 v ∧ ts = .int .u64 st ∧ Hid ((k = 0 ∧ v = -1) ∨ (v = (vicTo M o k : Nat) ∧ st = M.getD (o + vicTo M o k) 0)))
  case atStart => exact ⟨rfl, 0, -1, 0, by omega, rfl, rfl, rfl, rfl, .inl ⟨rfl, rfl⟩⟩
  case round =>
    obtain ⟨rfl, k, v, st, hk, rfl, rfl, rfl, rfl, HV⟩ := hrel
    by_cases hlt : k < na
    · obtain ⟨x, HX, hx⟩ : ∃ x, Hid (x = M.getD (o + k) 0) ∧ w.cell? ⟨g, o + k, none⟩ = some (.int .u64 x) := ⟨_, rfl, HM.out (o + k) (by omega)⟩
      have hok : (o : Int) + (k : Int) < (n : Int) := by omega
      rcases HV.out with ⟨hk0, hv⟩ | ⟨hv, hst⟩
      · subst hk0 hv
        clear HV
        simp only [Nat.add_zero] at hx HX
        go_wp2
        go_roundg (na - (0 + 1))
        case measure => omega
        case rel => exact ⟨rfl, 1, 0, x, by omega, rfl, rfl, rfl, rfl, .inr ⟨by simp [vicTo], by rw [HX.out]; simp [vicTo]⟩⟩
      · have hv0 : 0 ≤ v := by omega
        have HS := Hid.mk (vicTo_step M o k (vicTo M o k) x st rfl HX.out hst)
        have HV2 := Hid.mk hv
        have HST := Hid.mk hst
        clear hv hst HV
        by_cases hxy : x < st
        · go_wp2
          go_roundg (na - (k + 1))
          case measure => omega
          case rel => exact ⟨rfl, k + 1, k, x, by omega, rfl, by go_num, rfl, rfl, .inr ⟨by rw [HS.out, if_pos hxy], by rw [HS.out, if_pos hxy]; exact HX.out⟩⟩
        · go_wp2
          go_roundg (na - (k + 1))
          case measure => omega
          case rel => exact ⟨rfl, k + 1, v, st, by omega, rfl, by go_num, rfl, rfl, .inr ⟨by rw [HS.out, if_neg (by omega)]; exact HV2.out, by rw [HS.out, if_neg (by omega)]; exact HST.out⟩⟩
    · obtain rfl : k = na := by omega
      go_wp2
      go_ret
      exact ⟨ret_int (by rcases HV.out with h | h; · omega
                         exact h.1), rfl⟩

end Go.Proofs.Ybulkanvk
