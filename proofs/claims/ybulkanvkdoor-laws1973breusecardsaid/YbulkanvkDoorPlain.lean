/-
  PLAIN MATHEMATICS for seat b1973aD (no Go in sight): the lanes of a mask, the words that they touch, how many lie in each bank.
-/
import Derived.Lib.TrailingZeros
namespace Go.Proofs.YbulkanvkDoor.Pl
open Go

def addW (am : Bool) (Ws : List Nat) (w : Nat) : List Nat := if am = false ∧ w ∈ Ws then Ws else Ws ++ [w]
def addTo (am : Bool) (Ws : List Nat) (lo : Nat) : Nat → List Nat
  | 0 => Ws
  | n + 1 => addW am (addTo am Ws lo n) (lo + n)
def span (bb size a : Nat) : Nat := (a + size - 1) / bb + 1 - a / bb
def addLane (am : Bool) (bb size : Nat) (Ws : List Nat) (a : Nat) : List Nat := addTo am Ws (a / bb) (span bb size a)
def runL (am : Bool) (bb size : Nat) (A : Nat → Nat) : List Nat → List Nat → List Nat
  | [], Ws => Ws
  | i :: l, Ws => runL am bb size A l (addLane am bb size Ws (A i))
def lanesFrom (m i : Nat) : List Nat := (List.range' i (32 - i)).filter (fun j => m.testBit j)

theorem lanes_step (m i : Nat) (h : i < 32) : lanesFrom m i = if m.testBit i = true then i :: lanesFrom m (i + 1) else lanesFrom m (i + 1) := by
  unfold lanesFrom
  rw [show 32 - i = (32 - (i + 1)) + 1 by omega, List.range'_succ, List.filter_cons]
theorem lanes_end (m i : Nat) (h : 32 ≤ i) : lanesFrom m i = [] := by
  unfold lanesFrom; rw [show 32 - i = 0 by omega]; rfl
theorem lanes_zero : lanesFrom 0 0 = [] := by simp [lanesFrom]
theorem lanes_len (m i : Nat) : (lanesFrom m i).length ≤ 32 - i := by
  unfold lanesFrom; have := List.length_filter_le (fun j => m.testBit j) (List.range' i (32 - i)); simpa using this

theorem lanes_congr (m m' i : Nat) (h : ∀ j, i ≤ j → m.testBit j = m'.testBit j) : lanesFrom m i = lanesFrom m' i := by
  unfold lanesFrom
  apply List.filter_congr
  intro j hj
  rw [List.mem_range'_1] at hj
  exact h j hj.1

/-- The lowest lane, and the mask without it. -/
theorem lanes_low (m : Nat) (h0 : m ≠ 0) (h : m < 2 ^ 32) : lanesFrom m 0 = Lib.ctz 32 m :: lanesFrom (m &&& (m - 1)) 0 ∧ Lib.ctz 32 m < 32 ∧ (m &&& (m - 1)) < m := by
  obtain ⟨q, hq, hk⟩ := Lib.ctzFrom_spec 32 m (by omega) h
  have hc : Lib.ctz 32 m = Lib.ctzFrom 32 m := by simp [Lib.ctz, h0]
  rw [hc]
  generalize Lib.ctzFrom 32 m = k at hq hk
  have hp : 0 < 2 ^ k := Nat.two_pow_pos k
  have e1 : m - 1 = 2 ^ k * (2 * q) + (2 ^ k - 1) := by rw [hq, Nat.mul_add, Nat.mul_one]; omega
  have b1 : ∀ j, m.testBit j = if j < k then false else (2 * q + 1).testBit (j - k) := by
    intro j
    rw [hq, Nat.testBit_two_pow_mul]
    by_cases hj : j < k
    · rw [if_pos hj, decide_eq_false (by omega)]; rfl
    · simp [hj, Nat.not_lt.1 hj]
  have b2 : ∀ j, (m - 1).testBit j = if j < k then true else (2 * q).testBit (j - k) := by
    intro j
    rw [e1, Nat.testBit_two_pow_mul_add _ (by omega)]
    by_cases hj : j < k
    · simp [hj, Nat.testBit_two_pow_sub_one]
    · simp [hj]
  have b3 : ∀ j, j ≠ k → (m &&& (m - 1)).testBit j = m.testBit j := by
    intro j hj
    rw [Nat.testBit_and, b1, b2]
    by_cases hlt : j < k
    · simp [hlt]
    · rw [if_neg hlt, if_neg hlt]
      obtain ⟨d, hd⟩ : ∃ d, j - k = d + 1 := ⟨j - k - 1, by omega⟩
      rw [hd, Nat.testBit_succ, Nat.testBit_succ, show (2 * q + 1) / 2 = q by omega, show 2 * q / 2 = q by omega]; simp
  have b4 : (m &&& (m - 1)).testBit k = false := by
    rw [Nat.testBit_and, b2]; simp [Nat.testBit_zero]
  have b5 : m.testBit k = true := by rw [b1]; simp [Nat.testBit_zero]
  have go : ∀ n i, k - i ≤ n → i ≤ k → lanesFrom m i = k :: lanesFrom (m &&& (m - 1)) i := by
    intro n
    induction n with
    | zero =>
      intro i h1 h2
      obtain rfl : i = k := by omega
      rw [lanes_step m i hk, lanes_step (m &&& (m - 1)) i hk, if_pos b5, b4]
      simp only [Bool.false_eq_true, if_false]
      rw [lanes_congr m (m &&& (m - 1)) (i + 1) (fun j hj => (b3 j (by omega)).symm)]
    | succ n ih =>
      intro i h1 h2
      by_cases e : i = k
      · subst e
        rw [lanes_step m i hk, lanes_step (m &&& (m - 1)) i hk, if_pos b5, b4]
        simp only [Bool.false_eq_true, if_false]
        rw [lanes_congr m (m &&& (m - 1)) (i + 1) (fun j hj => (b3 j (by omega)).symm)]
      · have hf : m.testBit i = false := by rw [b1, if_pos (by omega)]
        rw [lanes_step m i (by omega), lanes_step (m &&& (m - 1)) i (by omega), b3 i e, hf]
        simp only [Bool.false_eq_true, if_false]
        exact ih (i + 1) (by omega) (by omega)
  refine ⟨go _ 0 (Nat.le_refl _) (by omega), hk, ?_⟩
  have := @Nat.and_le_right m (m - 1)
  omega

theorem addW_len (am : Bool) (Ws : List Nat) (w : Nat) : (addW am Ws w).length ≤ Ws.length + 1 := by unfold addW; split <;> simp
theorem addTo_len (am : Bool) (Ws : List Nat) (lo n : Nat) : (addTo am Ws lo n).length ≤ Ws.length + n := by
  induction n with
  | zero => simp [addTo]
  | succ n ih => have := addW_len am (addTo am Ws lo n) (lo + n); simp only [addTo]; omega
theorem div_add_le (a t bb : Nat) (h : 0 < bb) : (a + t) / bb ≤ a / bb + t := by
  have h1 : (a + t) / bb < a / bb + t + 1 := by
    rw [Nat.div_lt_iff_lt_mul h]
    have h2 := Nat.div_add_mod a bb
    have h3 := Nat.mod_lt a h
    have h4 : (a / bb + t + 1) * bb = bb * (a / bb) + t * bb + bb := by rw [Nat.add_mul, Nat.add_mul, Nat.mul_comm (a / bb)]; omega
    have h5 : t ≤ t * bb := Nat.le_mul_of_pos_right t h
    omega
  omega
theorem span_le (bb size a : Nat) (h : 0 < bb) (hs : 0 < size) : span bb size a ≤ size := by
  unfold span
  have := div_add_le a (size - 1) bb h
  rw [show a + (size - 1) = a + size - 1 by omega] at this
  omega
theorem addLane_len (am : Bool) (bb size : Nat) (Ws : List Nat) (a : Nat) (h : 0 < bb) (hs : 0 < size) : (addLane am bb size Ws a).length ≤ Ws.length + size := by
  have := addTo_len am Ws (a / bb) (span bb size a)
  have := span_le bb size a h hs
  unfold addLane; omega

/-! ### Banks -/
def cnt (n : Nat) (Ws : List Nat) (b : Nat) : Nat := (Ws.filter (fun w => w % n == b)).length
def bestTo (n : Nat) (Ws : List Nat) : Nat → Nat
  | 0 => 0
  | b + 1 => max (bestTo n Ws b) (cnt n Ws b)
def best (n : Nat) (Ws : List Nat) : Nat := bestTo n Ws n

theorem cnt_snoc (n : Nat) (Ws : List Nat) (w b : Nat) : cnt n (Ws ++ [w]) b = cnt n Ws b + if w % n = b then 1 else 0 := by
  unfold cnt
  rw [List.filter_append, List.length_append]
  by_cases h : w % n = b <;> simp [h]
theorem cnt_le (n : Nat) (Ws : List Nat) (b : Nat) : cnt n Ws b ≤ Ws.length := List.length_filter_le _ _
theorem cnt_nil (n b : Nat) : cnt n [] b = 0 := rfl

theorem bestTo_snoc (n : Nat) (Ws : List Nat) (w k : Nat) : bestTo n (Ws ++ [w]) k = if w % n < k then max (bestTo n Ws k) (cnt n (Ws ++ [w]) (w % n)) else bestTo n Ws k := by
  induction k with
  | zero => simp [bestTo]
  | succ k ih =>
    simp only [bestTo, ih]
    by_cases h : w % n = k
    · rw [if_neg (by omega), if_pos (by omega), h]
      have := cnt_snoc n Ws w k
      rw [if_pos h] at this
      omega
    · have := cnt_snoc n Ws w k
      rw [if_neg h] at this
      rw [this]
      by_cases h2 : w % n < k
      · rw [if_pos h2, if_pos (by omega)]; omega
      · rw [if_neg h2, if_neg (by omega)]; rfl
theorem best_snoc (n : Nat) (hn : 0 < n) (Ws : List Nat) (w : Nat) : best n (Ws ++ [w]) = max (best n Ws) (cnt n (Ws ++ [w]) (w % n)) := by
  unfold best; rw [bestTo_snoc, if_pos (Nat.mod_lt _ hn)]
theorem bestTo_le (n : Nat) (Ws : List Nat) (k : Nat) : bestTo n Ws k ≤ Ws.length := by
  induction k with
  | zero => simp [bestTo]
  | succ k ih => have := cnt_le n Ws k; simp only [bestTo]; omega
theorem best_nil (n : Nat) : best n [] = 0 := by have := bestTo_le n [] n; unfold best; simpa using this

/-- The counters, bank by bank. -/
def banks (n : Nat) (Ws : List Nat) : List Int := (List.range n).map (fun b => (cnt n Ws b : Int))
theorem banks_len (n : Nat) (Ws : List Nat) : (banks n Ws).length = n := by simp [banks]
theorem banks_nil (n : Nat) : banks n [] = List.replicate n 0 := by
  apply List.ext_getElem
  · simp [banks]
  · intro i h1 h2; simp [banks, cnt_nil]
theorem banks_at (n : Nat) (Ws : List Nat) (b : Nat) (h : b < n) : (banks n Ws).getD b 0 = (cnt n Ws b : Int) := by
  simp [banks, List.getD, h]
theorem banks_snoc (n : Nat) (Ws : List Nat) (w : Nat) : (banks n Ws).set (w % n) ((cnt n Ws (w % n) : Int) + 1) = banks n (Ws ++ [w]) := by
  apply List.ext_getElem
  · simp [banks]
  · intro i h1 h2
    simp only [banks, List.getElem_set, List.getElem_map, List.getElem_range, cnt_snoc]
    by_cases h : w % n = i
    · simp [h]
    · simp [h]

/-- The counters while they are struck again: the first k words' banks are zero. -/
def struck (n : Nat) (Ws : List Nat) (k : Nat) : List Int := (List.range n).map (fun b => if (Ws.take k).any (fun w => w % n == b) then 0 else (cnt n Ws b : Int))
theorem struck_len (n : Nat) (Ws : List Nat) (k : Nat) : (struck n Ws k).length = n := by simp [struck]
theorem struck_zero (n : Nat) (Ws : List Nat) : struck n Ws 0 = banks n Ws := by simp [struck, banks]
theorem struck_succ (n : Nat) (Ws : List Nat) (k : Nat) (h : k < Ws.length) : (struck n Ws k).set (Ws.getD k 0 % n) 0 = struck n Ws (k + 1) := by
  have e : Ws.take (k + 1) = Ws.take k ++ [Ws.getD k 0] := by rw [List.take_succ_eq_append_getElem h]; simp [List.getD, h]
  apply List.ext_getElem
  · simp [struck]
  · intro i h1 h2
    simp only [struck, List.getElem_set, List.getElem_map, List.getElem_range, e, List.any_append, List.any_cons, List.any_nil, Bool.or_false]
    by_cases hh : Ws.getD k 0 % n = i
    · simp only [hh, if_true, beq_self_eq_true, Bool.or_true]
    · have hb : (Ws.getD k 0 % n == i) = false := by simp only [beq_eq_false_iff_ne]; exact hh
      simp only [hh, if_false, hb, Bool.or_false]
theorem struck_all (n : Nat) (Ws : List Nat) : struck n Ws Ws.length = List.replicate n 0 := by
  apply List.ext_getElem
  · simp [struck]
  · intro i h1 h2
    simp only [struck, List.getElem_map, List.getElem_range, List.take_length, List.getElem_replicate]
    by_cases h : (Ws.any fun w => w % n == i) = true
    · simp [h]
    · simp only [h]
      have : cnt n Ws i = 0 := by
        unfold cnt
        rw [List.length_eq_zero_iff, List.filter_eq_nil_iff]
        intro w hw hh
        exact h (List.any_eq_true.2 ⟨w, hw, hh⟩)
      simp [this]

end Go.Proofs.YbulkanvkDoor.Pl
