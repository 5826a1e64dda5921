/-
  PLAIN MATHEMATICS for LawS1972CBuilt: the automaton over a number built from its parts.
-/
import Derived.Test.YbulkanuwPlain
namespace Go.Proofs.Ybulkanuw.Pl

def dgt (c : Int) : Int := 48 + c % 10
def negL (n : Bool) : List Int := if n then [45] else []
def intL : List Int → List Int
  | [] => []
  | c :: r => if c % 10 = 0 then [48] else (c :: r).map dgt
def fracL (h : Bool) (F : List Int) : List Int := if h then 46 :: F.map dgt else []
def signL (s : Int) : List Int := if s / 2 % 3 = 1 then [43] else if s / 2 % 3 = 2 then [45] else []
def expL (h : Bool) (s : Int) (E : List Int) : List Int := if h then (if s % 2 = 0 then 101 else 69) :: (signL s ++ E.map dgt) else []
def termL (t : Int) : List Int := if t % 7 = 0 then [32] else if t % 7 = 1 then [44] else if t % 7 = 2 then [93] else if t % 7 = 3 then [125] else if t % 7 = 4 then [120] else if t % 7 = 5 then [34] else []
def num (n : Bool) (I : List Int) (hf : Bool) (F : List Int) (he : Bool) (s : Int) (E : List Int) : List Int := negL n ++ intL I ++ fracL hf F ++ expL he s E
def valid (I : List Int) (hf : Bool) (F : List Int) (he : Bool) (E : List Int) : Bool := !I.isEmpty && (!hf || !F.isEmpty) && (!he || !E.isEmpty)

theorem dgt_bd (c : Int) : 48 ≤ dgt c ∧ dgt c ≤ 57 := by unfold dgt; omega

/-- Over digits in a state that keeps to itself. -/
theorem run_keep (s : Int) (hs : ∀ c, 48 ≤ c → c ≤ 57 → nxt s c = s) (h0 : 0 ≤ s) (L rest : List Int) (p : Nat) : run (L.map dgt ++ rest) s p = run rest s (p + L.length) := by
  induction L generalizing p with
  | nil => rfl
  | cons c L ih =>
    have hb := dgt_bd c
    simp only [List.map_cons, List.cons_append, run, hs _ hb.1 hb.2]
    rw [if_neg (by omega), ih]; simp only [List.length_cons]; congr 1; omega

/-- Over digits, one at least, into a state that keeps to itself. -/
theorem run_into (s s' : Int) (h1 : ∀ c, 48 ≤ c → c ≤ 57 → nxt s c = s') (hs : ∀ c, 48 ≤ c → c ≤ 57 → nxt s' c = s') (h0 : 0 ≤ s') (L rest : List Int) (hL : L ≠ []) (p : Nat) : run (L.map dgt ++ rest) s p = run rest s' (p + L.length) := by
  match L, hL with
  | c :: L, _ =>
    have hb := dgt_bd c
    simp only [List.map_cons, List.cons_append, run, h1 _ hb.1 hb.2]
    rw [if_neg (by omega), run_keep s' hs h0]; simp only [List.length_cons]; congr 1; omega

/-- A list that every state up to 8 refuses. -/
def Shut (l : List Int) (s : Int) : Prop := ∀ p, run l s p = (s, p)

theorem shut_nil (s : Int) : Shut [] s := fun _ => rfl
theorem shut_cons (c : Int) (l : List Int) (s : Int) (h : nxt s c < 0) : Shut (c :: l) s := fun p => by simp [run, h]

theorem shut_term (t : Int) (s : Int) : Shut (termL t) s := by
  unfold termL
  repeat' split
  all_goals first | exact shut_nil s | (refine shut_cons _ _ _ ?_; simp [nxt])

/-- Behind 'e': what may follow. -/
theorem run_exp (s : Int) (E : List Int) (t : Int) (p : Nat) : fin (run (signL s ++ E.map dgt ++ termL t) 6 p) = if E.isEmpty then (0, false) else (p + (signL s ++ E.map dgt).length, true) := by
  have h6 : ∀ c, 48 ≤ c → c ≤ 57 → nxt 6 c = 8 := fun c h1 h2 => by unfold nxt; simp only [Int.reduceEq, if_false, if_true]; rw [if_neg (by omega), if_pos ⟨h1, h2⟩]
  have h7 : ∀ c, 48 ≤ c → c ≤ 57 → nxt 7 c = 8 := fun c h1 h2 => by simp [nxt, h1, h2]
  have k43 : nxt 6 43 = 7 := by simp [nxt]
  have k45 : nxt 6 45 = 7 := by simp [nxt]
  have go : ∀ s0 q, (s0 = 6 ∨ s0 = 7) → fin (run (E.map dgt ++ termL t) s0 q) = if E.isEmpty then (0, false) else (q + E.length, true) := by
    intro s0 q hs
    by_cases hE : E = []
    · subst hE
      show fin (run (termL t) s0 q) = _
      rw [shut_term t s0 q]
      rcases hs with rfl | rfl <;> simp [fin]
    · rw [if_neg (by simpa using hE)]
      have : run (E.map dgt ++ termL t) s0 q = run (termL t) 8 (q + E.length) := by
        rcases hs with rfl | rfl
        · exact run_into 6 8 h6 nxt8 (by omega) E _ hE q
        · exact run_into 7 8 h7 nxt8 (by omega) E _ hE q
      rw [this, shut_term t 8]; simp [fin]
  unfold signL
  by_cases h1 : s / 2 % 3 = 1
  · rw [if_pos h1]; simp only [List.cons_append, List.nil_append, run, k43]
    rw [if_neg (by omega), go 7 (p + 1) (by omega)]
    simp only [List.length_cons, List.length_map]
    split
    · rfl
    · congr 1; omega
  · rw [if_neg h1]
    by_cases h2 : s / 2 % 3 = 2
    · rw [if_pos h2]; simp only [List.cons_append, List.nil_append, run, k45]
      rw [if_neg (by omega), go 7 (p + 1) (by omega)]
      simp only [List.length_cons, List.length_map]
      split
      · rfl
      · congr 1; omega
    · rw [if_neg h2]; simp only [List.nil_append]
      rw [go 6 p (by omega)]; simp

/-- From a final state that takes an exponent. -/
theorem run_expL (s0 : Int) (hf : s0 = 2 ∨ s0 = 3 ∨ s0 = 5) (he : Bool) (s : Int) (E : List Int) (t : Int) (p : Nat) :
    fin (run (expL he s E ++ termL t) s0 p) = if (!he || !E.isEmpty) = true then (p + (expL he s E).length, true) else (0, false) := by
  cases he
  · simp only [expL, Bool.false_eq_true, if_false, List.nil_append, Bool.not_false, Bool.true_or, if_true]
    rw [shut_term t s0]; rcases hf with rfl | rfl | rfl <;> simp [fin]
  · have hx : ∀ c, c = 101 ∨ c = 69 → nxt s0 c = 6 := by
      intro c hc; rcases hf with rfl | rfl | rfl <;> rcases hc with rfl | rfl <;> simp [nxt]
    have hc : (if s % 2 = 0 then (101 : Int) else 69) = 101 ∨ (if s % 2 = 0 then (101 : Int) else 69) = 69 := by split <;> simp
    simp only [expL, if_true, List.cons_append, run, hx _ hc]
    rw [if_neg (by omega), run_exp]
    cases hE : E.isEmpty
    · simp only [Bool.not_false, Bool.or_true, if_true, Bool.false_eq_true, if_false, List.length_cons]; congr 1; omega
    · simp

/-- The states 0, 1, 4 want something that neither an exponent nor a terminator gives. -/
theorem shut_exp (s0 : Int) (hf : s0 = 0 ∨ s0 = 1 ∨ s0 = 4) (he : Bool) (s : Int) (E : List Int) (t : Int) : Shut (expL he s E ++ termL t) s0 := by
  cases he
  · exact shut_term t s0
  · simp only [expL, if_true, List.cons_append]
    refine shut_cons _ _ _ ?_
    have hc : (if s % 2 = 0 then (101 : Int) else 69) = 101 ∨ (if s % 2 = 0 then (101 : Int) else 69) = 69 := by split <;> simp
    rcases hf with rfl | rfl | rfl <;> rcases hc with h | h <;> rw [h] <;> simp [nxt]

theorem run_fracL (s0 : Int) (hf : s0 = 2 ∨ s0 = 3) (h : Bool) (F : List Int) (he : Bool) (s : Int) (E : List Int) (t : Int) (p : Nat) :
    fin (run (fracL h F ++ (expL he s E ++ termL t)) s0 p) = if ((!h || !F.isEmpty) && (!he || !E.isEmpty)) = true then (p + (fracL h F ++ expL he s E).length, true) else (0, false) := by
  cases h
  · simp only [fracL, Bool.false_eq_true, if_false, List.nil_append, Bool.not_false, Bool.true_or, Bool.true_and]
    exact run_expL s0 (by omega) he s E t p
  · have h46 : nxt s0 46 = 4 := by rcases hf with rfl | rfl <;> simp [nxt]
    have h4 : ∀ c, 48 ≤ c → c ≤ 57 → nxt 4 c = 5 := fun c h1 h2 => by simp [nxt, h1, h2]
    simp only [fracL, if_true, List.cons_append, run, h46]
    rw [if_neg (by omega)]
    by_cases hF : F = []
    · subst hF
      show fin (run (expL he s E ++ termL t) 4 (p + 1)) = _
      rw [shut_exp 4 (by omega)]; simp [fin]
    · rw [run_into 4 5 h4 nxt5 (by omega) F _ hF, run_expL 5 (by omega)]
      have : F.isEmpty = false := by simpa using hF
      simp only [this, Bool.not_true, Bool.not_false, Bool.or_true, Bool.true_and, List.length_cons, List.length_append, List.length_map]
      split
      · congr 1; omega
      · rfl

/-- ████ THE LAW. -/
theorem num_law (n : Bool) (I : List Int) (hf : Bool) (F : List Int) (he : Bool) (s : Int) (E : List Int) (t : Int) (p : Nat) :
    fin (run (num n I hf F he s E ++ termL t) 0 p) = if valid I hf F he E = true then (p + (num n I hf F he s E).length, true) else (0, false) := by
  have core : ∀ s0 q, (s0 = 0 ∨ s0 = 1) → fin (run (intL I ++ (fracL hf F ++ (expL he s E ++ termL t))) s0 q) = if valid I hf F he E = true then (q + (intL I ++ (fracL hf F ++ expL he s E)).length, true) else (0, false) := by
    intro s0 q hs
    match I with
    | [] =>
      have : Shut (fracL hf F ++ (expL he s E ++ termL t)) s0 := by
        cases hf
        · exact shut_exp s0 (by omega) he s E t
        · simp only [fracL, if_true, List.cons_append]; refine shut_cons _ _ _ ?_; rcases hs with rfl | rfl <;> simp [nxt]
      simp only [intL, List.nil_append]
      rw [this q]; rcases hs with rfl | rfl <;> simp [fin, valid]
    | c :: r =>
      have hv : valid (c :: r) hf F he E = ((!hf || !F.isEmpty) && (!he || !E.isEmpty)) := by simp [valid]
      rw [hv]
      by_cases hc : c % 10 = 0
      · have h48 : nxt s0 48 = 2 := by rcases hs with rfl | rfl <;> simp [nxt]
        simp only [intL, if_pos hc, List.cons_append, List.nil_append, run, h48]
        rw [if_neg (by omega), run_fracL 2 (by omega)]
        split
        · simp only [List.length_cons]; congr 1; omega
        · rfl
      · have hb := dgt_bd c
        have h49 : nxt s0 (dgt c) = 3 := by
          have : 49 ≤ dgt c := by unfold dgt; omega
          rcases hs with rfl | rfl
          · unfold nxt; simp only [if_true]; rw [if_neg (by omega), if_neg (by omega), if_pos hb]
          · unfold nxt; simp only [Int.reduceEq, if_false, if_true]; rw [if_neg (by omega), if_pos hb]
        simp only [intL, if_neg hc, List.map_cons, List.cons_append, run, h49]
        rw [if_neg (by omega), run_keep 3 nxt3 (by omega), run_fracL 3 (by omega)]
        split
        · simp only [List.length_cons, List.length_append, List.length_map]; congr 1; omega
        · rfl
  unfold num
  simp only [List.append_assoc]
  cases n
  · simp only [negL, Bool.false_eq_true, if_false, List.nil_append]; exact core 0 p (by omega)
  · have k : nxt 0 45 = 1 := by simp [nxt]
    simp only [negL, if_true, List.cons_append, List.nil_append, run, k]
    rw [if_neg (by omega), core 1 (p + 1) (by omega)]
    split
    · simp only [List.length_cons]; congr 1; omega
    · rfl

end Go.Proofs.Ybulkanuw.Pl
