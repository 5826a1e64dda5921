/-
  PLAIN MATHEMATICS for seat b1972a (no Go in sight): the JSON number automaton 'run', the recogniser 'numEnd' as numberEnd's text has it, and that the two agree.
-/
namespace Go.Proofs.Ybulkanuw.Pl

/-- The automaton's step: the next state, -1 where there is none. -/
def nxt (s c : Int) : Int :=
  if s = 0 then (if c = 45 then 1 else if c = 48 then 2 else if 48 ≤ c ∧ c ≤ 57 then 3 else -1)
  else if s = 1 then (if c = 48 then 2 else if 48 ≤ c ∧ c ≤ 57 then 3 else -1)
  else if s = 2 then (if c = 46 then 4 else if c = 101 ∨ c = 69 then 6 else -1)
  else if s = 3 then (if 48 ≤ c ∧ c ≤ 57 then 3 else if c = 46 then 4 else if c = 101 ∨ c = 69 then 6 else -1)
  else if s = 4 then (if 48 ≤ c ∧ c ≤ 57 then 5 else -1)
  else if s = 5 then (if 48 ≤ c ∧ c ≤ 57 then 5 else if c = 101 ∨ c = 69 then 6 else -1)
  else if s = 6 then (if c = 43 ∨ c = 45 then 7 else if 48 ≤ c ∧ c ≤ 57 then 8 else -1)
  else if s = 7 ∨ s = 8 then (if 48 ≤ c ∧ c ≤ 57 then 8 else -1)
  else -1

/-- The automaton, greedily, from state s at place p: the state and the place at which it stops. -/
def run : List Int → Int → Nat → Int × Nat
  | [], s, p => (s, p)
  | c :: l, s, p => if nxt s c < 0 then (s, p) else run l (nxt s c) (p + 1)

def fin (r : Int × Nat) : Nat × Bool := if r.1 = 2 ∨ r.1 = 3 ∨ r.1 = 5 ∨ r.1 = 8 then (r.2, true) else (0, false)

/-- How many digits stand at the head. -/
def digs : List Int → Nat
  | [] => 0
  | c :: l => if 48 ≤ c ∧ c ≤ 57 then digs l + 1 else 0

def de (zs : List Int) (i : Nat) : Nat := i + digs (zs.drop i)

def expo (zs : List Int) (i : Nat) : Nat × Bool :=
  if i < zs.length ∧ (zs.getD i 0 = 101 ∨ zs.getD i 0 = 69) then
    (if i + 1 < zs.length ∧ (zs.getD (i + 1) 0 = 43 ∨ zs.getD (i + 1) 0 = 45) then (if de zs (i + 2) = i + 2 then (0, false) else (de zs (i + 2), true))
     else (if de zs (i + 1) = i + 1 then (0, false) else (de zs (i + 1), true)))
  else (i, true)

def frac (zs : List Int) (i : Nat) : Nat × Bool :=
  if i < zs.length ∧ zs.getD i 0 = 46 then (if de zs (i + 1) = i + 1 then (0, false) else expo zs (de zs (i + 1))) else expo zs i

def intp (zs : List Int) (i : Nat) : Nat × Bool :=
  if i < zs.length ∧ zs.getD i 0 = 48 then frac zs (i + 1)
  else if i < zs.length ∧ 49 ≤ zs.getD i 0 ∧ zs.getD i 0 ≤ 57 then frac zs (de zs i)
  else (0, false)

def numEnd (zs : List Int) (i : Nat) : Nat × Bool := intp zs (if zs.getD i 0 = 45 then i + 1 else i)

theorem drop_at (zs : List Int) (i : Nat) (h : i < zs.length) : zs.drop i = zs.getD i 0 :: zs.drop (i + 1) := by
  rw [List.drop_eq_getElem_cons h]; simp [List.getD, h]
theorem drop_end (zs : List Int) (i : Nat) (h : ¬ i < zs.length) : zs.drop i = [] := List.drop_eq_nil_of_le (by omega)

theorem digs_le (l : List Int) : digs l ≤ l.length := by
  induction l with
  | nil => simp [digs]
  | cons c l ih => simp only [digs, List.length_cons]; split <;> omega

theorem de_le (zs : List Int) (i : Nat) (h : i ≤ zs.length) : i ≤ de zs i ∧ de zs i ≤ zs.length := by
  have := digs_le (zs.drop i); simp at this; unfold de; omega

theorem de_step (zs : List Int) (i : Nat) (h : i < zs.length) (h1 : 48 ≤ zs.getD i 0) (h2 : zs.getD i 0 ≤ 57) : de zs i = de zs (i + 1) := by
  unfold de; rw [drop_at zs i h]; simp only [digs, if_pos (And.intro h1 h2)]; omega
theorem de_stop (zs : List Int) (i : Nat) (h : ¬ (i < zs.length ∧ 48 ≤ zs.getD i 0 ∧ zs.getD i 0 ≤ 57)) : de zs i = i := by
  unfold de
  by_cases hl : i < zs.length
  · rw [drop_at zs i hl]; simp only [digs]; rw [if_neg (fun hh => h ⟨hl, hh⟩)]; rfl
  · rw [drop_end zs i hl]; rfl

theorem run_at (zs : List Int) (i : Nat) (s : Int) (h : i < zs.length) : run (zs.drop i) s i = if nxt s (zs.getD i 0) < 0 then (s, i) else run (zs.drop (i + 1)) (nxt s (zs.getD i 0)) (i + 1) := by
  rw [drop_at zs i h]; rfl
theorem run_end (zs : List Int) (i : Nat) (s : Int) (h : ¬ i < zs.length) : run (zs.drop i) s i = (s, i) := by
  rw [drop_end zs i h]; rfl

/-- Induction along the digits. -/
theorem de_induct (zs : List Int) (P : Nat → Prop) (stop : ∀ i, ¬ (i < zs.length ∧ 48 ≤ zs.getD i 0 ∧ zs.getD i 0 ≤ 57) → P i)
    (step : ∀ i, i < zs.length → 48 ≤ zs.getD i 0 → zs.getD i 0 ≤ 57 → P (i + 1) → P i) (i : Nat) : P i := by
  have go : ∀ n i, zs.length - i ≤ n → P i := by
    intro n
    induction n with
    | zero => intro i h; exact stop i (by omega)
    | succ n ih =>
      intro i h
      by_cases hc : i < zs.length ∧ 48 ≤ zs.getD i 0 ∧ zs.getD i 0 ≤ 57
      · exact step i hc.1 hc.2.1 hc.2.2 (ih (i + 1) (by omega))
      · exact stop i hc
  exact go _ i (Nat.le_refl _)

/-- Behind the digits stands no digit. -/
theorem de_next (zs : List Int) (i : Nat) : ¬ (de zs i < zs.length ∧ 48 ≤ zs.getD (de zs i) 0 ∧ zs.getD (de zs i) 0 ≤ 57) :=
  de_induct zs (fun i => ¬ (de zs i < zs.length ∧ 48 ≤ zs.getD (de zs i) 0 ∧ zs.getD (de zs i) 0 ≤ 57))
    (fun i h => by rw [de_stop zs i h]; exact h) (fun i h1 h2 h3 ih => by rw [de_step zs i h1 h2 h3]; exact ih) i

/-- In the states 3, 5, 8 the digits are run over. -/
theorem run_digits (zs : List Int) (s : Int) (hs : ∀ c, 48 ≤ c → c ≤ 57 → nxt s c = s) (h0 : 0 ≤ s) (i : Nat) : run (zs.drop i) s i = run (zs.drop (de zs i)) s (de zs i) :=
  de_induct zs (fun i => run (zs.drop i) s i = run (zs.drop (de zs i)) s (de zs i))
    (fun i h => by rw [de_stop zs i h])
    (fun i h1 h2 h3 ih => by rw [de_step zs i h1 h2 h3, run_at zs i s h1, hs _ h2 h3, if_neg (by omega)]; exact ih) i

theorem nxt3 (c : Int) (h1 : 48 ≤ c) (h2 : c ≤ 57) : nxt 3 c = 3 := by simp [nxt, h1, h2]
theorem nxt5 (c : Int) (h1 : 48 ≤ c) (h2 : c ≤ 57) : nxt 5 c = 5 := by simp [nxt, h1, h2]
theorem nxt8 (c : Int) (h1 : 48 ≤ c) (h2 : c ≤ 57) : nxt 8 c = 8 := by simp [nxt, h1, h2]

/-- State 8: the exponent's digits, and the end. -/
theorem fin8 (zs : List Int) (i : Nat) : fin (run (zs.drop i) 8 i) = (de zs i, true) := by
  rw [run_digits zs 8 nxt8 (by omega) i]
  have hn := de_next zs i
  by_cases hl : de zs i < zs.length
  · rw [run_at _ _ _ hl]
    have : nxt 8 (zs.getD (de zs i) 0) = -1 := by unfold nxt; simp only [Int.reduceEq, if_false, or_true, if_true]; rw [if_neg (fun h => hn ⟨hl, h⟩)]
    rw [this]; simp [fin]
  · rw [run_end _ _ _ hl]; simp [fin]

/-- A state that wants a digit and then is 8 (6 behind no sign, 7): or state 4 likewise with 5. -/
theorem want7 (zs : List Int) (i : Nat) : fin (run (zs.drop i) 7 i) = if de zs i = i then (0, false) else (de zs i, true) := by
  by_cases hc : i < zs.length ∧ 48 ≤ zs.getD i 0 ∧ zs.getD i 0 ≤ 57
  · rw [run_at _ _ _ hc.1]
    have : nxt 7 (zs.getD i 0) = 8 := by unfold nxt; simp only [Int.reduceEq, if_false, true_or, if_true]; rw [if_pos hc.2]
    rw [this, if_neg (by omega), fin8, ← de_step zs i hc.1 hc.2.1 hc.2.2, if_neg]
    have := de_step zs i hc.1 hc.2.1 hc.2.2; have := de_le zs (i + 1) (by omega); omega
  · rw [de_stop zs i hc, if_pos rfl]
    by_cases hl : i < zs.length
    · rw [run_at _ _ _ hl]
      have : nxt 7 (zs.getD i 0) = -1 := by unfold nxt; simp only [Int.reduceEq, if_false, true_or, if_true]; rw [if_neg (fun h => hc ⟨hl, h⟩)]
      rw [this]; simp [fin]
    · rw [run_end _ _ _ hl]; simp [fin]

/-- State 6: behind 'e'. -/
theorem fin6 (zs : List Int) (i : Nat) : fin (run (zs.drop (i + 1)) 6 (i + 1)) =
    if i + 1 < zs.length ∧ (zs.getD (i + 1) 0 = 43 ∨ zs.getD (i + 1) 0 = 45) then (if de zs (i + 2) = i + 2 then (0, false) else (de zs (i + 2), true))
     else (if de zs (i + 1) = i + 1 then (0, false) else (de zs (i + 1), true)) := by
  by_cases hl : i + 1 < zs.length
  · rw [run_at _ _ _ hl]
    by_cases hs : zs.getD (i + 1) 0 = 43 ∨ zs.getD (i + 1) 0 = 45
    · have : nxt 6 (zs.getD (i + 1) 0) = 7 := by unfold nxt; simp only [Int.reduceEq, if_false, if_true]; rw [if_pos hs]
      rw [this, if_neg (by omega), if_pos ⟨hl, hs⟩]; exact want7 zs (i + 2)
    · rw [if_neg (show ¬ (i + 1 < zs.length ∧ (zs.getD (i + 1) 0 = 43 ∨ zs.getD (i + 1) 0 = 45)) from fun h => hs h.2), ← want7 zs (i + 1), run_at _ _ _ hl]
      by_cases hd : 48 ≤ zs.getD (i + 1) 0 ∧ zs.getD (i + 1) 0 ≤ 57
      · have e6 : nxt 6 (zs.getD (i + 1) 0) = 8 := by unfold nxt; simp only [Int.reduceEq, if_false, if_true]; rw [if_neg hs, if_pos hd]
        have e7 : nxt 7 (zs.getD (i + 1) 0) = 8 := by unfold nxt; simp only [Int.reduceEq, if_false, true_or, if_true]; rw [if_pos hd]
        rw [e6, e7, if_neg (by omega), if_neg (by omega)]
      · have e6 : nxt 6 (zs.getD (i + 1) 0) = -1 := by unfold nxt; simp only [Int.reduceEq, if_false, if_true]; rw [if_neg hs, if_neg hd]
        have e7 : nxt 7 (zs.getD (i + 1) 0) = -1 := by unfold nxt; simp only [Int.reduceEq, if_false, true_or, if_true]; rw [if_neg hd]
        rw [e6, e7]; simp [fin]
  · rw [if_neg (fun h => hl h.1), ← want7 zs (i + 1), run_end _ _ _ hl, run_end _ _ _ hl]; simp [fin]

/-- Where the automaton stands in a final state s ahead of what may be an exponent. -/
theorem fin_expo (zs : List Int) (i : Nat) (s : Int) (hf : s = 2 ∨ s = 3 ∨ s = 5 ∨ s = 8) (hex : ∀ c, c = 101 ∨ c = 69 → nxt s c = 6)
    (hno : i < zs.length → ¬ (zs.getD i 0 = 101 ∨ zs.getD i 0 = 69) → nxt s (zs.getD i 0) = -1) : fin (run (zs.drop i) s i) = expo zs i := by
  unfold expo
  by_cases hl : i < zs.length
  · rw [run_at _ _ _ hl]
    by_cases he : zs.getD i 0 = 101 ∨ zs.getD i 0 = 69
    · rw [hex _ he, if_neg (by omega), if_pos ⟨hl, he⟩]; exact fin6 zs i
    · rw [hno hl he, if_pos (by omega), if_neg (fun h => he h.2)]; simp [fin, hf]
  · rw [run_end _ _ _ hl, if_neg (fun h => hl h.1)]; simp [fin, hf]

theorem fin5 (zs : List Int) (i : Nat) : fin (run (zs.drop i) 5 i) = expo zs (de zs i) := by
  rw [run_digits zs 5 nxt5 (by omega) i]
  have hn := de_next zs i
  refine fin_expo zs _ 5 (by omega) (fun c hc => ?_) (fun hl he => ?_)
  · unfold nxt; simp only [Int.reduceEq, if_false, if_true]; rw [if_neg (by omega), if_pos hc]
  · unfold nxt; simp only [Int.reduceEq, if_false, if_true]; rw [if_neg (fun h => hn ⟨hl, h⟩), if_neg he]

theorem fin4 (zs : List Int) (i : Nat) : fin (run (zs.drop i) 4 i) = if de zs i = i then (0, false) else expo zs (de zs i) := by
  by_cases hc : i < zs.length ∧ 48 ≤ zs.getD i 0 ∧ zs.getD i 0 ≤ 57
  · rw [run_at _ _ _ hc.1]
    have : nxt 4 (zs.getD i 0) = 5 := by unfold nxt; simp only [Int.reduceEq, if_false, if_true]; rw [if_pos hc.2]
    rw [this, if_neg (by omega), fin5, ← de_step zs i hc.1 hc.2.1 hc.2.2, if_neg]
    have := de_step zs i hc.1 hc.2.1 hc.2.2; have := de_le zs (i + 1) (by omega); omega
  · rw [de_stop zs i hc, if_pos rfl]
    by_cases hl : i < zs.length
    · rw [run_at _ _ _ hl]
      have : nxt 4 (zs.getD i 0) = -1 := by unfold nxt; simp only [Int.reduceEq, if_false, if_true]; rw [if_neg (fun h => hc ⟨hl, h⟩)]
      rw [this]; simp [fin]
    · rw [run_end _ _ _ hl]; simp [fin]

/-- In the states 2 and 3 (no digit stands ahead in 3): what may be a fraction. -/
theorem fin_frac (zs : List Int) (i : Nat) (s : Int) (hf : s = 2 ∨ s = 3) (hn : s = 3 → ¬ (i < zs.length ∧ 48 ≤ zs.getD i 0 ∧ zs.getD i 0 ≤ 57)) : fin (run (zs.drop i) s i) = frac zs i := by
  unfold frac
  by_cases hd : i < zs.length ∧ zs.getD i 0 = 46
  · rw [if_pos hd, run_at _ _ _ hd.1, hd.2]
    have : nxt s 46 = 4 := by rcases hf with rfl | rfl <;> simp [nxt]
    rw [this, if_neg (by omega)]; exact fin4 zs (i + 1)
  · rw [if_neg hd]
    refine fin_expo zs i s (by omega) (fun c hc => ?_) (fun hl he => ?_)
    · rcases hf with rfl | rfl
      · unfold nxt; simp only [Int.reduceEq, if_false, if_true]; rw [if_neg (by omega), if_pos hc]
      · unfold nxt; simp only [Int.reduceEq, if_false, if_true]; rw [if_neg (by omega), if_neg (by omega), if_pos hc]
    · have h46 : ¬ zs.getD i 0 = 46 := fun h => hd ⟨hl, h⟩
      rcases hf with rfl | rfl
      · unfold nxt; simp only [Int.reduceEq, if_false, if_true]; rw [if_neg h46, if_neg he]
      · unfold nxt; simp only [Int.reduceEq, if_false, if_true]; rw [if_neg (fun h => hn rfl ⟨hl, h⟩), if_neg h46, if_neg he]

theorem fin3 (zs : List Int) (i : Nat) : fin (run (zs.drop i) 3 i) = frac zs (de zs i) := by
  rw [run_digits zs 3 nxt3 (by omega) i]
  exact fin_frac zs _ 3 (by omega) (fun _ => de_next zs i)

/-- The states 0 (no minus ahead) and 1. -/
theorem fin01 (zs : List Int) (i : Nat) (s : Int) (hs : s = 0 ∨ s = 1) (hm : s = 0 → ¬ (i < zs.length ∧ zs.getD i 0 = 45)) : fin (run (zs.drop i) s i) = intp zs i := by
  unfold intp
  by_cases hl : i < zs.length
  · rw [run_at _ _ _ hl]
    have h45 : s = 0 → ¬ zs.getD i 0 = 45 := fun h e => hm h ⟨hl, e⟩
    have hx : nxt s (zs.getD i 0) = if zs.getD i 0 = 48 then 2 else if 48 ≤ zs.getD i 0 ∧ zs.getD i 0 ≤ 57 then 3 else -1 := by
      rcases hs with rfl | rfl
      · unfold nxt; rw [if_pos rfl, if_neg (h45 rfl)]
      · unfold nxt; rw [if_neg (by omega), if_pos rfl]
    rw [hx]
    by_cases h0 : zs.getD i 0 = 48
    · rw [if_pos h0, if_neg (by omega), if_pos ⟨hl, h0⟩]
      exact fin_frac zs (i + 1) 2 (by omega) (fun h => by omega)
    · rw [if_neg h0, if_neg (show ¬ (i < zs.length ∧ zs.getD i 0 = 48) from fun h => h0 h.2)]
      by_cases hd : 48 ≤ zs.getD i 0 ∧ zs.getD i 0 ≤ 57
      · rw [if_pos hd, if_neg (by omega), if_pos ⟨hl, by omega, by omega⟩, fin3, de_step zs i hl hd.1 hd.2]
      · rw [if_neg hd, if_pos (by omega), if_neg (show ¬ (i < zs.length ∧ 49 ≤ zs.getD i 0 ∧ zs.getD i 0 ≤ 57) by omega)]; rcases hs with rfl | rfl <;> simp [fin]
  · rw [run_end _ _ _ hl, if_neg (fun h => hl h.1), if_neg (fun h => hl h.1)]; rcases hs with rfl | rfl <;> simp [fin]

/-- ████ THE LAW: numberEnd is the automaton. -/
theorem numEnd_run (zs : List Int) (i : Nat) (hi : i < zs.length) : numEnd zs i = fin (run (zs.drop i) 0 i) := by
  unfold numEnd
  by_cases h : zs.getD i 0 = 45
  · rw [if_pos h, run_at _ _ _ hi, h]
    have : nxt 0 45 = 1 := by simp [nxt]
    rw [this, if_neg (by omega), fin01 zs (i + 1) 1 (by omega) (fun h => by omega)]
  · rw [if_neg h, fin01 zs i 0 (by omega) (fun _ hh => h hh.2)]

end Go.Proofs.Ybulkanuw.Pl
