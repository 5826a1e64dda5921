/-
  Seat b1973a: LawS1973AWarps: the walk.
-/
import Derived.Test.YbulkanvkWarps0
namespace Go.Proofs.Ybulkanvk
open Go.RowKit

/-- 'make([]T, n)', T of any size: the block is new. -/
theorem wpList_make_any {P : Program} (w : World) {ops : Array Oper} {rest : List Oper} {o : Oper} {a : Act} {Q : Exit → Act → World → Prop}
    (hg : o.guard = none) (l c : Operand) (t : TypeId) (hop : o.op = Op.makeSlice t l c) (e : TypeId) (i : TypeInfo) (z : Value)
    (h1 : P.underlying t = some (.slice e)) (h2 : P.info? e = some i) (h3 : i.zero = some z) (kl kc : IntKind) (L C : Int) (n : Nat)
    (hl : a.eval l = .int kl L) (hc : a.eval c = .int kc C) (hL : L = (n : Int)) (hC : C = (n : Int)) (b2 : i.bytes * n ≤ 281474976710656) (b3 : n ≤ 9223372036854775807)
    (hK : ∀ w', w'.heap.size = w.heap.size + 1 → Ext w w' → wpList P ops Q rest (a.put o.dst (.slice (some ⟨w.heap.size, 0, none⟩) n n)) w') :
    wpList P ops Q (o :: rest) a w := by
  refine wpList_plain hg fun K hK' => ?_
  have hb' : (i.bytes : Int) * (n : Int) ≤ 281474976710656 := by
    have h : ((i.bytes * n : Nat) : Int) ≤ 281474976710656 := by omega
    rwa [Int.natCast_mul] at h
  have hrun := run_make (P := P) w t e i z h1 h2 h3 kl kc n n (by omega) (Int.le_refl _) hb' (by omega)
  simp only [Int.toNat_natCast] at hrun
  subst hL
  subst hC
  unfold Oper.wp
  simp [execOp, hop, hl, hc, hrun, Result.andThen]
  exact hK' _ _ (hK _ (one_new _ _).2 ((Ext.refl _).alloc _))

theorem info89 : (Yba.prog.info? 89).map (fun i => (i.zero.isSome, decide (i.bytes ≤ 1000000))) = some (true, true) := by kernel_rfl

theorem info89' : ∃ i z, Yba.prog.info? 89 = some i ∧ i.zero = some z ∧ i.bytes ≤ 1000000 := by
  have h := info89
  obtain ⟨i, hi⟩ : ∃ i, Yba.prog.info? 89 = some i := by
    cases e : Yba.prog.info? 89 with
    | none => rw [e] at h; simp at h
    | some i => exact ⟨i, rfl⟩
  rw [hi] at h
  simp at h
  obtain ⟨z, hz⟩ := Option.isSome_iff_exists.1 h.1
  exact ⟨i, z, hi, hz, h.2⟩

set_option maxRecDepth 100000 in
set_option maxHeartbeats 400000 in
theorem walkW_big (bx by' bz : Nat) (x3 x4 x5 : Int) (w : World) (h : 4096 < bx ∨ 4096 < by' ∨ 4096 < bz) :
    Calls Yba.prog 3 #[.int .u16 bx, .int .u16 by', .int .u16 bz, .int .u8 x3, .int .u16 x4, .int .u16 x5] w fun e w' => e = .returned (.bool true) ∧ Below w.heap.size w w' := by
  by_cases h1 : 4096 < bx
  · have g1 : decide ((4096 : Int) < (bx : Int)) = true := decide_eq_true (by omega)
    have H := Hid.mk h
    have H1 := Hid.mk h1
    clear h h1
    go_enter Yba.func3, Yba.ntmps3
    go_wp2
    go_ret
    exact ⟨rfl, Below.refl _ _⟩
  · have g1 : decide ((4096 : Int) < (bx : Int)) = false := decide_eq_false (by omega)
    by_cases h2 : 4096 < by'
    · have g2 : decide ((4096 : Int) < (by' : Int)) = true := decide_eq_true (by omega)
      have H := Hid.mk h
      have H1 := Hid.mk h1
      have H2 := Hid.mk h2
      clear h h1 h2
      go_enter Yba.func3, Yba.ntmps3
      go_wp2
      go_ret
      exact ⟨rfl, Below.refl _ _⟩
    · have g2 : decide ((4096 : Int) < (by' : Int)) = false := decide_eq_false (by omega)
      have g3 : decide ((4096 : Int) < (bz : Int)) = true := decide_eq_true (by omega)
      have H := Hid.mk h
      have H1 := Hid.mk h1
      have H2 := Hid.mk h2
      clear h h1 h2
      go_enter Yba.func3, Yba.ntmps3
      go_wp2
      go_ret
      exact ⟨rfl, Below.refl _ _⟩

set_option maxRecDepth 100000 in
set_option maxHeartbeats 400000 in
theorem walkW_many (bx by' bz T : Nat) (x3 x4 x5 : Int) (w : World) (hx : bx ≤ 4096) (hy : by' ≤ 4096) (hz : bz ≤ 4096) (hT : T = bx * by' * bz) (h : 4096 < T) :
    Calls Yba.prog 3 #[.int .u16 bx, .int .u16 by', .int .u16 bz, .int .u8 x3, .int .u16 x4, .int .u16 x5] w fun e w' => e = .returned (.bool true) ∧ Below w.heap.size w w' := by
  have g1 : decide ((4096 : Int) < (bx : Int)) = false := decide_eq_false (by omega)
  have g2 : decide ((4096 : Int) < (by' : Int)) = false := decide_eq_false (by omega)
  have g3 : decide ((4096 : Int) < (bz : Int)) = false := decide_eq_false (by omega)
  have g4 : decide ((4096 : Int) < (T : Int)) = true := decide_eq_true (by omega)
  have hXY := Nat.mul_le_mul hx hy
  have hXYZ := Nat.mul_le_mul hXY hz
  have eT : (bx : Int) * (by' : Int) * (bz : Int) = (T : Int) := by rw [hT]; simp
  have p0 : (0 : Int) ≤ (bx : Int) * (by' : Int) := by rw [← Int.natCast_mul]; omega
  have p1 : (bx : Int) * (by' : Int) ≤ 16777216 := by rw [← Int.natCast_mul]; omega
  have hT2 : T ≤ 68719476736 := by rw [hT]; omega
  have H := Hid.mk h
  have H1 := Hid.mk hT
  clear h hT hXY hXYZ
  go_enter Yba.func3, Yba.ntmps3
  go_wp2
  go_ret
  exact ⟨rfl, Below.refl _ _⟩

/-- The slice of warps, opened. -/
theorem owns_open {w' : World} {base k : Nat} {v : Value} {ps : List Nat} (h : w'.ownsRow base 47 1 v k (ps.map ptr)) (hk : k = ps.length) :
    ∃ ra cap, v = .slice ra k cap ∧ ∀ j, j < k → ∃ g, ra = some ⟨g, 0, none⟩ ∧ w'.cell? ⟨g, j, none⟩ = some (ptr (ps.getD j 0)) ∧ ∃ cs, w'.heap[g]? = some (.cells cs 47 (0, 0)) := by
  rcases h.2 with ⟨rfl, h0⟩ | ⟨g, cap, cur, rfl, _, hh, _⟩
  · exact ⟨none, 0, by rw [h0], fun j hj => by omega⟩
  · refine ⟨some ⟨g, 0, none⟩, cap, rfl, fun j hj => ⟨g, rfl, ?_, cur, hh⟩⟩
    rw [h.cellAt j (by omega)]
    simp [List.getD, show j < ps.length by omega]

end Go.Proofs.Ybulkanvk
