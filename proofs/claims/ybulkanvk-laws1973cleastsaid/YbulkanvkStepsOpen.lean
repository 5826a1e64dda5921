/-
  Seat b1973a: a slice of steps that came in, opened.
-/
import Derived.Test.YbulkanvkNotJust
import Derived.ProofKit
import Derived.OpenShut
import Derived.ShutString
import Derived.ChangeOld
import Derived.Below
import Derived.Deep.Slices
import Derived.Lib.SmallJoins
namespace Go.Proofs.Ybulkanvk
open Go.ChangeShapes Go.WideShapes Go.ChangeAt Go.RowKit Go.Deep Go.Joins

theorem own : ownKnob Yba.prog.godebug = none := by kernel_rfl
theorem laidOut : laidOutB Yba.prog = true := by kernel_rfl
theorem cells61 : Yba.prog.cellsOf 61 = 2 := by kernel_rfl
theorem cells5 : Yba.prog.cellsOf 5 = 1 := by kernel_rfl

theorem open_step {H : Type} {enc : TypeId × Value → H} {w : World} {n : Nat} {x : DataW H × List MemPlace} {cs : List Value} (h : DataW.trod enc Yba.prog w 0 (fun _ => true) true n 61 cs = some x) :
    ∃ s t : Int, cs = [.int .u8 s, .int .u8 t] ∧ (0 ≤ s ∧ s ≤ 255 ∧ 0 ≤ t ∧ t ≤ 255) := by
  obtain ⟨y0, y1, m, _, hl, h0, h1⟩ := trod_struct2 Yba.underlying61 h
  rw [cells61] at hl
  match cs, hl with
  | [c0, c1], _ =>
    obtain ⟨s, e0, _, w0⟩ := DataW.trod_int Yba.underlying5 h0
    obtain ⟨t, e1, _, w1⟩ := DataW.trod_int Yba.underlying5 h1
    simp [cells5] at e0 e1
    have b0 := bounds_u8 w0
    have b1 := bounds_u8 w1
    exact ⟨s, t, by rw [e0, e1], b0.1, b0.2, b1.1, b1.2⟩

theorem open_steps {H : Type} {enc : TypeId × Value → H} {w : World} {a : Option Addr} {len cap : Nat} {d : DataW H} {p : List MemPlace} (h : DataW.Trod enc Yba.prog w 0 (fun _ => true) true 57 (.slice a len cap) d p) :
    ∃ S W : Nat → Int, Steps w a len S W := by
  obtain ⟨fuel, hf⟩ := h
  rcases open_slice Yba.underlying57 hf with ⟨hcs, _⟩ | ⟨ad, len', cap', m, n, D, Pl, hcs, _, hl, _, hm, _, hx⟩
  · simp [Value.cells] at hcs
    obtain ⟨rfl, rfl, rfl⟩ := hcs
    exact ⟨fun _ => 0, fun _ => 0, ⟨fun _ => by omega, fun j hj => by omega⟩⟩
  · simp [Value.cells] at hcs
    obtain ⟨rfl, rfl, rfl⟩ := hcs
    simp only [if_true] at hm
    subst hm
    by_cases hm0 : len = 0
    · subst hm0; exact ⟨fun _ => 0, fun _ => 0, ⟨fun _ => by omega, fun j hj => by omega⟩⟩
    obtain ⟨b, off, spot⟩ := ad
    have hspot : spot = none := by
      obtain ⟨cs', h1, h2⟩ := hx 0 (by omega)
      rw [cells61] at h1
      obtain ⟨s, t, rfl, _⟩ := open_step h2
      obtain ⟨_, _, hc⟩ := World.cells?_some h1
      have c0 := hc 0 (by omega)
      simp only [List.getElem?_cons_zero] at c0
      simpa [Addr.add] using World.cell?_spot c0
    subst hspot
    have hone : ∀ i, ∃ st : Int × Int, (0 ≤ st.1 ∧ st.1 ≤ 255 ∧ 0 ≤ st.2 ∧ st.2 ≤ 255) ∧ (i < m → w.cell? ⟨b, off + i * 2, none⟩ = some (.int .u8 st.1) ∧ w.cell? ⟨b, off + i * 2 + 1, none⟩ = some (.int .u8 st.2)) := by
      intro i
      by_cases hi : i < m
      · obtain ⟨cs', h1, h2⟩ := hx i hi
        rw [cells61, add_plain] at h1
        obtain ⟨s, t, rfl, hb⟩ := open_step h2
        obtain ⟨_, _, hc⟩ := World.cells?_some h1
        have c0 := hc 0 (by omega)
        have c1 := hc 1 (by omega)
        rw [add_plain] at c0 c1
        exact ⟨(s, t), hb, fun _ => ⟨by simpa using c0, by simpa using c1⟩⟩
      · exact ⟨(0, 0), by simp, fun h => absurd h hi⟩
    refine ⟨fun i => (Classical.choose (hone i)).1, fun i => (Classical.choose (hone i)).2, ⟨fun i => (Classical.choose_spec (hone i)).1, fun j hj => ?_⟩⟩
    obtain ⟨c0, c1⟩ := (Classical.choose_spec (hone j)).2 (by omega)
    exact ⟨b, off, rfl, World.block_lt_of_cell? w _ c0, c0, c1⟩

end Go.Proofs.Ybulkanvk
