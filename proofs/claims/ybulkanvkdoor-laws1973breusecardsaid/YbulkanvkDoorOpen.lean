/-
  Seat b1973aD: what the rows' proofs share: the listed table, an array of 32 numbers opened.
-/
import Derived.Test.YbulkanvkDoorLawM
import Derived.ProofKit
import Derived.LaidMore
import Derived.OpenShut
import Derived.Lib.LaidTab
import Derived.Stop.Joined
namespace Go.Proofs.YbulkanvkDoor
open Go.ChangeShapes Go.WideShapes Go.ChangeAt Go.RowKit

theorem own : ownKnob Ybad.prog.godebug = none := by kernel_rfl
theorem laidOut : laidOutB Ybad.prog = true := by kernel_rfl
theorem cells5 : Ybad.prog.cellsOf 5 = 1 := by kernel_rfl
theorem cells23 : Ybad.prog.cellsOf 23 = 1 := by kernel_rfl
theorem cells24 : Ybad.prog.cellsOf 24 = 32 := by kernel_rfl
theorem cells53 : Ybad.prog.cellsOf 53 = 32 := by kernel_rfl

/-- The listed variable's name, as the given row has it. -/
def tabName : String := Rows.lawS1973BModelRow.named.headD ""
theorem gTab : Ybad.prog.globalNamed tabName = some 0 := by kernel_rfl
theorem tTab : (Ybad.prog.globals[0]?).map (·.type) = some 53 := by kernel_rfl

theorem of_laid {W : World} (h : laidMetH Ybad.prog Rows.lawS1973BModelRow.laid W) : Go.Proofs.TabAt 0 Lib.deBruijn32tab W ∧ 0 < W.heap.size := by
  rw [MakeChecks.laidMetH_plain _ _ _ (by kernel_rfl)] at h
  have h' : laidMet Ybad.prog ((tabName, Lib.tabData .u8 (Lib.deBruijn32tab.map Int.ofNat)) :: []) W := h
  have ht := Lib.tabIs_of_head gTab tTab Ybad.underlying53 Ybad.underlying5 cells5 cells53 h'
  have hc : Go.Proofs.TabAt 0 Lib.deBruijn32tab W := by
    intro j hj
    rw [World.var?_cell gTab ht j]
    simp [List.getD, hj]
  exact ⟨hc, World.block_lt_of_cell? W _ (hc 0 (by decide))⟩

/-- The door's own heap meets the condition. -/
theorem door_met (os : Os) (args : Array Value) : laidMetH Ybad.prog Rows.lawS1973BModelRow.laid ((World.doorLaid Ybad.prog 400 os).forCall (fun _ _ => 0) ⟨#[], args, []⟩).memory :=
  laidMetH_of_parts3 (fuel := 8) (laidMet_of_run' 8 (by kernel_rfl) (by kernel_rfl)) (by kernel_rfl) (by kernel_rfl)

/-- An array of 32 numbers by value, opened. -/
theorem open_arr {H : Type} {enc : TypeId × Value → H} {w : World} {n : Nat} {x : DataW H × List MemPlace} {cs : List Value} (h : DataW.trod enc Ybad.prog w 0 (fun _ => true) true n 24 cs = some x) :
    ∃ L : List Int, cs = L.map (Value.int .u16) ∧ L.length = 32 ∧ ∀ j, 0 ≤ L.getD j 0 ∧ L.getD j 0 ≤ 65535 := by
  obtain ⟨xs, m, _, _, hl, hlen, hel⟩ := DataW.trod_array Ybad.underlying24 h
  rw [cells24] at hl
  have hone : ∀ i, i < 32 → ∃ z : Int, cs[i]? = some (.int .u16 z) ∧ 0 ≤ z ∧ z ≤ 65535 := by
    intro i hi
    have h1 := hel i hi
    rw [cells23, Nat.mul_one, List.getElem?_eq_getElem (show i < xs.length by omega)] at h1
    obtain ⟨z, e, _, hw⟩ := DataW.trod_int Ybad.underlying23 h1
    have e0 := congrArg (fun l => l[0]?) e
    have hb := bounds_u16 hw
    refine ⟨z, ?_, hb.1, hb.2⟩
    simpa [List.getElem?_take, List.getElem?_drop] using e0
  refine ⟨(List.range 32).map (fun i => if h : i < 32 then Classical.choose (hone i h) else 0), ?_, by simp, ?_⟩
  · apply List.ext_getElem?
    intro i
    by_cases hi : i < 32
    · rw [(Classical.choose_spec (hone i hi)).1]
      simp [hi]
    · rw [List.getElem?_eq_none (by omega), List.getElem?_eq_none (by simp; omega)]
  · intro j
    by_cases hj : j < 32
    · have := (Classical.choose_spec (hone j hj)).2
      simpa [List.getD, hj] using this
    · simp [List.getD, hj]

end Go.Proofs.YbulkanvkDoor
