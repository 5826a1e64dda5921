/-
  No cell of these rows narrows 'for every input' (looked for: loops, veiled, ifaces, maps, wideKeys, modest, calm, conditions, laid).
  DERIVED. THE GIVEN ROWS OF THIS SEAT. 2 by the template 'for every input the law returns true; each argument reads behind the call as it read before'; 0 by the template 'total and deterministic' (their statements: YbulkanuwTotals.lean).
  GIVEN WITH THE SEED: the statements are not yours to turn. If you find one false, say at which input.
  Laid BY PROGRAM, IN A SANDBOX (cutbox-rows.mjs): the forced cells as the released guide's own fill.sh prints them over the translation 6c90713610efaf9e… (all of the seat's roots in one cut). By AI agents, Wed Nov 11 2026. No macro, syntax, notation, axiom, sorry.
-/
import Derived.Test.YbulkanuwChecked
import GoSem.Claim
import GoSem.ClaimJoined
import GoSem.ClaimMapViews
import Derived.JoinedTies
import Derived.KernelRfl
namespace Go.Proofs.Ybulkanuw
/- THE CELL 'sum', in the pinned program and in every row, IS THE sha256 OF THE DUMP (.gsa) THAT YbulkanuwProg.lean LOADS. Nothing in Lean hashes anything: it is a label: what it is worth is what the hold of that sum in a sandbox is worth. -/
noncomputable def Yba.pinned : Pinned := { name := "ybulkanuw", sum := "6c90713610efaf9e6e364616cf7e3b3f1071a983588925d0e9c4bd0857327db8", checked := Yba.checked }
namespace Rows
def none {H : Type} : Left H := { results := [], args := [] }

/-- 'history.LawS1972CModel': WHATEVER THE INPUT: true; the input reads as it did. -/
def lawS1972CModelSpec : ChangeSpec := { name := "lawS1972CModel", fn := fun _ => fun
  | [d1, d2] => { results := [.lit (.bool true)], args := [d1, d2] }
  | _ => none }
def lawS1972CModelRow : OpenClaim := { program := "ybulkanuw", sum := "6c90713610efaf9e6e364616cf7e3b3f1071a983588925d0e9c4bd0857327db8", func := "example.com/keelson/keelson/history.LawS1972CModel", spec := "lawS1972CModel", apart := false }
def LawS1972CModelSaid : Prop := lawS1972CModelRow.holds Yba.pinned (OpenSpec.ofChange lawS1972CModelSpec)

/-- ITS FALSE NEIGHBOUR: 'it returns false'. Refute it at one input. -/
def lawS1972CModelWrong : ChangeSpec := { name := "lawS1972CModel", fn := fun _ => fun
  | [d1, d2] => { results := [.lit (.bool false)], args := [d1, d2] }
  | _ => none }
def LawS1972CModelWrongFalsely : Prop := lawS1972CModelRow.holds Yba.pinned (OpenSpec.ofChange lawS1972CModelWrong)

/-- 'history.LawS1972CBuilt': WHATEVER THE INPUT: true; the input reads as it did. -/
def lawS1972CBuiltSpec : ChangeSpec := { name := "lawS1972CBuilt", fn := fun _ => fun
  | [d] => { results := [.lit (.bool true)], args := [d] }
  | _ => none }
def lawS1972CBuiltRow : OpenClaim := { program := "ybulkanuw", sum := "6c90713610efaf9e6e364616cf7e3b3f1071a983588925d0e9c4bd0857327db8", func := "example.com/keelson/keelson/history.LawS1972CBuilt", spec := "lawS1972CBuilt", apart := false }
def LawS1972CBuiltSaid : Prop := lawS1972CBuiltRow.holds Yba.pinned (OpenSpec.ofChange lawS1972CBuiltSpec)

/-- ITS FALSE NEIGHBOUR: 'it returns false'. Refute it at one input. -/
def lawS1972CBuiltWrong : ChangeSpec := { name := "lawS1972CBuilt", fn := fun _ => fun
  | [d] => { results := [.lit (.bool false)], args := [d] }
  | _ => none }
def LawS1972CBuiltWrongFalsely : Prop := lawS1972CBuiltRow.holds Yba.pinned (OpenSpec.ofChange lawS1972CBuiltWrong)

end Rows
end Go.Proofs.Ybulkanuw
