/-
  No cell of these rows narrows 'for every input' (looked for: loops, veiled, ifaces, maps, wideKeys, modest, calm, conditions, laid).
  DERIVED. THE GIVEN ROWS OF THIS SEAT. 4 by the template 'for every input the law returns true; each argument reads behind the call as it read before'; 0 by the template 'total and deterministic' (their statements: YbulkanvkTotals.lean).
  GIVEN WITH THE SEED: the statements are not yours to turn. If you find one false, say at which input.
  Laid BY PROGRAM, IN A SANDBOX (cutbox-rows.mjs): the forced cells as the released guide's own fill.sh prints them over the translation 336c38c7788991e2… (all of the seat's roots in one cut). By AI agents, Wed Nov 11 2026. No macro, syntax, notation, axiom, sorry.
-/
import Derived.Test.YbulkanvkChecked
import GoSem.Claim
import GoSem.ClaimJoined
import GoSem.ClaimMapViews
import Derived.JoinedTies
import Derived.KernelRfl
namespace Go.Proofs.Ybulkanvk
/- THE CELL 'sum', in the pinned program and in every row, IS THE sha256 OF THE DUMP (.gsa) THAT YbulkanvkProg.lean LOADS. Nothing in Lean hashes anything: it is a label: what it is worth is what the hold of that sum in a sandbox is worth. -/
noncomputable def Yba.pinned : Pinned := { name := "ybulkanvk", sum := "336c38c7788991e224014e54b15b944cf34f54cce4b754400b06186e4cbbe8d4", checked := Yba.checked }
namespace Rows
def none {H : Type} : Left H := { results := [], args := [] }

/-- 'simt.LawS1973AWarps': WHATEVER THE INPUT: true; the input reads as it did. -/
def lawS1973AWarpsSpec : ChangeSpec := { name := "lawS1973AWarps", fn := fun _ => fun
  | [d1, d2, d3, d4, d5, d6] => { results := [.lit (.bool true)], args := [d1, d2, d3, d4, d5, d6] }
  | _ => none }
def lawS1973AWarpsRow : OpenClaim := { program := "ybulkanvk", sum := "336c38c7788991e224014e54b15b944cf34f54cce4b754400b06186e4cbbe8d4", func := "example.com/warpwright/warpwright/internal/simt.LawS1973AWarps", spec := "lawS1973AWarps", apart := false }
def LawS1973AWarpsSaid : Prop := lawS1973AWarpsRow.holds Yba.pinned (OpenSpec.ofChange lawS1973AWarpsSpec)

/-- ITS FALSE NEIGHBOUR: 'it returns false'. Refute it at one input. -/
def lawS1973AWarpsWrong : ChangeSpec := { name := "lawS1973AWarps", fn := fun _ => fun
  | [d1, d2, d3, d4, d5, d6] => { results := [.lit (.bool false)], args := [d1, d2, d3, d4, d5, d6] }
  | _ => none }
def LawS1973AWarpsWrongFalsely : Prop := lawS1973AWarpsRow.holds Yba.pinned (OpenSpec.ofChange lawS1973AWarpsWrong)

/-- 'simt.LawS1973AIndex': WHATEVER THE INPUT: true; the input reads as it did. -/
def lawS1973AIndexSpec : ChangeSpec := { name := "lawS1973AIndex", fn := fun _ => fun
  | [d1, d2, d3, d4] => { results := [.lit (.bool true)], args := [d1, d2, d3, d4] }
  | _ => none }
def lawS1973AIndexRow : OpenClaim := { program := "ybulkanvk", sum := "336c38c7788991e224014e54b15b944cf34f54cce4b754400b06186e4cbbe8d4", func := "example.com/warpwright/warpwright/internal/simt.LawS1973AIndex", spec := "lawS1973AIndex", apart := false }
def LawS1973AIndexSaid : Prop := lawS1973AIndexRow.holds Yba.pinned (OpenSpec.ofChange lawS1973AIndexSpec)

/-- ITS FALSE NEIGHBOUR: 'it returns false'. Refute it at one input. -/
def lawS1973AIndexWrong : ChangeSpec := { name := "lawS1973AIndex", fn := fun _ => fun
  | [d1, d2, d3, d4] => { results := [.lit (.bool false)], args := [d1, d2, d3, d4] }
  | _ => none }
def LawS1973AIndexWrongFalsely : Prop := lawS1973AIndexRow.holds Yba.pinned (OpenSpec.ofChange lawS1973AIndexWrong)

/-- 'gpu.LawS1973CLeast': WHATEVER THE INPUT: true; the input reads as it did. -/
def lawS1973CLeastSpec : ChangeSpec := { name := "lawS1973CLeast", fn := fun _ => fun
  | [d1, d2, d3] => { results := [.lit (.bool true)], args := [d1, d2, d3] }
  | _ => none }
def lawS1973CLeastRow : OpenClaim := { program := "ybulkanvk", sum := "336c38c7788991e224014e54b15b944cf34f54cce4b754400b06186e4cbbe8d4", func := "example.com/warpwright/warpwright/internal/gpu.LawS1973CLeast", spec := "lawS1973CLeast", apart := false }
def LawS1973CLeastSaid : Prop := lawS1973CLeastRow.holds Yba.pinned (OpenSpec.ofChange lawS1973CLeastSpec)

/-- ITS FALSE NEIGHBOUR: 'it returns false'. Refute it at one input. -/
def lawS1973CLeastWrong : ChangeSpec := { name := "lawS1973CLeast", fn := fun _ => fun
  | [d1, d2, d3] => { results := [.lit (.bool false)], args := [d1, d2, d3] }
  | _ => none }
def LawS1973CLeastWrongFalsely : Prop := lawS1973CLeastRow.holds Yba.pinned (OpenSpec.ofChange lawS1973CLeastWrong)

/-- 'gpu.LawS1973CNotJustUsed': WHATEVER THE INPUT: true; the input reads as it did. -/
def lawS1973CNotJustUsedSpec : ChangeSpec := { name := "lawS1973CNotJustUsed", fn := fun _ => fun
  | [d1, d2, d3, d4] => { results := [.lit (.bool true)], args := [d1, d2, d3, d4] }
  | _ => none }
def lawS1973CNotJustUsedRow : OpenClaim := { program := "ybulkanvk", sum := "336c38c7788991e224014e54b15b944cf34f54cce4b754400b06186e4cbbe8d4", func := "example.com/warpwright/warpwright/internal/gpu.LawS1973CNotJustUsed", spec := "lawS1973CNotJustUsed", apart := false }
def LawS1973CNotJustUsedSaid : Prop := lawS1973CNotJustUsedRow.holds Yba.pinned (OpenSpec.ofChange lawS1973CNotJustUsedSpec)

/-- ITS FALSE NEIGHBOUR: 'it returns false'. Refute it at one input. -/
def lawS1973CNotJustUsedWrong : ChangeSpec := { name := "lawS1973CNotJustUsed", fn := fun _ => fun
  | [d1, d2, d3, d4] => { results := [.lit (.bool false)], args := [d1, d2, d3, d4] }
  | _ => none }
def LawS1973CNotJustUsedWrongFalsely : Prop := lawS1973CNotJustUsedRow.holds Yba.pinned (OpenSpec.ofChange lawS1973CNotJustUsedWrong)

end Rows
end Go.Proofs.Ybulkanvk
