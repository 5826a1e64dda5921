/-
  NARROWER THAN 'FOR EVERY INPUT', by the rows' own cells (each row's printed sentence says how): LawS1973BModel: laid · LawS1973BReuse: laid.
  DERIVED. THE GIVEN ROWS OF THIS SEAT. 2 by the template 'for every input the law returns true; each argument reads behind the call as it read before'; 0 by the template 'total and deterministic' (their statements: YbulkanvkDoorTotals.lean).
  GIVEN WITH THE SEED: the statements are not yours to turn. If you find one false, say at which input.
  Laid BY PROGRAM, IN A SANDBOX (cutbox-rows.mjs): the forced cells as the released guide's own fill.sh prints them over the translation 8cd0918e2e42a3b3… (all of the seat's roots in one cut). By AI agents, Wed Nov 11 2026. No macro, syntax, notation, axiom, sorry.
-/
import Derived.Test.YbulkanvkDoorChecked
import GoSem.Claim
import GoSem.ClaimJoined
import GoSem.ClaimMapViews
import Derived.JoinedTies
import Derived.KernelRfl
namespace Go.Proofs.YbulkanvkDoor
/- THE CELL 'sum', in the pinned program and in every row, IS THE sha256 OF THE DUMP (.gsa) THAT YbulkanvkDoorProg.lean LOADS. Nothing in Lean hashes anything: it is a label: what it is worth is what the hold of that sum in a sandbox is worth. -/
noncomputable def Ybad.pinned : Pinned := { name := "ybulkanvkdoor", sum := "8cd0918e2e42a3b3b87afb0d13e639c12d6fc5333dfa2dbea6e439cee0c92fb2", checked := Ybad.checked }
namespace Rows
def none {H : Type} : Left H := { results := [], args := [] }

/- WHAT THE LISTED PACKAGE-LEVEL VARIABLES READ AS WHEN THE CALL BEGINS. Each datum BY PROGRAM (the guide's laid-datum.mjs) off the statement by which the dump's own 'gosem.cut.vars' lays the variable. In a bare row this is a premise. The card (YbulkanvkDoorCards.lean) ties it to the program's text. -/
def laid_math_bits_deBruijn32tab {H : Type} : DataW H := .agg [.lit (.int .u8 0), .lit (.int .u8 1), .lit (.int .u8 28), .lit (.int .u8 2), .lit (.int .u8 29), .lit (.int .u8 14), .lit (.int .u8 24), .lit (.int .u8 3), .lit (.int .u8 30), .lit (.int .u8 22), .lit (.int .u8 20), .lit (.int .u8 15), .lit (.int .u8 25), .lit (.int .u8 17), .lit (.int .u8 4), .lit (.int .u8 8), .lit (.int .u8 31), .lit (.int .u8 27), .lit (.int .u8 13), .lit (.int .u8 23), .lit (.int .u8 21), .lit (.int .u8 19), .lit (.int .u8 16), .lit (.int .u8 7), .lit (.int .u8 26), .lit (.int .u8 12), .lit (.int .u8 18), .lit (.int .u8 6), .lit (.int .u8 11), .lit (.int .u8 5), .lit (.int .u8 10), .lit (.int .u8 9)]

/-- 'gpu.LawS1973BModel': WHATEVER THE INPUT: true; the input reads as it did. -/
def lawS1973BModelSpec : ChangeSpec := { name := "lawS1973BModel", fn := fun _ => fun
  | [d1, d2, d3, d4, d5, d6] => { results := [.lit (.bool true)], args := [d1, d2, d3, d4, d5, d6] }
  | _ => none }
def lawS1973BModelRow : OpenClaim := { program := "ybulkanvkdoor", sum := "8cd0918e2e42a3b3b87afb0d13e639c12d6fc5333dfa2dbea6e439cee0c92fb2", func := "example.com/warpwright/warpwright/internal/gpu.LawS1973BModel", spec := "lawS1973BModel", named := ["math/bits.deBruijn32tab"], apart := false, laid := [("math/bits.deBruijn32tab", laid_math_bits_deBruijn32tab)] }
def LawS1973BModelSaid : Prop := lawS1973BModelRow.holds Ybad.pinned (OpenSpec.ofChange lawS1973BModelSpec)

/-- ITS FALSE NEIGHBOUR: 'it returns false'. Refute it at one input. -/
def lawS1973BModelWrong : ChangeSpec := { name := "lawS1973BModel", fn := fun _ => fun
  | [d1, d2, d3, d4, d5, d6] => { results := [.lit (.bool false)], args := [d1, d2, d3, d4, d5, d6] }
  | _ => none }
def LawS1973BModelWrongFalsely : Prop := lawS1973BModelRow.holds Ybad.pinned (OpenSpec.ofChange lawS1973BModelWrong)

/-- 'gpu.LawS1973BReuse': WHATEVER THE INPUT: true; the input reads as it did. -/
def lawS1973BReuseSpec : ChangeSpec := { name := "lawS1973BReuse", fn := fun _ => fun
  | [d1, d2, d3, d4, d5, d6, d7, d8, d9, d10] => { results := [.lit (.bool true)], args := [d1, d2, d3, d4, d5, d6, d7, d8, d9, d10] }
  | _ => none }
def lawS1973BReuseRow : OpenClaim := { program := "ybulkanvkdoor", sum := "8cd0918e2e42a3b3b87afb0d13e639c12d6fc5333dfa2dbea6e439cee0c92fb2", func := "example.com/warpwright/warpwright/internal/gpu.LawS1973BReuse", spec := "lawS1973BReuse", named := ["math/bits.deBruijn32tab"], apart := false, laid := [("math/bits.deBruijn32tab", laid_math_bits_deBruijn32tab)] }
def LawS1973BReuseSaid : Prop := lawS1973BReuseRow.holds Ybad.pinned (OpenSpec.ofChange lawS1973BReuseSpec)

/-- ITS FALSE NEIGHBOUR: 'it returns false'. Refute it at one input. -/
def lawS1973BReuseWrong : ChangeSpec := { name := "lawS1973BReuse", fn := fun _ => fun
  | [d1, d2, d3, d4, d5, d6, d7, d8, d9, d10] => { results := [.lit (.bool false)], args := [d1, d2, d3, d4, d5, d6, d7, d8, d9, d10] }
  | _ => none }
def LawS1973BReuseWrongFalsely : Prop := lawS1973BReuseRow.holds Ybad.pinned (OpenSpec.ofChange lawS1973BReuseWrong)

end Rows
end Go.Proofs.YbulkanvkDoor
