/-
  DERIVED. GIVEN WITH THE SEED: THE CARDS: each row of YbulkanvkDoorRows.lean that lists a variable, with what it lists TIED to the program's text (the seventh form; the later family's looks); each row that meets fmt, with fmt's text TOLD by the authors' own Lean function (tested against real Go, not proved from fmt's source: count such statements apart). THE CARD IS WHAT COUNTS. Prove the row's statement (the work); the ties are given (YbulkanvkDoorTie.lean); close each card by the builder's one call (the guide's Derived/Test/ToyasCard.lean, 'card_holds'). Laid BY PROGRAM, IN A SANDBOX (cutbox-door.mjs). By AI agents, Wed Nov 11 2026. No macro, syntax, notation, axiom, sorry.
-/
import Derived.Test.YbulkanvkDoorRows
import GoSem.ClaimSeven
namespace Go.Proofs.YbulkanvkDoor
namespace Rows

/-- THE TIED CARD OF 'gpu.LawS1973BModel'. -/
def lawS1973BModelCard : Claim7 := { stood := { row := lawS1973BModelRow, standIns := [], harness := (true, "dc967a4e1a36f996c32830fd382ac44f49f7335e3ea565e84be82e146366f817"), looks := false }, kinds := [], alts := [], laidByText := true, laidKinds := [.data], laidTests := true, laidLooks := .later }
def LawS1973BModelCardSaid : Prop := Claim7.holds Ybad.pinned (.plain (OpenSpec.ofChange lawS1973BModelSpec)) lawS1973BModelCard

/-- THE TIED CARD OF 'gpu.LawS1973BReuse'. -/
def lawS1973BReuseCard : Claim7 := { stood := { row := lawS1973BReuseRow, standIns := [], harness := (true, "dc967a4e1a36f996c32830fd382ac44f49f7335e3ea565e84be82e146366f817"), looks := false }, kinds := [], alts := [], laidByText := true, laidKinds := [.data], laidTests := true, laidLooks := .later }
def LawS1973BReuseCardSaid : Prop := Claim7.holds Ybad.pinned (.plain (OpenSpec.ofChange lawS1973BReuseSpec)) lawS1973BReuseCard
end Rows
end Go.Proofs.YbulkanvkDoor
