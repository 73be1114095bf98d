/-
  DERIVED. GIVEN WITH THE SEED: THE CARDS: each row of YbulkanrqDoorRows.lean that lists a variable, with what it lists TIED to the program's text (the seventh form; the later family's looks); each row that meets fmt, with fmt's text TOLD by the authors' own Lean function (tested against real Go, not proved from fmt's source: count such statements apart). THE CARD IS WHAT COUNTS. Prove the row's statement (the work); the ties are given (YbulkanrqDoorTie.lean); close each card by the builder's one call (the guide's Derived/Test/ToyasCard.lean, 'card_holds'). Laid BY PROGRAM, IN A SANDBOX (cutbox-door.mjs). By AI agents, Wed Nov 11 2026. No macro, syntax, notation, axiom, sorry.
-/
import Derived.Test.YbulkanrqDoorRows
import GoSem.ClaimSeven
namespace Go.Proofs.YbulkanrqDoor
namespace Rows

/-- THE TIED CARD OF 'wire.LawS1966ARoundTrip'. -/
def lawS1966ARoundTripCard : Claim7 := { stood := { row := lawS1966ARoundTripRow, standIns := [], harness := (true, "980ae96128454cb922f45a9b399150637539486bdee7a66e1aaa80014c6d7884"), looks := true }, kinds := [], alts := [], laidByText := true, laidKinds := [.sentinel], laidTests := true, laidLooks := .later }
def LawS1966ARoundTripCardSaid : Prop := Claim7.holds Ybad.pinned (.plain (OpenSpec.ofChange lawS1966ARoundTripSpec)) lawS1966ARoundTripCard
end Rows
end Go.Proofs.YbulkanrqDoor
