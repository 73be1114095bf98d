/-
  DERIVED. GIVEN WITH THE SEED: THE CARDS: each row of YbulkanrqFmtRows.lean that lists a variable, with what it lists TIED to the program's text (the seventh form; the later family's looks); each row that meets fmt, with fmt's text TOLD by the authors' own Lean function (tested against real Go, not proved from fmt's source: count such statements apart). THE CARD IS WHAT COUNTS. Prove the row's statement (the work); the ties are given (YbulkanrqFmtTie.lean); close each card by the builder's one call (the guide's Derived/Test/ToyasCard.lean, 'card_holds'). Laid BY PROGRAM, IN A SANDBOX (cutbox-door.mjs). By AI agents, Wed Nov 11 2026. No macro, syntax, notation, axiom, sorry.
-/
import Derived.Test.YbulkanrqFmtRows
import GoSem.ClaimSeven
namespace Go.Proofs.YbulkanrqFmt
namespace Rows

/-- THE TOLD AND TIED CARD OF 'wire.LawS1966BShort'. -/
def lawS1966BShortCard : Claim7 := { stood := { row := lawS1966BShortRow, standIns := [], harness := (true, "42e05c62dd84c4d1c5a7296043a85d382c4cd2b0483953a283ee6409d60285b2"), looks := true }, told := true, laidByText := true, laidKinds := [.sentinel, .sentinel], laidTests := true, laidLooks := .later, goes := false }
def LawS1966BShortToldSaid : Prop := Claim7.holds Ybaf.pinned (.plain (OpenSpec.ofChange lawS1966BShortSpec)) lawS1966BShortCard
/-- ITS FALSE NEIGHBOUR. Refute it at one input. -/
def LawS1966BShortToldWrongFalsely : Prop := Claim7.holds Ybaf.pinned (.plain (OpenSpec.ofChange lawS1966BShortWrong)) lawS1966BShortCard

/-- THE TOLD AND TIED CARD OF 'wire.LawS1966BHeader'. -/
def lawS1966BHeaderCard : Claim7 := { stood := { row := lawS1966BHeaderRow, standIns := [], harness := (true, "42e05c62dd84c4d1c5a7296043a85d382c4cd2b0483953a283ee6409d60285b2"), looks := true }, told := true, laidByText := true, laidKinds := [.sentinel, .sentinel], laidTests := true, laidLooks := .later, goes := false }
def LawS1966BHeaderToldSaid : Prop := Claim7.holds Ybaf.pinned (.plain (OpenSpec.ofChange lawS1966BHeaderSpec)) lawS1966BHeaderCard
/-- ITS FALSE NEIGHBOUR. Refute it at one input. -/
def LawS1966BHeaderToldWrongFalsely : Prop := Claim7.holds Ybaf.pinned (.plain (OpenSpec.ofChange lawS1966BHeaderWrong)) lawS1966BHeaderCard

/-- THE TOLD AND TIED CARD OF 'wire.LawS1966CWord'. -/
def lawS1966CWordCard : Claim7 := { stood := { row := lawS1966CWordRow, standIns := [], harness := (true, "42e05c62dd84c4d1c5a7296043a85d382c4cd2b0483953a283ee6409d60285b2"), looks := true }, told := true, laidByText := true, laidKinds := [.data, .data, .data], laidTests := true, laidLooks := .later, goes := false }
def LawS1966CWordToldSaid : Prop := Claim7.holds Ybaf.pinned (.plain (OpenSpec.ofChange lawS1966CWordSpec)) lawS1966CWordCard
/-- ITS FALSE NEIGHBOUR. Refute it at one input. -/
def LawS1966CWordToldWrongFalsely : Prop := Claim7.holds Ybaf.pinned (.plain (OpenSpec.ofChange lawS1966CWordWrong)) lawS1966CWordCard
end Rows
end Go.Proofs.YbulkanrqFmt
