/-
  NARROWER THAN 'FOR EVERY INPUT', by the rows' own cells (each row's printed sentence says how): LawS1966ARoundTrip: ifaces, laid.
  DERIVED. THE GIVEN ROWS OF THIS SEAT. 1 by the template 'for every input the law returns true; each argument reads behind the call as it read before'; 0 by the template 'total and deterministic' (their statements: YbulkanrqDoorTotals.lean).
  GIVEN WITH THE SEED: the statements are not yours to turn. If you find one false, say at which input.
  Laid BY PROGRAM, IN A SANDBOX (cutbox-rows.mjs): the forced cells as the released guide's own fill.sh prints them over the translation 5cbb56e52284741f… (all of the seat's roots in one cut). By AI agents, Wed Nov 11 2026. No macro, syntax, notation, axiom, sorry.
-/
import Derived.Test.YbulkanrqDoorChecked
import GoSem.Claim
import GoSem.ClaimJoined
import GoSem.ClaimMapViews
import Derived.JoinedTies
import Derived.KernelRfl
namespace Go.Proofs.YbulkanrqDoor
/- THE CELL 'sum', in the pinned program and in every row, IS THE sha256 OF THE DUMP (.gsa) THAT YbulkanrqDoorProg.lean LOADS. Nothing in Lean hashes anything: it is a label: what it is worth is what the hold of that sum in a sandbox is worth. -/
noncomputable def Ybad.pinned : Pinned := { name := "ybulkanrqdoor", sum := "5cbb56e52284741fdf7845bb7e89979b0852c95e60190608bc7c3b3705443dd3", checked := Ybad.checked }
namespace Rows
def none {H : Type} : Left H := { results := [], args := [] }

/- WHAT THE LISTED PACKAGE-LEVEL VARIABLES READ AS WHEN THE CALL BEGINS. Each datum BY PROGRAM (the guide's laid-datum.mjs) off the statement by which the dump's own 'gosem.cut.vars' lays the variable. In a bare row this is a premise. The card (YbulkanrqDoorCards.lean) ties it to the program's text. -/
def laid_example_com_sealwire_sealwire_internal_wire_errShort {H : Type} : DataW H := .iface "*errors.errorString" (.ptr (.agg [.lit (.string [101, 110, 100, 115, 32, 101, 97, 114, 108, 121])]))

/-- 'wire.LawS1966ARoundTrip': WHATEVER THE INPUT: true; the input reads as it did. -/
def lawS1966ARoundTripSpec : ChangeSpec := { name := "lawS1966ARoundTrip", vars := ["example.com/sealwire/sealwire/internal/wire.errShort"], fn := fun _ => fun
  | [d1, d2, d3, d4, d5, d6, d7, d8, d9, d10, d11, g1] => { results := [.lit (.bool true)], args := [d1, d2, d3, d4, d5, d6, d7, d8, d9, d10, d11], vars := [g1] }
  | _ => none }
def lawS1966ARoundTripRow : OpenClaim := { program := "ybulkanrqdoor", sum := "5cbb56e52284741fdf7845bb7e89979b0852c95e60190608bc7c3b3705443dd3", func := "example.com/sealwire/sealwire/internal/wire.LawS1966ARoundTrip", spec := "lawS1966ARoundTrip", named := ["encoding/binary.BigEndian", "example.com/sealwire/sealwire/internal/wire.errShort"], ifaces := true, apart := false, laid := [("example.com/sealwire/sealwire/internal/wire.errShort", laid_example_com_sealwire_sealwire_internal_wire_errShort)] }
def LawS1966ARoundTripSaid : Prop := lawS1966ARoundTripRow.holds Ybad.pinned (OpenSpec.ofChange lawS1966ARoundTripSpec)

/-- ITS FALSE NEIGHBOUR: 'it returns false'. Refute it at one input. -/
def lawS1966ARoundTripWrong : ChangeSpec := { name := "lawS1966ARoundTrip", vars := ["example.com/sealwire/sealwire/internal/wire.errShort"], fn := fun _ => fun
  | [d1, d2, d3, d4, d5, d6, d7, d8, d9, d10, d11, g1] => { results := [.lit (.bool false)], args := [d1, d2, d3, d4, d5, d6, d7, d8, d9, d10, d11], vars := [g1] }
  | _ => none }
def LawS1966ARoundTripWrongFalsely : Prop := lawS1966ARoundTripRow.holds Ybad.pinned (OpenSpec.ofChange lawS1966ARoundTripWrong)

end Rows
end Go.Proofs.YbulkanrqDoor
