/-
  No cell of these rows narrows 'for every input' (looked for: loops, veiled, ifaces, maps, wideKeys, modest, calm, conditions, laid).
  DERIVED. THE GIVEN ROWS OF THIS SEAT. 2 by the template 'for every input the law returns true; each argument reads behind the call as it read before'; 0 by the template 'total and deterministic' (their statements: YbulkanrcTotals.lean).
  GIVEN WITH THE SEED: the statements are not yours to turn. If you find one false, say at which input.
  Laid BY PROGRAM, IN A SANDBOX (cutbox-rows.mjs): the forced cells as the released guide's own fill.sh prints them over the translation ce927c2667ca4890… (all of the seat's roots in one cut). By AI agents, Wed Nov 11 2026. No macro, syntax, notation, axiom, sorry.
-/
import Derived.Test.YbulkanrcChecked
import GoSem.Claim
import GoSem.ClaimJoined
import GoSem.ClaimMapViews
import Derived.JoinedTies
import Derived.KernelRfl
namespace Go.Proofs.Ybulkanrc
/- THE CELL 'sum', in the pinned program and in every row, IS THE sha256 OF THE DUMP (.gsa) THAT YbulkanrcProg.lean LOADS. Nothing in Lean hashes anything: it is a label: what it is worth is what the hold of that sum in a sandbox is worth. -/
noncomputable def Yba.pinned : Pinned := { name := "ybulkanrc", sum := "ce927c2667ca4890c761da1500fc8aff05bcb22442d6be40d404401df1f86a28", checked := Yba.checked }
namespace Rows
def none {H : Type} : Left H := { results := [], args := [] }

/-- 'check.LawS1965AMatches': WHATEVER THE INPUT: true; the input reads as it did. -/
def lawS1965AMatchesSpec : ChangeSpec := { name := "lawS1965AMatches", fn := fun _ => fun
  | [d1, d2] => { results := [.lit (.bool true)], args := [d1, d2] }
  | _ => none }
def lawS1965AMatchesRow : OpenClaim := { program := "ybulkanrc", sum := "ce927c2667ca4890c761da1500fc8aff05bcb22442d6be40d404401df1f86a28", func := "example.com/crier/crier/check.LawS1965AMatches", spec := "lawS1965AMatches", unfollowed := true, recurses := true, apart := false }
def LawS1965AMatchesSaid : Prop := lawS1965AMatchesRow.holds Yba.pinned (OpenSpec.ofChange lawS1965AMatchesSpec)

/-- ITS FALSE NEIGHBOUR: 'it returns false'. Refute it at one input. -/
def lawS1965AMatchesWrong : ChangeSpec := { name := "lawS1965AMatches", fn := fun _ => fun
  | [d1, d2] => { results := [.lit (.bool false)], args := [d1, d2] }
  | _ => none }
def LawS1965AMatchesWrongFalsely : Prop := lawS1965AMatchesRow.holds Yba.pinned (OpenSpec.ofChange lawS1965AMatchesWrong)

/-- 'check.LawS1965ANoConditions': WHATEVER THE INPUT: true; the input reads as it did. -/
def lawS1965ANoConditionsSpec : ChangeSpec := { name := "lawS1965ANoConditions", fn := fun _ => fun
  | [d] => { results := [.lit (.bool true)], args := [d] }
  | _ => none }
def lawS1965ANoConditionsRow : OpenClaim := { program := "ybulkanrc", sum := "ce927c2667ca4890c761da1500fc8aff05bcb22442d6be40d404401df1f86a28", func := "example.com/crier/crier/check.LawS1965ANoConditions", spec := "lawS1965ANoConditions", unfollowed := true, recurses := true, apart := false }
def LawS1965ANoConditionsSaid : Prop := lawS1965ANoConditionsRow.holds Yba.pinned (OpenSpec.ofChange lawS1965ANoConditionsSpec)

/-- ITS FALSE NEIGHBOUR: 'it returns false'. Refute it at one input. -/
def lawS1965ANoConditionsWrong : ChangeSpec := { name := "lawS1965ANoConditions", fn := fun _ => fun
  | [d] => { results := [.lit (.bool false)], args := [d] }
  | _ => none }
def LawS1965ANoConditionsWrongFalsely : Prop := lawS1965ANoConditionsRow.holds Yba.pinned (OpenSpec.ofChange lawS1965ANoConditionsWrong)

end Rows
end Go.Proofs.Ybulkanrc
