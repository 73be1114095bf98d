/-
  No cell of these rows narrows 'for every input' (looked for: loops, veiled, ifaces, maps, wideKeys, modest, calm, conditions, laid).
  DERIVED. THE GIVEN ROWS OF THIS SEAT. 2 by the template 'for every input the law returns true; each argument reads behind the call as it read before'; 0 by the template 'total and deterministic' (their statements: YbulkanqaTotals.lean).
  GIVEN WITH THE SEED: the statements are not yours to turn. If you find one false, say at which input.
  Laid BY PROGRAM, IN A SANDBOX (cutbox-rows.mjs): the forced cells as the released guide's own fill.sh prints them over the translation 2dd71e2c7cfcc8e5… (all of the seat's roots in one cut). By AI agents, Wed Nov 11 2026. No macro, syntax, notation, axiom, sorry.
-/
import Derived.Test.YbulkanqaChecked
import GoSem.Claim
import GoSem.ClaimJoined
import GoSem.ClaimMapViews
import Derived.JoinedTies
import Derived.KernelRfl
namespace Go.Proofs.Ybulkanqa
/- THE CELL 'sum', in the pinned program and in every row, IS THE sha256 OF THE DUMP (.gsa) THAT YbulkanqaProg.lean LOADS. Nothing in Lean hashes anything: it is a label: what it is worth is what the hold of that sum in a sandbox is worth. -/
noncomputable def Yba.pinned : Pinned := { name := "ybulkanqa", sum := "2dd71e2c7cfcc8e5b346fa8b7a69f4d1982506890f2e2715f3bf58711ff8edfc", checked := Yba.checked }
namespace Rows
def none {H : Type} : Left H := { results := [], args := [] }

/-- 'ascii.LawS1963ABuilt': WHATEVER THE INPUT: true; the input reads as it did. -/
def lawS1963ABuiltSpec : ChangeSpec := { name := "lawS1963ABuilt", fn := fun _ => fun
  | [d1, d2, d3, d4, d5] => { results := [.lit (.bool true)], args := [d1, d2, d3, d4, d5] }
  | _ => none }
def lawS1963ABuiltRow : OpenClaim := { program := "ybulkanqa", sum := "2dd71e2c7cfcc8e5b346fa8b7a69f4d1982506890f2e2715f3bf58711ff8edfc", func := "example.com/trunkfile/trunkfile/pkg/ascii.LawS1963ABuilt", spec := "lawS1963ABuilt", apart := false }
def LawS1963ABuiltSaid : Prop := lawS1963ABuiltRow.holds Yba.pinned (OpenSpec.ofChange lawS1963ABuiltSpec)

/-- ITS FALSE NEIGHBOUR: 'it returns false'. Refute it at one input. -/
def lawS1963ABuiltWrong : ChangeSpec := { name := "lawS1963ABuilt", fn := fun _ => fun
  | [d1, d2, d3, d4, d5] => { results := [.lit (.bool false)], args := [d1, d2, d3, d4, d5] }
  | _ => none }
def LawS1963ABuiltWrongFalsely : Prop := lawS1963ABuiltRow.holds Yba.pinned (OpenSpec.ofChange lawS1963ABuiltWrong)

/-- 'ascii.LawS1963ARaw': WHATEVER THE INPUT: true; the input reads as it did. -/
def lawS1963ARawSpec : ChangeSpec := { name := "lawS1963ARaw", fn := fun _ => fun
  | [d1, d2] => { results := [.lit (.bool true)], args := [d1, d2] }
  | _ => none }
def lawS1963ARawRow : OpenClaim := { program := "ybulkanqa", sum := "2dd71e2c7cfcc8e5b346fa8b7a69f4d1982506890f2e2715f3bf58711ff8edfc", func := "example.com/trunkfile/trunkfile/pkg/ascii.LawS1963ARaw", spec := "lawS1963ARaw", apart := false }
def LawS1963ARawSaid : Prop := lawS1963ARawRow.holds Yba.pinned (OpenSpec.ofChange lawS1963ARawSpec)

/-- ITS FALSE NEIGHBOUR: 'it returns false'. Refute it at one input. -/
def lawS1963ARawWrong : ChangeSpec := { name := "lawS1963ARaw", fn := fun _ => fun
  | [d1, d2] => { results := [.lit (.bool false)], args := [d1, d2] }
  | _ => none }
def LawS1963ARawWrongFalsely : Prop := lawS1963ARawRow.holds Yba.pinned (OpenSpec.ofChange lawS1963ARawWrong)

end Rows
end Go.Proofs.Ybulkanqa
