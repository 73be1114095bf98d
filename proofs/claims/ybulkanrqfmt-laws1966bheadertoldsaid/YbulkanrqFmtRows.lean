/-
  NARROWER THAN 'FOR EVERY INPUT', by the rows' own cells (each row's printed sentence says how): LawS1966BShort: ifaces, laid · LawS1966BHeader: ifaces, laid · LawS1966CWord: laid.
  DERIVED. THE GIVEN ROWS OF THIS SEAT. 3 by the template 'for every input the law returns true; each argument reads behind the call as it read before'; 0 by the template 'total and deterministic' (their statements: YbulkanrqFmtTotals.lean).
  GIVEN WITH THE SEED: the statements are not yours to turn. If you find one false, say at which input.
  Laid BY PROGRAM, IN A SANDBOX (cutbox-rows.mjs): the forced cells as the released guide's own fill.sh prints them over the translation a8ee3c56d3f249c3… (all of the seat's roots in one cut). By AI agents, Wed Nov 11 2026. No macro, syntax, notation, axiom, sorry.
-/
import Derived.Test.YbulkanrqFmtChecked
import GoSem.Claim
import GoSem.ClaimJoined
import GoSem.ClaimMapViews
import Derived.JoinedTies
import Derived.KernelRfl
namespace Go.Proofs.YbulkanrqFmt
/- THE CELL 'sum', in the pinned program and in every row, IS THE sha256 OF THE DUMP (.gsa) THAT YbulkanrqFmtProg.lean LOADS. Nothing in Lean hashes anything: it is a label: what it is worth is what the hold of that sum in a sandbox is worth. -/
noncomputable def Ybaf.pinned : Pinned := { name := "ybulkanrqfmt", sum := "a8ee3c56d3f249c3cec66527d84bc6e5b7f2aec961af143baf04a619d7470421", checked := Ybaf.checked }
namespace Rows
def none {H : Type} : Left H := { results := [], args := [] }

/- WHAT THE LISTED PACKAGE-LEVEL VARIABLES READ AS WHEN THE CALL BEGINS. Each datum BY PROGRAM (the guide's laid-datum.mjs) off the statement by which the dump's own 'gosem.cut.vars' lays the variable. In a bare row this is a premise. The card (YbulkanrqFmtCards.lean) ties it to the program's text. -/
def laid_example_com_sealwire_sealwire_internal_wire_errShort {H : Type} : DataW H := .iface "*errors.errorString" (.ptr (.agg [.lit (.string [101, 110, 100, 115, 32, 101, 97, 114, 108, 121])]))
def laid_example_com_sealwire_sealwire_internal_wire_ErrMalformed {H : Type} : DataW H := .iface "*errors.errorString" (.ptr (.agg [.lit (.string [109, 97, 108, 102, 111, 114, 109, 101, 100, 32, 109, 101, 115, 115, 97, 103, 101])]))
def laid_math_bits_deBruijn32tab {H : Type} : DataW H := .agg [.lit (.int .u8 0), .lit (.int .u8 1), .lit (.int .u8 28), .lit (.int .u8 2), .lit (.int .u8 29), .lit (.int .u8 14), .lit (.int .u8 24), .lit (.int .u8 3), .lit (.int .u8 30), .lit (.int .u8 22), .lit (.int .u8 20), .lit (.int .u8 15), .lit (.int .u8 25), .lit (.int .u8 17), .lit (.int .u8 4), .lit (.int .u8 8), .lit (.int .u8 31), .lit (.int .u8 27), .lit (.int .u8 13), .lit (.int .u8 23), .lit (.int .u8 21), .lit (.int .u8 19), .lit (.int .u8 16), .lit (.int .u8 7), .lit (.int .u8 26), .lit (.int .u8 12), .lit (.int .u8 18), .lit (.int .u8 6), .lit (.int .u8 11), .lit (.int .u8 5), .lit (.int .u8 10), .lit (.int .u8 9)]
def laid_math_bits_deBruijn64tab {H : Type} : DataW H := .agg [.lit (.int .u8 0), .lit (.int .u8 1), .lit (.int .u8 56), .lit (.int .u8 2), .lit (.int .u8 57), .lit (.int .u8 49), .lit (.int .u8 28), .lit (.int .u8 3), .lit (.int .u8 61), .lit (.int .u8 58), .lit (.int .u8 42), .lit (.int .u8 50), .lit (.int .u8 38), .lit (.int .u8 29), .lit (.int .u8 17), .lit (.int .u8 4), .lit (.int .u8 62), .lit (.int .u8 47), .lit (.int .u8 59), .lit (.int .u8 36), .lit (.int .u8 45), .lit (.int .u8 43), .lit (.int .u8 51), .lit (.int .u8 22), .lit (.int .u8 53), .lit (.int .u8 39), .lit (.int .u8 33), .lit (.int .u8 30), .lit (.int .u8 24), .lit (.int .u8 18), .lit (.int .u8 12), .lit (.int .u8 5), .lit (.int .u8 63), .lit (.int .u8 55), .lit (.int .u8 48), .lit (.int .u8 27), .lit (.int .u8 60), .lit (.int .u8 41), .lit (.int .u8 37), .lit (.int .u8 16), .lit (.int .u8 46), .lit (.int .u8 35), .lit (.int .u8 44), .lit (.int .u8 21), .lit (.int .u8 52), .lit (.int .u8 32), .lit (.int .u8 23), .lit (.int .u8 11), .lit (.int .u8 54), .lit (.int .u8 26), .lit (.int .u8 40), .lit (.int .u8 15), .lit (.int .u8 34), .lit (.int .u8 20), .lit (.int .u8 31), .lit (.int .u8 10), .lit (.int .u8 25), .lit (.int .u8 14), .lit (.int .u8 19), .lit (.int .u8 9), .lit (.int .u8 13), .lit (.int .u8 8), .lit (.int .u8 7), .lit (.int .u8 6)]
def laid_internal_strconv_uint64pow10 {H : Type} : DataW H := .agg [.lit (.int .u64 1), .lit (.int .u64 10), .lit (.int .u64 100), .lit (.int .u64 1000), .lit (.int .u64 10000), .lit (.int .u64 100000), .lit (.int .u64 1000000), .lit (.int .u64 10000000), .lit (.int .u64 100000000), .lit (.int .u64 1000000000), .lit (.int .u64 10000000000), .lit (.int .u64 100000000000), .lit (.int .u64 1000000000000), .lit (.int .u64 10000000000000), .lit (.int .u64 100000000000000), .lit (.int .u64 1000000000000000), .lit (.int .u64 10000000000000000), .lit (.int .u64 100000000000000000), .lit (.int .u64 1000000000000000000), .lit (.int .u64 10000000000000000000)]

/-- 'wire.LawS1966BShort': WHATEVER THE INPUT: true; the input reads as it did. -/
def lawS1966BShortSpec : ChangeSpec := { name := "lawS1966BShort", vars := ["example.com/sealwire/sealwire/internal/wire.ErrMalformed", "example.com/sealwire/sealwire/internal/wire.errShort"], fn := fun _ => fun
  | [d, g1, g2] => { results := [.lit (.bool true)], args := [d], vars := [g1, g2] }
  | _ => none }
def lawS1966BShortRow : OpenClaim := { program := "ybulkanrqfmt", sum := "a8ee3c56d3f249c3cec66527d84bc6e5b7f2aec961af143baf04a619d7470421", func := "example.com/sealwire/sealwire/internal/wire.LawS1966BShort", spec := "lawS1966BShort", stops := ["fmt.errorf, its operands' methods called"], inPlace := ["fmt.errorf", "internal/reflectlite.TypeOf"], unfollowed := true, recurses := true, named := ["example.com/sealwire/sealwire/internal/wire.ErrMalformed", "encoding/binary.BigEndian", "example.com/sealwire/sealwire/internal/wire.errShort"], ifaces := true, apart := false, laid := [("example.com/sealwire/sealwire/internal/wire.errShort", laid_example_com_sealwire_sealwire_internal_wire_errShort), ("example.com/sealwire/sealwire/internal/wire.ErrMalformed", laid_example_com_sealwire_sealwire_internal_wire_ErrMalformed)] }
/-- NO THEOREM (fmt's text is open here; it may be false): for the released tool's asking of the row's closed facts alone. THE STATEMENT IS 'LawS1966BShortToldSaid' (YbulkanrqFmtCards.lean). -/
def LawS1966BShortFormAsk : Prop := lawS1966BShortRow.holds Ybaf.pinned (OpenSpec.ofChange lawS1966BShortSpec)

/-- ITS FALSE NEIGHBOUR: 'it returns false'. Refute it at one input. -/
def lawS1966BShortWrong : ChangeSpec := { name := "lawS1966BShort", vars := ["example.com/sealwire/sealwire/internal/wire.ErrMalformed", "example.com/sealwire/sealwire/internal/wire.errShort"], fn := fun _ => fun
  | [d, g1, g2] => { results := [.lit (.bool false)], args := [d], vars := [g1, g2] }
  | _ => none }
def LawS1966BShortWrongFormAsk : Prop := lawS1966BShortRow.holds Ybaf.pinned (OpenSpec.ofChange lawS1966BShortWrong)

/-- 'wire.LawS1966BHeader': WHATEVER THE INPUT: true; the input reads as it did. -/
def lawS1966BHeaderSpec : ChangeSpec := { name := "lawS1966BHeader", vars := ["example.com/sealwire/sealwire/internal/wire.errShort", "example.com/sealwire/sealwire/internal/wire.ErrMalformed"], fn := fun _ => fun
  | [d1, d2, g1, g2] => { results := [.lit (.bool true)], args := [d1, d2], vars := [g1, g2] }
  | _ => none }
def lawS1966BHeaderRow : OpenClaim := { program := "ybulkanrqfmt", sum := "a8ee3c56d3f249c3cec66527d84bc6e5b7f2aec961af143baf04a619d7470421", func := "example.com/sealwire/sealwire/internal/wire.LawS1966BHeader", spec := "lawS1966BHeader", stops := ["fmt.errorf, its operands' methods called"], inPlace := ["fmt.errorf"], unfollowed := true, recurses := true, named := ["encoding/binary.BigEndian", "example.com/sealwire/sealwire/internal/wire.errShort", "example.com/sealwire/sealwire/internal/wire.ErrMalformed"], ifaces := true, apart := false, laid := [("example.com/sealwire/sealwire/internal/wire.errShort", laid_example_com_sealwire_sealwire_internal_wire_errShort), ("example.com/sealwire/sealwire/internal/wire.ErrMalformed", laid_example_com_sealwire_sealwire_internal_wire_ErrMalformed)] }
/-- NO THEOREM (fmt's text is open here; it may be false): for the released tool's asking of the row's closed facts alone. THE STATEMENT IS 'LawS1966BHeaderToldSaid' (YbulkanrqFmtCards.lean). -/
def LawS1966BHeaderFormAsk : Prop := lawS1966BHeaderRow.holds Ybaf.pinned (OpenSpec.ofChange lawS1966BHeaderSpec)

/-- ITS FALSE NEIGHBOUR: 'it returns false'. Refute it at one input. -/
def lawS1966BHeaderWrong : ChangeSpec := { name := "lawS1966BHeader", vars := ["example.com/sealwire/sealwire/internal/wire.errShort", "example.com/sealwire/sealwire/internal/wire.ErrMalformed"], fn := fun _ => fun
  | [d1, d2, g1, g2] => { results := [.lit (.bool false)], args := [d1, d2], vars := [g1, g2] }
  | _ => none }
def LawS1966BHeaderWrongFormAsk : Prop := lawS1966BHeaderRow.holds Ybaf.pinned (OpenSpec.ofChange lawS1966BHeaderWrong)

/-- 'wire.LawS1966CWord': WHATEVER THE INPUT: true; the input reads as it did. -/
def lawS1966CWordSpec : ChangeSpec := { name := "lawS1966CWord", fn := fun _ => fun
  | [d1, d2, d3, d4] => { results := [.lit (.bool true)], args := [d1, d2, d3, d4] }
  | _ => none }
def lawS1966CWordRow : OpenClaim := { program := "ybulkanrqfmt", sum := "a8ee3c56d3f249c3cec66527d84bc6e5b7f2aec961af143baf04a619d7470421", func := "example.com/sealwire/sealwire/internal/wire.LawS1966CWord", spec := "lawS1966CWord", stops := ["fmt.errorf, its operands' methods called"], inPlace := ["fmt.errorf"], unfollowed := true, recurses := true, named := ["internal/strconv.uint64pow10", "math/bits.deBruijn32tab", "math/bits.deBruijn64tab"], apart := false, laid := [("math/bits.deBruijn32tab", laid_math_bits_deBruijn32tab), ("math/bits.deBruijn64tab", laid_math_bits_deBruijn64tab), ("internal/strconv.uint64pow10", laid_internal_strconv_uint64pow10)] }
/-- NO THEOREM (fmt's text is open here; it may be false): for the released tool's asking of the row's closed facts alone. THE STATEMENT IS 'LawS1966CWordToldSaid' (YbulkanrqFmtCards.lean). -/
def LawS1966CWordFormAsk : Prop := lawS1966CWordRow.holds Ybaf.pinned (OpenSpec.ofChange lawS1966CWordSpec)

/-- ITS FALSE NEIGHBOUR: 'it returns false'. Refute it at one input. -/
def lawS1966CWordWrong : ChangeSpec := { name := "lawS1966CWord", fn := fun _ => fun
  | [d1, d2, d3, d4] => { results := [.lit (.bool false)], args := [d1, d2, d3, d4] }
  | _ => none }
def LawS1966CWordWrongFormAsk : Prop := lawS1966CWordRow.holds Ybaf.pinned (OpenSpec.ofChange lawS1966CWordWrong)

end Rows
end Go.Proofs.YbulkanrqFmt
