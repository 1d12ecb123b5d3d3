/-
  NARROWER THAN 'FOR EVERY INPUT', by the rows' own cells (each row's printed sentence says how): LawS1183AModel: laid · LawS1183ADigits: laid · LawS1183AFormat: laid · LawS1183BLists: ifaces, laid · LawS1183BStops: ifaces, laid.
  DERIVED. THE GIVEN ROWS OF THIS SEAT. 5 by the template 'for every input the law returns true; each argument reads behind the call as it read before'; 0 by the template 'total and deterministic' (their statements: YbulkxmaDoorTotals.lean).
  GIVEN WITH THE SEED: the statements are not yours to turn. If you find one false, say at which input.
  Laid BY PROGRAM, IN A SANDBOX (cutbox-rows.mjs): the forced cells as the released guide's own fill.sh prints them over the translation f2673b0672403bb1… (all of the seat's roots in one cut). By AI agents, Wed Nov 11 2026. No macro, syntax, notation, axiom, sorry.
-/
import Derived.Test.YbulkxmaDoorChecked
import GoSem.Claim
import GoSem.ClaimJoined
import GoSem.ClaimMapViews
import Derived.JoinedTies
import Derived.KernelRfl
namespace Go.Proofs.YbulkxmaDoor
/- THE CELL 'sum', in the pinned program and in every row, IS THE sha256 OF THE DUMP (.gsa) THAT YbulkxmaDoorProg.lean LOADS. Nothing in Lean hashes anything: it is a label: what it is worth is what the hold of that sum in a sandbox is worth. -/
noncomputable def Ybad.pinned : Pinned := { name := "ybulkxmadoor", sum := "f2673b0672403bb1785c98bbdb7732407b5f94b9cc540c8b205d46a93e594eb7", checked := Ybad.checked }
namespace Rows
def none {H : Type} : Left H := { results := [], args := [] }

/- WHAT THE LISTED PACKAGE-LEVEL VARIABLES READ AS WHEN THE CALL BEGINS. Each datum BY PROGRAM (the guide's laid-datum.mjs) off the statement by which the dump's own 'gosem.cut.vars' lays the variable. In a bare row this is a premise. The card (YbulkxmaDoorCards.lean) ties it to the program's text. -/
def laid_math_bits_deBruijn32tab {H : Type} : DataW H := .agg [.lit (.int .u8 0), .lit (.int .u8 1), .lit (.int .u8 28), .lit (.int .u8 2), .lit (.int .u8 29), .lit (.int .u8 14), .lit (.int .u8 24), .lit (.int .u8 3), .lit (.int .u8 30), .lit (.int .u8 22), .lit (.int .u8 20), .lit (.int .u8 15), .lit (.int .u8 25), .lit (.int .u8 17), .lit (.int .u8 4), .lit (.int .u8 8), .lit (.int .u8 31), .lit (.int .u8 27), .lit (.int .u8 13), .lit (.int .u8 23), .lit (.int .u8 21), .lit (.int .u8 19), .lit (.int .u8 16), .lit (.int .u8 7), .lit (.int .u8 26), .lit (.int .u8 12), .lit (.int .u8 18), .lit (.int .u8 6), .lit (.int .u8 11), .lit (.int .u8 5), .lit (.int .u8 10), .lit (.int .u8 9)]
def laid_math_bits_deBruijn64tab {H : Type} : DataW H := .agg [.lit (.int .u8 0), .lit (.int .u8 1), .lit (.int .u8 56), .lit (.int .u8 2), .lit (.int .u8 57), .lit (.int .u8 49), .lit (.int .u8 28), .lit (.int .u8 3), .lit (.int .u8 61), .lit (.int .u8 58), .lit (.int .u8 42), .lit (.int .u8 50), .lit (.int .u8 38), .lit (.int .u8 29), .lit (.int .u8 17), .lit (.int .u8 4), .lit (.int .u8 62), .lit (.int .u8 47), .lit (.int .u8 59), .lit (.int .u8 36), .lit (.int .u8 45), .lit (.int .u8 43), .lit (.int .u8 51), .lit (.int .u8 22), .lit (.int .u8 53), .lit (.int .u8 39), .lit (.int .u8 33), .lit (.int .u8 30), .lit (.int .u8 24), .lit (.int .u8 18), .lit (.int .u8 12), .lit (.int .u8 5), .lit (.int .u8 63), .lit (.int .u8 55), .lit (.int .u8 48), .lit (.int .u8 27), .lit (.int .u8 60), .lit (.int .u8 41), .lit (.int .u8 37), .lit (.int .u8 16), .lit (.int .u8 46), .lit (.int .u8 35), .lit (.int .u8 44), .lit (.int .u8 21), .lit (.int .u8 52), .lit (.int .u8 32), .lit (.int .u8 23), .lit (.int .u8 11), .lit (.int .u8 54), .lit (.int .u8 26), .lit (.int .u8 40), .lit (.int .u8 15), .lit (.int .u8 34), .lit (.int .u8 20), .lit (.int .u8 31), .lit (.int .u8 10), .lit (.int .u8 25), .lit (.int .u8 14), .lit (.int .u8 19), .lit (.int .u8 9), .lit (.int .u8 13), .lit (.int .u8 8), .lit (.int .u8 7), .lit (.int .u8 6)]
def laid_internal_strconv_uint64pow10 {H : Type} : DataW H := .agg [.lit (.int .u64 1), .lit (.int .u64 10), .lit (.int .u64 100), .lit (.int .u64 1000), .lit (.int .u64 10000), .lit (.int .u64 100000), .lit (.int .u64 1000000), .lit (.int .u64 10000000), .lit (.int .u64 100000000), .lit (.int .u64 1000000000), .lit (.int .u64 10000000000), .lit (.int .u64 100000000000), .lit (.int .u64 1000000000000), .lit (.int .u64 10000000000000), .lit (.int .u64 100000000000000), .lit (.int .u64 1000000000000000), .lit (.int .u64 10000000000000000), .lit (.int .u64 100000000000000000), .lit (.int .u64 1000000000000000000), .lit (.int .u64 10000000000000000000)]
def laid_strconv_ErrRange {H : Type} : DataW H := .iface "*errors.errorString" (.ptr (.agg [.lit (.string [118, 97, 108, 117, 101, 32, 111, 117, 116, 32, 111, 102, 32, 114, 97, 110, 103, 101])]))
def laid_strconv_ErrSyntax {H : Type} : DataW H := .iface "*errors.errorString" (.ptr (.agg [.lit (.string [105, 110, 118, 97, 108, 105, 100, 32, 115, 121, 110, 116, 97, 120])]))
def laid_example_com_relaywire_relaywire_internal_protocol_errNotObject {H : Type} : DataW H := .iface "*errors.errorString" (.ptr (.agg [.lit (.string [110, 111, 116, 32, 97, 32, 74, 83, 79, 78, 32, 111, 98, 106, 101, 99, 116])]))

/-- 'agent.LawS1183AModel': WHATEVER THE INPUT: true; the input reads as it did. -/
def lawS1183AModelSpec : ChangeSpec := { name := "lawS1183AModel", fn := fun _ => fun
  | [d1, d2] => { results := [.lit (.bool true)], args := [d1, d2] }
  | _ => none }
def lawS1183AModelRow : OpenClaim := { program := "ybulkxmadoor", sum := "f2673b0672403bb1785c98bbdb7732407b5f94b9cc540c8b205d46a93e594eb7", func := "example.com/relaywire/relaywire/internal/agent.LawS1183AModel", spec := "lawS1183AModel", recurses := true, named := ["strconv.ErrSyntax", "strconv.ErrRange", "internal/strconv.uint64pow10", "math/bits.deBruijn32tab", "math/bits.deBruijn64tab"], apart := false, laid := [("math/bits.deBruijn32tab", laid_math_bits_deBruijn32tab), ("math/bits.deBruijn64tab", laid_math_bits_deBruijn64tab), ("internal/strconv.uint64pow10", laid_internal_strconv_uint64pow10), ("strconv.ErrRange", laid_strconv_ErrRange), ("strconv.ErrSyntax", laid_strconv_ErrSyntax)] }
def LawS1183AModelSaid : Prop := lawS1183AModelRow.holds Ybad.pinned (OpenSpec.ofChange lawS1183AModelSpec)

/-- ITS FALSE NEIGHBOUR: 'it returns false'. Refute it at one input. -/
def lawS1183AModelWrong : ChangeSpec := { name := "lawS1183AModel", fn := fun _ => fun
  | [d1, d2] => { results := [.lit (.bool false)], args := [d1, d2] }
  | _ => none }
def LawS1183AModelWrongFalsely : Prop := lawS1183AModelRow.holds Ybad.pinned (OpenSpec.ofChange lawS1183AModelWrong)

/-- 'agent.LawS1183ADigits': WHATEVER THE INPUT: true; the input reads as it did. -/
def lawS1183ADigitsSpec : ChangeSpec := { name := "lawS1183ADigits", fn := fun _ => fun
  | [d1, d2, d3, d4] => { results := [.lit (.bool true)], args := [d1, d2, d3, d4] }
  | _ => none }
def lawS1183ADigitsRow : OpenClaim := { program := "ybulkxmadoor", sum := "f2673b0672403bb1785c98bbdb7732407b5f94b9cc540c8b205d46a93e594eb7", func := "example.com/relaywire/relaywire/internal/agent.LawS1183ADigits", spec := "lawS1183ADigits", recurses := true, named := ["strconv.ErrSyntax", "strconv.ErrRange", "internal/strconv.uint64pow10", "math/bits.deBruijn32tab", "math/bits.deBruijn64tab"], apart := false, laid := [("math/bits.deBruijn32tab", laid_math_bits_deBruijn32tab), ("math/bits.deBruijn64tab", laid_math_bits_deBruijn64tab), ("internal/strconv.uint64pow10", laid_internal_strconv_uint64pow10), ("strconv.ErrRange", laid_strconv_ErrRange), ("strconv.ErrSyntax", laid_strconv_ErrSyntax)] }
def LawS1183ADigitsSaid : Prop := lawS1183ADigitsRow.holds Ybad.pinned (OpenSpec.ofChange lawS1183ADigitsSpec)

/-- ITS FALSE NEIGHBOUR: 'it returns false'. Refute it at one input. -/
def lawS1183ADigitsWrong : ChangeSpec := { name := "lawS1183ADigits", fn := fun _ => fun
  | [d1, d2, d3, d4] => { results := [.lit (.bool false)], args := [d1, d2, d3, d4] }
  | _ => none }
def LawS1183ADigitsWrongFalsely : Prop := lawS1183ADigitsRow.holds Ybad.pinned (OpenSpec.ofChange lawS1183ADigitsWrong)

/-- 'agent.LawS1183AFormat': WHATEVER THE INPUT: true; the input reads as it did. -/
def lawS1183AFormatSpec : ChangeSpec := { name := "lawS1183AFormat", fn := fun _ => fun
  | [d1, d2] => { results := [.lit (.bool true)], args := [d1, d2] }
  | _ => none }
def lawS1183AFormatRow : OpenClaim := { program := "ybulkxmadoor", sum := "f2673b0672403bb1785c98bbdb7732407b5f94b9cc540c8b205d46a93e594eb7", func := "example.com/relaywire/relaywire/internal/agent.LawS1183AFormat", spec := "lawS1183AFormat", recurses := true, named := ["internal/strconv.uint64pow10", "math/bits.deBruijn32tab", "math/bits.deBruijn64tab", "strconv.ErrSyntax", "strconv.ErrRange"], apart := false, laid := [("math/bits.deBruijn32tab", laid_math_bits_deBruijn32tab), ("math/bits.deBruijn64tab", laid_math_bits_deBruijn64tab), ("internal/strconv.uint64pow10", laid_internal_strconv_uint64pow10), ("strconv.ErrRange", laid_strconv_ErrRange), ("strconv.ErrSyntax", laid_strconv_ErrSyntax)] }
def LawS1183AFormatSaid : Prop := lawS1183AFormatRow.holds Ybad.pinned (OpenSpec.ofChange lawS1183AFormatSpec)

/-- ITS FALSE NEIGHBOUR: 'it returns false'. Refute it at one input. -/
def lawS1183AFormatWrong : ChangeSpec := { name := "lawS1183AFormat", fn := fun _ => fun
  | [d1, d2] => { results := [.lit (.bool false)], args := [d1, d2] }
  | _ => none }
def LawS1183AFormatWrongFalsely : Prop := lawS1183AFormatRow.holds Ybad.pinned (OpenSpec.ofChange lawS1183AFormatWrong)

/-- 'protocol.LawS1183BLists': WHATEVER THE INPUT: true; the input reads as it did. -/
def lawS1183BListsSpec : ChangeSpec := { name := "lawS1183BLists", vars := ["example.com/relaywire/relaywire/internal/protocol.errNotObject"], fn := fun _ => fun
  | [d1, d2, d3, g1] => { results := [.lit (.bool true)], args := [d1, d2, d3], vars := [g1] }
  | _ => none }
def lawS1183BListsRow : OpenClaim := { program := "ybulkxmadoor", sum := "f2673b0672403bb1785c98bbdb7732407b5f94b9cc540c8b205d46a93e594eb7", func := "example.com/relaywire/relaywire/internal/protocol.LawS1183BLists", spec := "lawS1183BLists", inPlace := ["internal/bytealg.IndexByte"], unfollowed := true, recurses := true, named := ["example.com/relaywire/relaywire/internal/protocol.errNotObject"], ifaces := true, apart := false, laid := [("example.com/relaywire/relaywire/internal/protocol.errNotObject", laid_example_com_relaywire_relaywire_internal_protocol_errNotObject)] }
def LawS1183BListsSaid : Prop := lawS1183BListsRow.holds Ybad.pinned (OpenSpec.ofChange lawS1183BListsSpec)

/-- ITS FALSE NEIGHBOUR: 'it returns false'. Refute it at one input. -/
def lawS1183BListsWrong : ChangeSpec := { name := "lawS1183BLists", vars := ["example.com/relaywire/relaywire/internal/protocol.errNotObject"], fn := fun _ => fun
  | [d1, d2, d3, g1] => { results := [.lit (.bool false)], args := [d1, d2, d3], vars := [g1] }
  | _ => none }
def LawS1183BListsWrongFalsely : Prop := lawS1183BListsRow.holds Ybad.pinned (OpenSpec.ofChange lawS1183BListsWrong)

/-- 'protocol.LawS1183BStops': WHATEVER THE INPUT: true; the input reads as it did. -/
def lawS1183BStopsSpec : ChangeSpec := { name := "lawS1183BStops", vars := ["example.com/relaywire/relaywire/internal/protocol.errNotObject"], fn := fun _ => fun
  | [d1, d2, d3, d4, g1] => { results := [.lit (.bool true)], args := [d1, d2, d3, d4], vars := [g1] }
  | _ => none }
def lawS1183BStopsRow : OpenClaim := { program := "ybulkxmadoor", sum := "f2673b0672403bb1785c98bbdb7732407b5f94b9cc540c8b205d46a93e594eb7", func := "example.com/relaywire/relaywire/internal/protocol.LawS1183BStops", spec := "lawS1183BStops", inPlace := ["internal/bytealg.IndexByte"], unfollowed := true, recurses := true, named := ["example.com/relaywire/relaywire/internal/protocol.errNotObject"], ifaces := true, apart := false, laid := [("example.com/relaywire/relaywire/internal/protocol.errNotObject", laid_example_com_relaywire_relaywire_internal_protocol_errNotObject)] }
def LawS1183BStopsSaid : Prop := lawS1183BStopsRow.holds Ybad.pinned (OpenSpec.ofChange lawS1183BStopsSpec)

/-- ITS FALSE NEIGHBOUR: 'it returns false'. Refute it at one input. -/
def lawS1183BStopsWrong : ChangeSpec := { name := "lawS1183BStops", vars := ["example.com/relaywire/relaywire/internal/protocol.errNotObject"], fn := fun _ => fun
  | [d1, d2, d3, d4, g1] => { results := [.lit (.bool false)], args := [d1, d2, d3, d4], vars := [g1] }
  | _ => none }
def LawS1183BStopsWrongFalsely : Prop := lawS1183BStopsRow.holds Ybad.pinned (OpenSpec.ofChange lawS1183BStopsWrong)

end Rows
end Go.Proofs.YbulkxmaDoor
