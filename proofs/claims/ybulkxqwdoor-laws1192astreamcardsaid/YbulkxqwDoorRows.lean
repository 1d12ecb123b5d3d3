/-
  NARROWER THAN 'FOR EVERY INPUT', by the rows' own cells (each row's printed sentence says how): LawS1192AStream: laid.
  DERIVED. THE GIVEN ROWS OF THIS SEAT. 1 by the template 'for every input the law returns true; each argument reads behind the call as it read before'; 0 by the template 'total and deterministic' (their statements: YbulkxqwDoorTotals.lean).
  GIVEN WITH THE SEED: the statements are not yours to turn. If you find one false, say at which input.
  Laid BY PROGRAM, IN A SANDBOX (cutbox-rows.mjs): the forced cells as the released guide's own fill.sh prints them over the translation e4a20289147e3900… (all of the seat's roots in one cut). By AI agents, Wed Nov 11 2026. No macro, syntax, notation, axiom, sorry.
-/
import Derived.Test.YbulkxqwDoorChecked
import GoSem.Claim
import GoSem.ClaimJoined
import GoSem.ClaimMapViews
import Derived.JoinedTies
import Derived.KernelRfl
namespace Go.Proofs.YbulkxqwDoor
/- THE CELL 'sum', in the pinned program and in every row, IS THE sha256 OF THE DUMP (.gsa) THAT YbulkxqwDoorProg.lean LOADS. Nothing in Lean hashes anything: it is a label: what it is worth is what the hold of that sum in a sandbox is worth. -/
noncomputable def Ybad.pinned : Pinned := { name := "ybulkxqwdoor", sum := "e4a20289147e39006a9a2fa0d517653ef1ccb8ce6bd5dc1e9755b8b7ada64e00", checked := Ybad.checked }
namespace Rows
def none {H : Type} : Left H := { results := [], args := [] }

/- WHAT THE LISTED PACKAGE-LEVEL VARIABLES READ AS WHEN THE CALL BEGINS. Each datum BY PROGRAM (the guide's laid-datum.mjs) off the statement by which the dump's own 'gosem.cut.vars' lays the variable. In a bare row this is a premise. The card (YbulkxqwDoorCards.lean) ties it to the program's text. -/
def laid_io_EOF {H : Type} : DataW H := .iface "*errors.errorString" (.ptr (.agg [.lit (.string [69, 79, 70])]))
def laid_io_ErrNoProgress {H : Type} : DataW H := .iface "*errors.errorString" (.ptr (.agg [.lit (.string [109, 117, 108, 116, 105, 112, 108, 101, 32, 82, 101, 97, 100, 32, 99, 97, 108, 108, 115, 32, 114, 101, 116, 117, 114, 110, 32, 110, 111, 32, 100, 97, 116, 97, 32, 111, 114, 32, 101, 114, 114, 111, 114])]))

/-- 'strata.LawS1192AStream': WHATEVER THE INPUT: true; the input reads as it did. -/
def lawS1192AStreamSpec : ChangeSpec := { name := "lawS1192AStream", fn := fun _ => fun
  | [d1, d2, d3, d4, d5] => { results := [.lit (.bool true)], args := [d1, d2, d3, d4, d5] }
  | _ => none }
def lawS1192AStreamRow : OpenClaim := { program := "ybulkxqwdoor", sum := "e4a20289147e39006a9a2fa0d517653ef1ccb8ce6bd5dc1e9755b8b7ada64e00", func := "example.com/strata/strata.LawS1192AStream", spec := "lawS1192AStream", unfollowed := true, recurses := true, named := ["io.EOF", "io.ErrNoProgress"], apart := false, laid := [("io.EOF", laid_io_EOF), ("io.ErrNoProgress", laid_io_ErrNoProgress)] }
def LawS1192AStreamSaid : Prop := lawS1192AStreamRow.holds Ybad.pinned (OpenSpec.ofChange lawS1192AStreamSpec)

/-- ITS FALSE NEIGHBOUR: 'it returns false'. Refute it at one input. -/
def lawS1192AStreamWrong : ChangeSpec := { name := "lawS1192AStream", fn := fun _ => fun
  | [d1, d2, d3, d4, d5] => { results := [.lit (.bool false)], args := [d1, d2, d3, d4, d5] }
  | _ => none }
def LawS1192AStreamWrongFalsely : Prop := lawS1192AStreamRow.holds Ybad.pinned (OpenSpec.ofChange lawS1192AStreamWrong)

end Rows
end Go.Proofs.YbulkxqwDoor
