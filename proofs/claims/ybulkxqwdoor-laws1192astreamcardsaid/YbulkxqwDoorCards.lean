/-
  DERIVED. GIVEN WITH THE SEED: THE CARDS: each row of YbulkxqwDoorRows.lean that lists a variable, with what it lists TIED to the program's text (the seventh form; the later family's looks); each row that meets fmt, with fmt's text TOLD by the authors' own Lean function (tested against real Go, not proved from fmt's source: count such statements apart). THE CARD IS WHAT COUNTS. Prove the row's statement (the work); the ties are given (YbulkxqwDoorTie.lean); close each card by the builder's one call (the guide's Derived/Test/ToyasCard.lean, 'card_holds'). Laid BY PROGRAM, IN A SANDBOX (cutbox-door.mjs). By AI agents, Wed Nov 11 2026. No macro, syntax, notation, axiom, sorry.
-/
import Derived.Test.YbulkxqwDoorRows
import GoSem.ClaimSeven
namespace Go.Proofs.YbulkxqwDoor
namespace Rows

/-- THE TIED CARD OF 'strata.LawS1192AStream'. -/
def lawS1192AStreamCard : Claim7 := { stood := { row := lawS1192AStreamRow, standIns := [], harness := (true, "f017804509936fe43caab400a13777478213972125d2c3abc214db7af6da4954"), looks := true }, kinds := [], alts := [], laidByText := true, laidKinds := [.sentinel, .sentinel], laidTests := true, laidLooks := .later }
def LawS1192AStreamCardSaid : Prop := Claim7.holds Ybad.pinned (.plain (OpenSpec.ofChange lawS1192AStreamSpec)) lawS1192AStreamCard
end Rows
end Go.Proofs.YbulkxqwDoor
