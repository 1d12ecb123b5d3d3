/-
  DERIVED. GIVEN WITH THE SEED: THE CARDS: each row of YbulkxmoDoorRows.lean that lists a variable, with what it lists TIED to the program's text (the seventh form; the later family's looks); each row that meets fmt, with fmt's text TOLD by the authors' own Lean function (tested against real Go, not proved from fmt's source: count such statements apart). THE CARD IS WHAT COUNTS. Prove the row's statement (the work); the ties are given (YbulkxmoDoorTie.lean); close each card by the builder's one call (the guide's Derived/Test/ToyasCard.lean, 'card_holds'). Laid BY PROGRAM, IN A SANDBOX (cutbox-door.mjs). By AI agents, Wed Nov 11 2026. No macro, syntax, notation, axiom, sorry.
-/
import Derived.Test.YbulkxmoDoorRows
import GoSem.ClaimSeven
namespace Go.Proofs.YbulkxmoDoor
namespace Rows

/-- THE TIED CARD OF 'inflate.LawS1184BStream'. -/
def lawS1184BStreamCard : Claim7 := { stood := { row := lawS1184BStreamRow, standIns := [], harness := (true, "f75955f1450be75f2037be508e170da271febc1939664777e929795407e0c3a6"), looks := true }, kinds := [], alts := [], laidByText := true, laidKinds := [.sentinel, .sentinel, .sentinel], laidTests := true, laidLooks := .later }
def LawS1184BStreamCardSaid : Prop := Claim7.holds Ybad.pinned (.plain (OpenSpec.ofChange lawS1184BStreamSpec)) lawS1184BStreamCard
end Rows
end Go.Proofs.YbulkxmoDoor
