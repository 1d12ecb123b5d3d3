/-
  DERIVED. GIVEN WITH THE SEED: THE CARDS: each row of YbulkxmaDoorRows.lean that lists a variable, with what it lists TIED to the program's text (the seventh form; the later family's looks); each row that meets fmt, with fmt's text TOLD by the authors' own Lean function (tested against real Go, not proved from fmt's source: count such statements apart). THE CARD IS WHAT COUNTS. Prove the row's statement (the work); the ties are given (YbulkxmaDoorTie.lean); close each card by the builder's one call (the guide's Derived/Test/ToyasCard.lean, 'card_holds'). Laid BY PROGRAM, IN A SANDBOX (cutbox-door.mjs). By AI agents, Wed Nov 11 2026. No macro, syntax, notation, axiom, sorry.
-/
import Derived.Test.YbulkxmaDoorRows
import GoSem.ClaimSeven
namespace Go.Proofs.YbulkxmaDoor
namespace Rows

/-- THE TIED CARD OF 'agent.LawS1183AModel'. -/
def lawS1183AModelCard : Claim7 := { stood := { row := lawS1183AModelRow, standIns := [], harness := (true, "618bbee5020e6288f4fb65473e3ae1a42827f2409001340abaea2fcce876979f"), looks := true }, kinds := [], alts := [], laidByText := true, laidKinds := [.data, .data, .data, .sentinel, .sentinel], laidTests := true, laidLooks := .later }
def LawS1183AModelCardSaid : Prop := Claim7.holds Ybad.pinned (.plain (OpenSpec.ofChange lawS1183AModelSpec)) lawS1183AModelCard

/-- THE TIED CARD OF 'agent.LawS1183ADigits'. -/
def lawS1183ADigitsCard : Claim7 := { stood := { row := lawS1183ADigitsRow, standIns := [], harness := (true, "618bbee5020e6288f4fb65473e3ae1a42827f2409001340abaea2fcce876979f"), looks := true }, kinds := [], alts := [], laidByText := true, laidKinds := [.data, .data, .data, .sentinel, .sentinel], laidTests := true, laidLooks := .later }
def LawS1183ADigitsCardSaid : Prop := Claim7.holds Ybad.pinned (.plain (OpenSpec.ofChange lawS1183ADigitsSpec)) lawS1183ADigitsCard

/-- THE TIED CARD OF 'agent.LawS1183AFormat'. -/
def lawS1183AFormatCard : Claim7 := { stood := { row := lawS1183AFormatRow, standIns := [], harness := (true, "618bbee5020e6288f4fb65473e3ae1a42827f2409001340abaea2fcce876979f"), looks := true }, kinds := [], alts := [], laidByText := true, laidKinds := [.data, .data, .data, .sentinel, .sentinel], laidTests := true, laidLooks := .later }
def LawS1183AFormatCardSaid : Prop := Claim7.holds Ybad.pinned (.plain (OpenSpec.ofChange lawS1183AFormatSpec)) lawS1183AFormatCard

/-- THE TIED CARD OF 'protocol.LawS1183BLists'. -/
def lawS1183BListsCard : Claim7 := { stood := { row := lawS1183BListsRow, standIns := [], harness := (true, "618bbee5020e6288f4fb65473e3ae1a42827f2409001340abaea2fcce876979f"), looks := true }, kinds := [], alts := [], laidByText := true, laidKinds := [.sentinel], laidTests := true, laidLooks := .later }
def LawS1183BListsCardSaid : Prop := Claim7.holds Ybad.pinned (.plain (OpenSpec.ofChange lawS1183BListsSpec)) lawS1183BListsCard

/-- THE TIED CARD OF 'protocol.LawS1183BStops'. -/
def lawS1183BStopsCard : Claim7 := { stood := { row := lawS1183BStopsRow, standIns := [], harness := (true, "618bbee5020e6288f4fb65473e3ae1a42827f2409001340abaea2fcce876979f"), looks := true }, kinds := [], alts := [], laidByText := true, laidKinds := [.sentinel], laidTests := true, laidLooks := .later }
def LawS1183BStopsCardSaid : Prop := Claim7.holds Ybad.pinned (.plain (OpenSpec.ofChange lawS1183BStopsSpec)) lawS1183BStopsCard
end Rows
end Go.Proofs.YbulkxmaDoor
