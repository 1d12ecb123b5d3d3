/-
  DERIVED. GIVEN WITH THE SEED: THE CARDS: each row of YbulkxmaFmtRows.lean that lists a variable, with what it lists TIED to the program's text (the seventh form; the later family's looks); each row that meets fmt, with fmt's text TOLD by the authors' own Lean function (tested against real Go, not proved from fmt's source: count such statements apart). THE CARD IS WHAT COUNTS. Prove the row's statement (the work); the ties are given (YbulkxmaFmtTie.lean); close each card by the builder's one call (the guide's Derived/Test/ToyasCard.lean, 'card_holds'). Laid BY PROGRAM, IN A SANDBOX (cutbox-door.mjs). By AI agents, Wed Nov 11 2026. No macro, syntax, notation, axiom, sorry.
-/
import Derived.Test.YbulkxmaFmtRows
import GoSem.ClaimSeven
namespace Go.Proofs.YbulkxmaFmt
namespace Rows

/-- THE TOLD CARD OF 'proxyconfig.LawS1183CNilReserve'. -/
def lawS1183CNilReserveCard : Claim7 := { stood := { row := lawS1183CNilReserveRow, standIns := [], harness := (true, "1433bef155a9fcb287bc8eeeb610751e7678400584b3dc815a6b2bfe565c902f"), looks := true }, told := true, goes := false }
def LawS1183CNilReserveToldSaid : Prop := Claim7.holds Ybaf.pinned (.plain (OpenSpec.ofChange lawS1183CNilReserveSpec)) lawS1183CNilReserveCard
/-- ITS FALSE NEIGHBOUR. Refute it at one input. -/
def LawS1183CNilReserveToldWrongFalsely : Prop := Claim7.holds Ybaf.pinned (.plain (OpenSpec.ofChange lawS1183CNilReserveWrong)) lawS1183CNilReserveCard

/-- THE TOLD CARD OF 'proxyconfig.LawS1183CReserve'. -/
def lawS1183CReserveCard : Claim7 := { stood := { row := lawS1183CReserveRow, standIns := [], harness := (true, "1433bef155a9fcb287bc8eeeb610751e7678400584b3dc815a6b2bfe565c902f"), looks := true }, told := true, goes := false }
def LawS1183CReserveToldSaid : Prop := Claim7.holds Ybaf.pinned (.plain (OpenSpec.ofChange lawS1183CReserveSpec)) lawS1183CReserveCard
/-- ITS FALSE NEIGHBOUR. Refute it at one input. -/
def LawS1183CReserveToldWrongFalsely : Prop := Claim7.holds Ybaf.pinned (.plain (OpenSpec.ofChange lawS1183CReserveWrong)) lawS1183CReserveCard
end Rows
end Go.Proofs.YbulkxmaFmt
