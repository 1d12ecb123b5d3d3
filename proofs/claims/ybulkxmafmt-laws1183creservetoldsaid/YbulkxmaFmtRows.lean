/-
  No cell of these rows narrows 'for every input' (looked for: loops, veiled, ifaces, maps, wideKeys, modest, calm, conditions, laid).
  DERIVED. THE GIVEN ROWS OF THIS SEAT. 2 by the template 'for every input the law returns true; each argument reads behind the call as it read before'; 0 by the template 'total and deterministic' (their statements: YbulkxmaFmtTotals.lean).
  GIVEN WITH THE SEED: the statements are not yours to turn. If you find one false, say at which input.
  Laid BY PROGRAM, IN A SANDBOX (cutbox-rows.mjs): the forced cells as the released guide's own fill.sh prints them over the translation 7f012aeb33e3fd18… (all of the seat's roots in one cut). By AI agents, Wed Nov 11 2026. No macro, syntax, notation, axiom, sorry.
-/
import Derived.Test.YbulkxmaFmtChecked
import GoSem.Claim
import GoSem.ClaimJoined
import GoSem.ClaimMapViews
import Derived.JoinedTies
import Derived.KernelRfl
namespace Go.Proofs.YbulkxmaFmt
/- THE CELL 'sum', in the pinned program and in every row, IS THE sha256 OF THE DUMP (.gsa) THAT YbulkxmaFmtProg.lean LOADS. Nothing in Lean hashes anything: it is a label: what it is worth is what the hold of that sum in a sandbox is worth. -/
noncomputable def Ybaf.pinned : Pinned := { name := "ybulkxmafmt", sum := "7f012aeb33e3fd18988f817021a0eaef6ee3de12fb2cb83df5bade0978871b38", checked := Ybaf.checked }
namespace Rows
def none {H : Type} : Left H := { results := [], args := [] }

/-- 'proxyconfig.LawS1183CNilReserve': WHATEVER THE INPUT: true; the input reads as it did. -/
def lawS1183CNilReserveSpec : ChangeSpec := { name := "lawS1183CNilReserve", fn := fun _ => fun
  | [d1, d2, d3, d4, d5] => { results := [.lit (.bool true)], args := [d1, d2, d3, d4, d5] }
  | _ => none }
def lawS1183CNilReserveRow : OpenClaim := { program := "ybulkxmafmt", sum := "7f012aeb33e3fd18988f817021a0eaef6ee3de12fb2cb83df5bade0978871b38", func := "example.com/relaywire/relaywire/internal/proxyconfig.LawS1183CNilReserve", spec := "lawS1183CNilReserve", stops := ["fmt.errorf"], inPlace := ["sync/atomic.StorePointer", "sync/atomic.LoadPointer", "internal/bytealg.abigen_runtime_cmpstring", "fmt.errorf"], unfollowed := true, recurses := true, apart := false }
/-- NO THEOREM (fmt's text is open here; it may be false): for the released tool's asking of the row's closed facts alone. THE STATEMENT IS 'LawS1183CNilReserveToldSaid' (YbulkxmaFmtCards.lean). -/
def LawS1183CNilReserveFormAsk : Prop := lawS1183CNilReserveRow.holds Ybaf.pinned (OpenSpec.ofChange lawS1183CNilReserveSpec)

/-- ITS FALSE NEIGHBOUR: 'it returns false'. Refute it at one input. -/
def lawS1183CNilReserveWrong : ChangeSpec := { name := "lawS1183CNilReserve", fn := fun _ => fun
  | [d1, d2, d3, d4, d5] => { results := [.lit (.bool false)], args := [d1, d2, d3, d4, d5] }
  | _ => none }
def LawS1183CNilReserveWrongFormAsk : Prop := lawS1183CNilReserveRow.holds Ybaf.pinned (OpenSpec.ofChange lawS1183CNilReserveWrong)

/-- 'proxyconfig.LawS1183CReserve': WHATEVER THE INPUT: true; the input reads as it did. -/
def lawS1183CReserveSpec : ChangeSpec := { name := "lawS1183CReserve", fn := fun _ => fun
  | [d1, d2, d3, d4, d5] => { results := [.lit (.bool true)], args := [d1, d2, d3, d4, d5] }
  | _ => none }
def lawS1183CReserveRow : OpenClaim := { program := "ybulkxmafmt", sum := "7f012aeb33e3fd18988f817021a0eaef6ee3de12fb2cb83df5bade0978871b38", func := "example.com/relaywire/relaywire/internal/proxyconfig.LawS1183CReserve", spec := "lawS1183CReserve", stops := ["fmt.errorf"], inPlace := ["sync/atomic.StorePointer", "sync/atomic.LoadPointer", "internal/bytealg.abigen_runtime_cmpstring", "fmt.errorf"], unfollowed := true, recurses := true, apart := false }
/-- NO THEOREM (fmt's text is open here; it may be false): for the released tool's asking of the row's closed facts alone. THE STATEMENT IS 'LawS1183CReserveToldSaid' (YbulkxmaFmtCards.lean). -/
def LawS1183CReserveFormAsk : Prop := lawS1183CReserveRow.holds Ybaf.pinned (OpenSpec.ofChange lawS1183CReserveSpec)

/-- ITS FALSE NEIGHBOUR: 'it returns false'. Refute it at one input. -/
def lawS1183CReserveWrong : ChangeSpec := { name := "lawS1183CReserve", fn := fun _ => fun
  | [d1, d2, d3, d4, d5] => { results := [.lit (.bool false)], args := [d1, d2, d3, d4, d5] }
  | _ => none }
def LawS1183CReserveWrongFormAsk : Prop := lawS1183CReserveRow.holds Ybaf.pinned (OpenSpec.ofChange lawS1183CReserveWrong)

end Rows
end Go.Proofs.YbulkxmaFmt
