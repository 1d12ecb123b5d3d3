/-
  THE CLOSED FACTS FOR fmt.errorf AT THE TWO FORMATS OF monitoredHost (after the guide's CheckFmt.lean, for this program); fmt.Errorf's walk.
-/
import Derived.Test.YbulkxmaFmtW1
import Derived.Stop.CallBack
import Derived.Stop.IfaceNil
import Derived.Stop.Texts
import Derived.LaidEql
namespace Go.Proofs.YbulkxmaFmt
open Go.RowKit Go.Extern.Stop Go.Stop Go.Extern

@[go_sem] theorem Ybaf.call28 (args : Array Value) (w : World) : (callFunc 28 args).run Ybaf.prog w = ((FmtStop.errorf #[9, 95] #[51] args).run Ybaf.prog w).andThen fun v w' => .ok (.value v) w' :=
  run_callFunc_extern Ybaf.func28 (by kernel_rfl) (by kernel_rfl) (by kernel_rfl) (by kernel_rfl) args w
@[go_sem] theorem Ybaf.guard (name : String) (w : World) : (FmtStop.guard name).run Ybaf.prog w = .ok () w := by kernel_rfl
def fmtNo0 : ByteArray := ⟨#[104, 111, 115, 116, 32, 91, 37, 115, 93, 32, 110, 111, 116, 32, 102, 111, 117, 110, 100]⟩
@[go_sem] theorem Ybaf.fmt0r (w : World) : (FmtDoors.printed ⟨#[104, 111, 115, 116, 32, 91, 37, 115, 93, 32, 110, 111, 116, 32, 102, 111, 117, 110, 100]⟩ 1).run Ybaf.prog w = .ok [(0, 115, false)] w := by kernel_rfl
@[go_sem] theorem Ybaf.fmt0 : FmtStop.printed? ⟨#[104, 111, 115, 116, 32, 91, 37, 115, 93, 32, 110, 111, 116, 32, 102, 111, 117, 110, 100]⟩ 1 = some [(0, 115, false)] := by kernel_rfl
def fmtNo1 : ByteArray := ⟨#[104, 111, 115, 116, 32, 91, 37, 115, 93, 32, 110, 111, 116, 32, 109, 111, 110, 105, 116, 111, 114, 101, 100]⟩
@[go_sem] theorem Ybaf.fmt1r (w : World) : (FmtDoors.printed ⟨#[104, 111, 115, 116, 32, 91, 37, 115, 93, 32, 110, 111, 116, 32, 109, 111, 110, 105, 116, 111, 114, 101, 100]⟩ 1).run Ybaf.prog w = .ok [(0, 115, false)] w := by kernel_rfl
@[go_sem] theorem Ybaf.fmt1 : FmtStop.printed? ⟨#[104, 111, 115, 116, 32, 91, 37, 115, 93, 32, 110, 111, 116, 32, 109, 111, 110, 105, 116, 111, 114, 101, 100]⟩ 1 = some [(0, 115, false)] := by kernel_rfl
def Ybaf.shape9 : List UInt8 := [12, 6, 0, 0, 0, 0, 0, 0, 0, 115, 116, 114, 105, 110, 103]
@[go_sem] theorem Ybaf.op9_115w (name : String) (x : ByteArray) (w : World) : (FmtStop.operand name true 115 false (.iface 9 (.string x))).run Ybaf.prog w = .ok (Ybaf.shape9, FmtStop.pack x.data.toList) w := by kernel_rfl
@[go_sem] theorem Ybaf.ptrErr (w : World) : (FmtStop.ptrTo "errors.errorString").run Ybaf.prog w = .ok 82 w := by kernel_rfl
@[go_sem] theorem Ybaf.elemErr (w : World) : (elemOf 82).run Ybaf.prog w = .ok 84 w := by kernel_rfl

/-- a new error, nothing old turned -/
def NewErr (w : World) (e : Ending) (w' : World) : Prop := ∃ a, e = .returned (.iface 82 (.pointer (some a))) ∧ Below w.heap.size w w'

set_option maxRecDepth 100000 in
theorem errorf0 (F : Interp) (B : Nat) (nm : ByteArray) (w : World) (hF : F.answers w.tape) (hB : w.cell? ⟨B, 0, none⟩ = some (.iface 9 (.string nm))) :
    Calls Ybaf.prog 23 #[.string fmtNo0, .slice (some ⟨B, 0, none⟩) 1 1] w (NewErr w) := by
  have hF' := answers_open hF
  unfold fmtNo0
  go_enter Ybaf.func23, Ybaf.ntmps23
  go_wp2
  go_ret
  exact ⟨_, rfl, ((Below.refl _ _).alloc (Nat.le_refl _) _).drew⟩

set_option maxRecDepth 100000 in
theorem errorf1 (F : Interp) (B : Nat) (nm : ByteArray) (w : World) (hF : F.answers w.tape) (hB : w.cell? ⟨B, 0, none⟩ = some (.iface 9 (.string nm))) :
    Calls Ybaf.prog 23 #[.string fmtNo1, .slice (some ⟨B, 0, none⟩) 1 1] w (NewErr w) := by
  have hF' := answers_open hF
  unfold fmtNo1
  go_enter Ybaf.func23, Ybaf.ntmps23
  go_wp2
  go_ret
  exact ⟨_, rfl, ((Below.refl _ _).alloc (Nat.le_refl _) _).drew⟩

end Go.Proofs.YbulkxmaFmt
