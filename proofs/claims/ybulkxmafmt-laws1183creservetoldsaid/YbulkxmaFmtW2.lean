/-
  THE SMALL READERS: strings.Compare, textOf, checksOf, the closure of monitoredHost; sync/atomic's Load and Store of a pointer.
-/
import Derived.Test.YbulkxmaFmtMem
import Derived.Lib.Bytealg
import Derived.Deep.QuietTactic
import Derived.BigQuiet
namespace Go.Proofs.YbulkxmaFmt
open Go.RowKit

@[go_sem] theorem call30 (args : Array Value) (w : World) : (callFunc 30 args).run Ybaf.prog w = ((Extern.BytealgCompare.compare args).run Ybaf.prog w).andThen fun v w' => .ok (.value v) w' :=
  run_callFunc_extern Ybaf.func30 (by kernel_rfl) (by kernel_rfl) (by kernel_rfl) (by kernel_rfl) args w
@[go_sem] theorem call26 (args : Array Value) (w : World) : (callFunc 26 args).run Ybaf.prog w = ((Extern.Atomic.loadT .ptr args).run Ybaf.prog w).andThen fun v w' => .ok (.value v) w' :=
  run_callFunc_extern Ybaf.func26 (by kernel_rfl) (by kernel_rfl) (by kernel_rfl) (by kernel_rfl) args w
@[go_sem] theorem call13 (args : Array Value) (w : World) : (callFunc 13 args).run Ybaf.prog w = ((Extern.Atomic.storeT args).run Ybaf.prog w).andThen fun v w' => .ok (.value v) w' :=
  run_callFunc_extern Ybaf.func13 (by kernel_rfl) (by kernel_rfl) (by kernel_rfl) (by kernel_rfl) args w

theorem compare_any (a b : ByteArray) (w : World) : Calls Ybaf.prog 21 #[.string a, .string b] w fun e w' => e = .returned (.int .i64 (Lib.compareBytes a.data.toList b.data.toList)) ∧ w' = w := by
  have h := Lib.run_compareString (P := Ybaf.prog) a b w
  go_enter Ybaf.func21, Ybaf.ntmps21
  go_wp2
  go_ret
  exact ⟨rfl, rfl⟩

theorem textOf_any (c : Nat) (T : ByteArray) (s e : Nat) (w : World) (h0 : w.cell? ⟨c, 0, none⟩ = some (.string T)) (hse : s ≤ e) (heT : e ≤ T.size) :
    Calls Ybaf.prog 22 #[.pointer (some ⟨c, 0, none⟩), .agg #[.int .u32 s, .int .u32 e]] w fun r w' => r = .returned (.string (T.extract s e)) ∧ Below w.heap.size w w' := by
  have hlt := World.block_lt_of_cell? w _ h0
  have i1 : (0 : Int) ≤ (s : Int) := by omega
  have i2 : (s : Int) ≤ (e : Int) := by omega
  have i3 : (e : Int) ≤ (T.size : Int) := by omega
  go_enter Ybaf.func22, Ybaf.ntmps22
  go_wp2
  go_quiet (fail)
  go_wp2
  go_ret
  exact ⟨rfl, below_drewN ((Below.refl _ _).alloc (Nat.le_refl _) _) _⟩

/-- what checksOf hands back -/
def ChecksOf (gc cs ce : Nat) (w : World) (r : Ending) (w' : World) : Prop :=
  ∃ sa sc, r = .returned (.slice sa (ce - cs) sc) ∧ (cs < ce → sa = some ⟨gc, cs * 7, none⟩) ∧ Below w.heap.size w w'

theorem checksOf_any (c : Nat) (gc : Nat) (ac : Option Addr) (n cc : Nat) (ns ne cs ce : Nat) (b : Bool) (w : World) (h2 : w.cell? ⟨c, 2, none⟩ = some (.slice ac n cc)) (hac : 0 < n → ac = some ⟨gc, 0, none⟩) (hse : cs ≤ ce) (hen : ce ≤ n) (hnc : n ≤ cc) :
    Calls Ybaf.prog 24 #[.pointer (some ⟨c, 0, none⟩), .agg #[.int .u32 ns, .int .u32 ne, .int .u32 cs, .int .u32 ce, .bool b]] w (ChecksOf gc cs ce w) := by
  have hlt := World.block_lt_of_cell? w _ h2
  have i1 : (0 : Int) ≤ (cs : Int) := by omega
  have i2 : (cs : Int) ≤ (ce : Int) := by omega
  have i3 : (ce : Int) ≤ (cc : Int) := by omega
  have HA : Hid (0 < n → ac = some ⟨gc, 0, none⟩) := hac
  clear hac
  go_enter Ybaf.func24, Ybaf.ntmps24
  go_wp2
  go_quiet (fail)
  go_wp2
  · go_ret
    exact ⟨_, _, rfl, fun h => by omega, below_drewN ((Below.refl _ _).alloc (Nat.le_refl _) _) _⟩
  · go_ret
    refine ⟨_, _, rfl, fun h => ?_, below_drewN ((Below.refl _ _).alloc (Nat.le_refl _) _) _⟩
    rw [HA.out (by omega)]
    simp [add_cell]
end Go.Proofs.YbulkxmaFmt
