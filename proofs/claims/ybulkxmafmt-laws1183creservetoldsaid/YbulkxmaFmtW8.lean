/-
  The store: the configuration in force is laid, and read; Checks without a reserve.
-/
import Derived.Test.YbulkxmaFmtW6
namespace Go.Proofs.YbulkxmaFmt
open Go.RowKit Go.Stop

theorem run_loadPtr (a : Addr) (x : Option Addr) (w : World) (h : w.cell? a = some (.pointer x)) : (Extern.Atomic.loadT .ptr #[.pointer (some a)]).run Ybaf.prog w = .ok (.pointer x) w := by
  show Sem.run Ybaf.prog (do Extern.Atomic.read .ptr (← asAddr (.pointer (some a)))) w = _
  simp [Extern.Atomic.read, asAddr, h]

theorem run_storePtr (a : Addr) (x y : Option Addr) (w : World) (h : w.cell? a = some (.pointer y)) (hf : w.frozen? a = false) : (Extern.Atomic.storeT #[.pointer (some a), .pointer x]).run Ybaf.prog w = .ok (.tuple #[]) (w.setCell a (.pointer x)) := by
  show Sem.run Ybaf.prog (do store (← asAddr (.pointer (some a))) (.pointer x) .atomic; pure Extern.Atomic.none_) w = _
  simp [asAddr, h, hf, run_store Ybaf.prog w a (.pointer x) .atomic rfl, Result.andThen, Extern.Atomic.none_]

theorem Ybaf.lies49 : liesAt Ybaf.prog Ybaf.prog.depth 49 (3 / Ybaf.prog.cellsOf 49) 0 49 1 = true := by kernel_rfl
theorem Ybaf.sizeOf49 (w : World) : (sizeOf 49).run Ybaf.prog w = .ok 3 w := by kernel_rfl
theorem conv_nil (w : World) : (convert 25 40 (.pointer none)).run Ybaf.prog w = .ok (.pointer none) w ∧ (convert 40 25 (.pointer none)).run Ybaf.prog w = .ok (.pointer none) w := by
  constructor
  · simp [convert, Conv.unsafePointer, run_underlying Ybaf.underlying25, run_underlying Ybaf.underlying40]
  · simp [convert, Conv.unsafePointer, run_underlying Ybaf.underlying25, run_underlying Ybaf.underlying40]

theorem conv_out (c : Nat) (w : World) (h : w.shape? c = some (49, 3)) : (convert 25 40 (.pointer (some ⟨c, 0, none⟩))).run Ybaf.prog w = .ok (.pointer (some ⟨c, 0, none⟩)) w := by
  simp [convert, Conv.unsafePointer, run_underlying Ybaf.underlying25, run_underlying Ybaf.underlying40, Conv.seenAt, viewAt, cellsIn, h]

theorem conv_in (c : Nat) (w : World) (h : w.shape? c = some (49, 3)) : (convert 40 25 (.pointer (some ⟨c, 0, none⟩))).run Ybaf.prog w = .ok (.pointer (some ⟨c, 0, none⟩)) w := by
  simp [convert, Conv.unsafePointer, run_underlying Ybaf.underlying25, run_underlying Ybaf.underlying40, Conv.seenAt, viewAt, h, variablesAt, Ybaf.lies49]

set_option maxRecDepth 100000 in
theorem current_some (S c : Nat) (w : World) (h : w.cell? ⟨S, 3, none⟩ = some (.pointer (some ⟨c, 0, none⟩))) (hc : w.shape? c = some (49, 3)) :
    Calls Ybaf.prog 14 #[.pointer (some ⟨S, 0, none⟩)] w fun e w' => e = .returned (.pointer (some ⟨c, 0, none⟩)) ∧ w' = w := by
  have hr := run_loadPtr _ _ _ h
  have hv := conv_in c w hc
  go_enter Ybaf.func14, Ybaf.ntmps14
  go_wp2
  go_ret
  exact ⟨rfl, rfl⟩

set_option maxRecDepth 100000 in
theorem current_none (S : Nat) (w : World) (h : w.cell? ⟨S, 3, none⟩ = some (.pointer none)) :
    Calls Ybaf.prog 14 #[.pointer (some ⟨S, 0, none⟩)] w fun e w' => e = .returned (.pointer none) ∧ w' = w := by
  have hr := run_loadPtr _ _ _ h
  have hv := (conv_nil w).2
  go_enter Ybaf.func14, Ybaf.ntmps14
  go_wp2
  go_ret
  exact ⟨rfl, rfl⟩

set_option maxRecDepth 100000 in
theorem put_any (S c : Nat) (y : Option Addr) (w : World) (h : w.cell? ⟨S, 3, none⟩ = some (.pointer y)) (hf : w.frozen? ⟨S, 3, none⟩ = false) (hc : w.shape? c = some (49, 3)) :
    Calls Ybaf.prog 7 #[.pointer (some ⟨S, 3, none⟩), .pointer (some ⟨c, 0, none⟩)] w fun e w' => e = .returned (.tuple #[]) ∧ w' = w.setCell ⟨S, 3, none⟩ (.pointer (some ⟨c, 0, none⟩)) := by
  have hr := run_storePtr _ (some ⟨c, 0, none⟩) _ _ h hf
  have hv := conv_out c w hc
  go_enter Ybaf.func7, Ybaf.ntmps7
  go_wp2
  go_end0
  exact ⟨rfl, rfl⟩
end Go.Proofs.YbulkxmaFmt
