/-
  The reader's Read where there is something left: the walk.
-/
import Derived.Test.YbulkxqwDoorW2
set_option linter.unusedSimpArgs false
set_option linter.unusedVariables false
namespace Go.Proofs.YbulkxqwDoor
open Go.RowKit

/-- what a read brings -/
def Rd (F : Fx) (x : Sd) (w : World) (e : Ending) (w' : World) : Prop :=
  ∃ n a', 1 ≤ n ∧ n ≤ F.bs ∧ x.rp + n ≤ F.L.length ∧ e = .returned (.tuple #[.int .i64 (n : Nat), erV F (F.ew && decide (x.rp + n = F.L.length))]) ∧ At F w' (readSd F x n a') ∧ Below F.s w w'

theorem run_at22 (g o len cap k : Nat) (i : Int) (hi : i = k) (hk : k < len) (w : World) :
    (Instr.indexAt 22 (.slice (some ⟨g, o, none⟩) len cap) (.int .i64 i)).run Ybad.prog w = .ok (.pointer (some ⟨g, o + k, none⟩)) w := by
  subst hi
  have hk' : (0 : Int) ≤ (k : Int) ∧ (k : Int) < (len : Int) := ⟨by omega, by omega⟩
  rw [run_indexAt_slice _ _ _ _ _ _ _ (by rw [Ybad.underlying22]; rfl), if_pos hk']
  have : (sizeOf (Ybad.prog.elem 22)).run Ybad.prog w = .ok 1 w := by kernel_rfl
  rw [this]
  by_cases h0 : k = 0
  · subst h0
    simp [Result.andThen, Addr.add]
  · simp [Result.andThen, Addr.add, h0]

theorem wrapi_small (a : Nat) (h : a ≤ 300) : IntKind.i64.wrap (a : Int) = (a : Int) := by rw [IntKind.wrap_i64]; omega
theorem wrap64_small (a : Nat) (h : a ≤ 300) : wrap64 (a : Int) = (a : Int) := by unfold wrap64; omega
theorem chunk_facts (y C : Nat) (h : C = 1 + y % 7) : 1 ≤ C ∧ C ≤ 7 ∧ 1 + (y : Int) % 7 = (C : Int) ∧ 1 + (y : Int).tmod 7 = (C : Int) := by
  refine ⟨by omega, by omega, by omega, ?_⟩
  rw [Int.tmod_eq_emod_of_nonneg (by omega)]
  omega
theorem mod_facts (k n J : Nat) (h : J = k % n) : (k : Int) % (n : Int) = (J : Int) ∧ (k : Int).tmod (n : Int) = (J : Int) := by
  have e : (k : Int) % (n : Int) = (J : Int) := by rw [h]; exact (Int.natCast_emod k n).symm
  exact ⟨e, by rw [Int.tmod_eq_emod_of_nonneg (by omega)]; exact e⟩

set_option maxRecDepth 100000 in
set_option maxHeartbeats 4000000 in
theorem read_plain (F : Fx) (w : World) (x : Sd) (A : At F w x) (hr : x.rp < F.L.length) (hl : F.L.length ≤ 1024) (hcl : F.Ch.length ≤ 1024) (hbs : 1 ≤ F.bs) (hbs2 : F.bs ≤ 16) (hk : x.kk ≤ 100000) (hch : F.Ch = []) :
    Calls Ybad.prog 22 #[.pointer (some ⟨F.s, 0, none⟩), .slice (some ⟨F.s + 2, 0, none⟩) F.bs F.bs] w (Rd F x w) := by
  obtain ⟨R, hR⟩ : ∃ R, R = F.L.length - x.rp := ⟨_, rfl⟩
  have r0 : w.cell? ⟨F.s, 0, none⟩ = some (.slice (some ⟨F.bd, F.od + x.rp, none⟩) R x.dc) := by rw [hR, ← A.da hr]; exact cell_at A.rdr rfl
  have r1 : w.cell? ⟨F.s, 1, none⟩ = some (.slice F.ca F.Ch.length F.cc) := cell_at A.rdr rfl
  have r2 : w.cell? ⟨F.s, 2, none⟩ = some (.int .i64 x.kk) := cell_at A.rdr rfl
  have r3 : w.cell? ⟨F.s, 3, none⟩ = some (.bool F.ew) := cell_at A.rdr rfl
  have z0 : w.frozen? ⟨F.s, 0, none⟩ = false := frozen_at A.rdr
  have z2 : w.frozen? ⟨F.s, 2, none⟩ = false := frozen_at A.rdr
  have hw1 : IntKind.i64.wrap ((x.kk : Int) + 1) = (x.kk : Int) + 1 := by rw [IntKind.wrap_i64]; omega
  have e0 := A.eof
  have hdc := A.dc
  have hR1 : 1 ≤ R := by omega
  have hRd : R ≤ x.dc := by omega
  have HA : Hid (At F w x) := A
  have HR : Hid (R = F.L.length - x.rp) := hR
  clear A hdc hR
  have hc0 : F.Ch.length = 0 := by rw [hch]; rfl
  rw [hc0] at r1
  clear hch hc0
  by_cases hb : R < F.bs
  · have hbI : (R : Int) < (F.bs : Int) := by omega
    have hcp2 := cp2 (HA.out) R (by have := HR.out; omega) (by omega) ((w).setCell ⟨F.s, 2, none⟩ (.int .i64 ((x.kk : Int) + 1))) (fun j hj => heap_set_other hj)
    have hs2 := heap_setCell_at (HA.out).rdr (k := 2) (.int .i64 ((x.kk : Int) + 1))
    have hk0 : ∀ Rw, (((w).setCell ⟨F.s, 2, none⟩ (.int .i64 ((x.kk : Int) + 1))).setRow (F.s + 2) Rw).cell? ⟨F.s, 0, none⟩ = some (.slice (some ⟨F.bd, F.od + x.rp, none⟩) R x.dc) := fun Rw => by
      rw [World.cell?_of_block (w := (w).setCell ⟨F.s, 2, none⟩ (.int .i64 ((x.kk : Int) + 1))) (setRow_other _ _ _ _ (by show F.s ≠ F.s + 2; omega)), HR.out, ← HA.out.da hr]
      exact cell_at hs2 rfl
    have hk3 : ∀ Rw, (((w).setCell ⟨F.s, 2, none⟩ (.int .i64 ((x.kk : Int) + 1))).setRow (F.s + 2) Rw).cell? ⟨F.s, 3, none⟩ = some (.bool F.ew) := fun Rw => by
      rw [World.cell?_of_block (w := (w).setCell ⟨F.s, 2, none⟩ (.int .i64 ((x.kk : Int) + 1))) (setRow_other _ _ _ _ (by show F.s ≠ F.s + 2; omega))]
      exact cell_at hs2 rfl
    have hkz : ∀ Rw, (((w).setCell ⟨F.s, 2, none⟩ (.int .i64 ((x.kk : Int) + 1))).setRow (F.s + 2) Rw).frozen? ⟨F.s, 0, none⟩ = false := fun Rw => by
      rw [World.frozen?_of_block (w := (w).setCell ⟨F.s, 2, none⟩ (.int .i64 ((x.kk : Int) + 1))) (setRow_other _ _ _ _ (by show F.s ≠ F.s + 2; omega))]
      exact frozen_at hs2
    have hke : ∀ Rw, (((w).setCell ⟨F.s, 2, none⟩ (.int .i64 ((x.kk : Int) + 1))).setRow (F.s + 2) Rw).cell? ⟨0, 0, none⟩ = some (eofV F) := fun Rw => by
      have hs0 := HA.out.s0
      rw [World.cell?_of_block (w := (w).setCell ⟨F.s, 2, none⟩ (.int .i64 ((x.kk : Int) + 1))) (setRow_other _ _ _ _ (by show 0 ≠ F.s + 2; omega)), World.cell?_of_block (w := w) (heap_set_other (by show 0 ≠ F.s; omega))]
      exact (HA.out).eof
    have hs0 : 0 ≠ F.s := by have := HA.out.s0; omega
    have hs0' : F.s ≠ 0 := by omega
    obtain ⟨a', htl, hta⟩ := run_tail F.bd (F.od + x.rp) R x.dc R (by omega) (by omega)
    have HTA : Hid (R < F.L.length - x.rp → a' = some ⟨F.bd, F.od + x.rp + R, none⟩) := by rw [← HR.out]; exact hta
    have hhd := run_front F.bd (F.od + x.rp) R x.dc R (by omega)
    clear hta hs2
    have hz : R - R = 0 := by omega
    cases hew : F.ew
    · rw [hew] at hk3 r3
      go_enter Ybad.func22, Ybad.ntmps22
      go_wp2_with fail
      go_ret2
      obtain ⟨f1, f2⟩ := read_at (HA.out) R a' (by have := HR.out; omega) (by omega) HTA.out
      rw [← HR.out, hz] at f1 f2
      refine ⟨R, a', by omega, by omega, by have := HR.out; omega, ?_, f1, ⟨f2.os, f2.tape, f2.output, f2.size, f2.block⟩⟩
      rw [show decide (x.rp + R = F.L.length) = true by simp; have := HR.out; omega]
      rw [hew]; rfl
    · rw [hew] at hk3 r3
      go_enter Ybad.func22, Ybad.ntmps22
      go_wp2_with fail
      go_quiet (fail)
      go_wp2_with fail
      go_ret2
      obtain ⟨f1, f2⟩ := read_at (HA.out) R a' (by have := HR.out; omega) (by omega) HTA.out
      rw [← HR.out, hz] at f1 f2
      refine ⟨R, a', by omega, by omega, by have := HR.out; omega, ?_, f1.of_heap rfl, ⟨f2.os, f2.tape, f2.output, f2.size, f2.block⟩⟩
      rw [show decide (x.rp + R = F.L.length) = true by simp; have := HR.out; omega]
      rw [hew]; rfl
  · have hbI : (F.bs : Int) ≤ (R : Int) := by omega
    have hcp2 := cp2 (HA.out) F.bs (by have := HR.out; omega) (by omega) ((w).setCell ⟨F.s, 2, none⟩ (.int .i64 ((x.kk : Int) + 1))) (fun j hj => heap_set_other hj)
    have hs2 := heap_setCell_at (HA.out).rdr (k := 2) (.int .i64 ((x.kk : Int) + 1))
    have hk0 : ∀ Rw, (((w).setCell ⟨F.s, 2, none⟩ (.int .i64 ((x.kk : Int) + 1))).setRow (F.s + 2) Rw).cell? ⟨F.s, 0, none⟩ = some (.slice (some ⟨F.bd, F.od + x.rp, none⟩) R x.dc) := fun Rw => by
      rw [World.cell?_of_block (w := (w).setCell ⟨F.s, 2, none⟩ (.int .i64 ((x.kk : Int) + 1))) (setRow_other _ _ _ _ (by show F.s ≠ F.s + 2; omega)), HR.out, ← HA.out.da hr]
      exact cell_at hs2 rfl
    have hk3 : ∀ Rw, (((w).setCell ⟨F.s, 2, none⟩ (.int .i64 ((x.kk : Int) + 1))).setRow (F.s + 2) Rw).cell? ⟨F.s, 3, none⟩ = some (.bool F.ew) := fun Rw => by
      rw [World.cell?_of_block (w := (w).setCell ⟨F.s, 2, none⟩ (.int .i64 ((x.kk : Int) + 1))) (setRow_other _ _ _ _ (by show F.s ≠ F.s + 2; omega))]
      exact cell_at hs2 rfl
    have hkz : ∀ Rw, (((w).setCell ⟨F.s, 2, none⟩ (.int .i64 ((x.kk : Int) + 1))).setRow (F.s + 2) Rw).frozen? ⟨F.s, 0, none⟩ = false := fun Rw => by
      rw [World.frozen?_of_block (w := (w).setCell ⟨F.s, 2, none⟩ (.int .i64 ((x.kk : Int) + 1))) (setRow_other _ _ _ _ (by show F.s ≠ F.s + 2; omega))]
      exact frozen_at hs2
    have hke : ∀ Rw, (((w).setCell ⟨F.s, 2, none⟩ (.int .i64 ((x.kk : Int) + 1))).setRow (F.s + 2) Rw).cell? ⟨0, 0, none⟩ = some (eofV F) := fun Rw => by
      have hs0 := HA.out.s0
      rw [World.cell?_of_block (w := (w).setCell ⟨F.s, 2, none⟩ (.int .i64 ((x.kk : Int) + 1))) (setRow_other _ _ _ _ (by show 0 ≠ F.s + 2; omega)), World.cell?_of_block (w := w) (heap_set_other (by show 0 ≠ F.s; omega))]
      exact (HA.out).eof
    have hs0 : 0 ≠ F.s := by have := HA.out.s0; omega
    have hs0' : F.s ≠ 0 := by omega
    obtain ⟨a', htl, hta⟩ := run_tail F.bd (F.od + x.rp) R x.dc F.bs (by omega) (by omega)
    have HTA : Hid (F.bs < F.L.length - x.rp → a' = some ⟨F.bd, F.od + x.rp + F.bs, none⟩) := by rw [← HR.out]; exact hta
    have hhd := run_front F.bd (F.od + x.rp) R x.dc F.bs (by omega)
    clear hta hs2
    by_cases hE : F.bs = R
    · have hz : R - F.bs = 0 := by omega
      clear hE
      cases hew : F.ew
      · rw [hew] at hk3 r3
        go_enter Ybad.func22, Ybad.ntmps22
        go_wp2_with fail
        go_ret2
        obtain ⟨f1, f2⟩ := read_at (HA.out) F.bs a' (by have := HR.out; omega) (by omega) HTA.out
        rw [← HR.out, hz] at f1 f2
        refine ⟨F.bs, a', by omega, by omega, by have := HR.out; omega, ?_, f1, ⟨f2.os, f2.tape, f2.output, f2.size, f2.block⟩⟩
        rw [show decide (x.rp + F.bs = F.L.length) = true by simp; have := HR.out; omega]
        rw [hew]; rfl
      · rw [hew] at hk3 r3
        go_enter Ybad.func22, Ybad.ntmps22
        go_wp2_with fail
        go_quiet (fail)
        go_wp2_with fail
        go_ret2
        obtain ⟨f1, f2⟩ := read_at (HA.out) F.bs a' (by have := HR.out; omega) (by omega) HTA.out
        rw [← HR.out, hz] at f1 f2
        refine ⟨F.bs, a', by omega, by omega, by have := HR.out; omega, ?_, f1.of_heap rfl, ⟨f2.os, f2.tape, f2.output, f2.size, f2.block⟩⟩
        rw [show decide (x.rp + F.bs = F.L.length) = true by simp; have := HR.out; omega]
        rw [hew]; rfl
    · have hzz : (((R - F.bs : Nat) : Int) == 0) = false := by rw [beq_eq_false_iff_ne]; omega
      have hz3 : R - F.bs ≠ 0 := by omega
      go_enter Ybad.func22, Ybad.ntmps22
      go_wp2_with fail
      go_ret2
      obtain ⟨f1, f2⟩ := read_at (HA.out) F.bs a' (by have := HR.out; omega) (by omega) HTA.out
      rw [← HR.out] at f1 f2
      refine ⟨F.bs, a', by omega, by omega, by have := HR.out; omega, ?_, f1, ⟨f2.os, f2.tape, f2.output, f2.size, f2.block⟩⟩
      rw [show decide (x.rp + F.bs = F.L.length) = false by simp; have := HR.out; omega]
      rw [Bool.and_false]; rfl
end Go.Proofs.YbulkxqwDoor
