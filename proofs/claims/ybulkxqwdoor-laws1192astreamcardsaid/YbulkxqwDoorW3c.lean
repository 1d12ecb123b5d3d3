/-
  The reader with a chunk below the buffer.
-/
import Derived.Test.YbulkxqwDoorW3
set_option linter.unusedSimpArgs false
set_option linter.unusedVariables false
namespace Go.Proofs.YbulkxqwDoor
open Go.RowKit

set_option maxRecDepth 100000 in
set_option maxHeartbeats 4000000 in
theorem read_lt (F : Fx) (w : World) (x : Sd) (A : At F w x) (hr : x.rp < F.L.length) (hl : F.L.length ≤ 1024) (hcl : F.Ch.length ≤ 1024) (hbs : 1 ≤ F.bs) (hbs2 : F.bs ≤ 16) (hk : x.kk ≤ 100000) (hch : F.Ch ≠ [])
    (hcbH : ∀ (J : Nat) (hJ : J = x.kk % F.Ch.length) (hJl : J < F.Ch.length), 1 + F.Ch[J].toNat % 7 < F.bs) :
    Calls Ybad.prog 22 #[.pointer (some ⟨F.s, 0, none⟩), .slice (some ⟨F.s + 2, 0, none⟩) F.bs F.bs] w (Rd F x w) := by
  obtain ⟨R, hR⟩ : ∃ R, R = F.L.length - x.rp := ⟨_, rfl⟩
  have r0 : w.cell? ⟨F.s, 0, none⟩ = some (.slice (some ⟨F.bd, F.od + x.rp, none⟩) R x.dc) := by rw [hR, ← A.da hr]; exact cell_at A.rdr rfl
  have r1 : w.cell? ⟨F.s, 1, none⟩ = some (.slice F.ca F.Ch.length F.cc) := cell_at A.rdr rfl
  have r2 : w.cell? ⟨F.s, 2, none⟩ = some (.int .i64 x.kk) := cell_at A.rdr rfl
  have r3 : w.cell? ⟨F.s, 3, none⟩ = some (.bool F.ew) := cell_at A.rdr rfl
  have z0 : w.frozen? ⟨F.s, 0, none⟩ = false := frozen_at A.rdr
  have z2 : w.frozen? ⟨F.s, 2, none⟩ = false := frozen_at A.rdr
  have hw1 : IntKind.i64.wrap ((x.kk : Int) + 1) = (x.kk : Int) + 1 := by rw [IntKind.wrap_i64]; omega
  have e0 := A.eof
  have hdc := A.dc
  have hR1 : 1 ≤ R := by omega
  have hRd : R ≤ x.dc := by omega
  have HA : Hid (At F w x) := A
  have HR : Hid (R = F.L.length - x.rp) := hR
  clear A hdc hR
  have hcp : 0 < F.Ch.length := List.length_pos_iff.2 hch
  have hcpI : (0 : Int) < (F.Ch.length : Int) := by omega
  have hca := HA.out.cha hch
  obtain ⟨J, hJ⟩ : ∃ J, J = x.kk % F.Ch.length := ⟨_, rfl⟩
  have hJl : J < F.Ch.length := by rw [hJ]; exact Nat.mod_lt _ hcp
  obtain ⟨hJI, hJT⟩ := mod_facts x.kk F.Ch.length J hJ
  have hcc := HA.out.ch J hJl
  obtain ⟨y, hy⟩ : ∃ y, y = F.Ch[J].toNat := ⟨_, rfl⟩
  rw [← hy] at hcc
  obtain ⟨C, hC⟩ : ∃ C, C = 1 + y % 7 := ⟨_, rfl⟩
  have hy8 : y < 256 := by have h8 := F.Ch[J].toNat_lt; rw [← hy] at h8; omega
  obtain ⟨hC1, hC7, hCI, hCT⟩ := chunk_facts y C hC
  have HCF : Hid (((x.kk : Int) % (F.Ch.length : Int) = (J : Int) ∧ (x.kk : Int).tmod (F.Ch.length : Int) = (J : Int)) ∧ (1 + (y : Int) % 7 = (C : Int) ∧ 1 + (y : Int).tmod 7 = (C : Int)) ∧ (IntKind.i64.wrap (y : Int) = (y : Int) ∧ IntKind.i64.wrap (C : Int) = (C : Int)) ∧ wrap64 (y : Int) = (y : Int) ∧ wrap64 (C : Int) = (C : Int)) :=
    ⟨⟨hJI, hJT⟩, ⟨hCI, hCT⟩, ⟨wrapi_small y (Nat.le_trans (Nat.le_of_lt hy8) (by decide)), wrapi_small C (Nat.le_trans hC7 (by decide))⟩, wrap64_small y (Nat.le_trans (Nat.le_of_lt hy8) (by decide)), wrap64_small C (Nat.le_trans hC7 (by decide))⟩
  clear hJI hJT hCI hCT
  have hix := run_at22 F.bc F.oc F.Ch.length F.cc J J rfl hJl
  have hne : ((F.Ch.length : Int) == 0) = false := by rw [beq_eq_false_iff_ne]; omega
  have hne2 : (F.Ch.length : Int) ≠ 0 := by omega
  rw [hca] at r1
  have hcb : C < F.bs := by rw [hC, hy]; exact hcbH J hJ hJl
  clear hJ hy hC hch hca hy8 hC7 hcbH
  have hcbI : (C : Int) < (F.bs : Int) := by omega
  by_cases hb : R < C
  · have hbI : (R : Int) < (C : Int) := by omega
    obtain ⟨⟨hJI, hJT⟩, ⟨hCI, hCT⟩, ⟨hwy, hwC⟩, hwy2, hwC2⟩ := HCF.out
    go_enter Ybad.func22, Ybad.ntmps22
    go_wp2_with fail
    go_quiet (fail)
    obtain ⟨n1, rfl⟩ : ∃ n1, n1 = nq := ⟨_, rfl⟩
    clear hJI hJT hCI hCT hwy hwC hwy2 hwC2 hix hcc hne hne2
    have hcp2 := cp2 ((HA.out.drewN n1)) R (by have := HR.out; omega) (by omega) ((w.drewN n1).setCell ⟨F.s, 2, none⟩ (.int .i64 ((x.kk : Int) + 1))) (fun j hj => heap_set_other hj)
    have hs2 := heap_setCell_at ((HA.out.drewN n1)).rdr (k := 2) (.int .i64 ((x.kk : Int) + 1))
    have hk0 : ∀ Rw, (((w.drewN n1).setCell ⟨F.s, 2, none⟩ (.int .i64 ((x.kk : Int) + 1))).setRow (F.s + 2) Rw).cell? ⟨F.s, 0, none⟩ = some (.slice (some ⟨F.bd, F.od + x.rp, none⟩) R x.dc) := fun Rw => by
      rw [World.cell?_of_block (w := (w.drewN n1).setCell ⟨F.s, 2, none⟩ (.int .i64 ((x.kk : Int) + 1))) (setRow_other _ _ _ _ (by show F.s ≠ F.s + 2; omega)), HR.out, ← HA.out.da hr]
      exact cell_at hs2 rfl
    have hk3 : ∀ Rw, (((w.drewN n1).setCell ⟨F.s, 2, none⟩ (.int .i64 ((x.kk : Int) + 1))).setRow (F.s + 2) Rw).cell? ⟨F.s, 3, none⟩ = some (.bool F.ew) := fun Rw => by
      rw [World.cell?_of_block (w := (w.drewN n1).setCell ⟨F.s, 2, none⟩ (.int .i64 ((x.kk : Int) + 1))) (setRow_other _ _ _ _ (by show F.s ≠ F.s + 2; omega))]
      exact cell_at hs2 rfl
    have hkz : ∀ Rw, (((w.drewN n1).setCell ⟨F.s, 2, none⟩ (.int .i64 ((x.kk : Int) + 1))).setRow (F.s + 2) Rw).frozen? ⟨F.s, 0, none⟩ = false := fun Rw => by
      rw [World.frozen?_of_block (w := (w.drewN n1).setCell ⟨F.s, 2, none⟩ (.int .i64 ((x.kk : Int) + 1))) (setRow_other _ _ _ _ (by show F.s ≠ F.s + 2; omega))]
      exact frozen_at hs2
    have hke : ∀ Rw, (((w.drewN n1).setCell ⟨F.s, 2, none⟩ (.int .i64 ((x.kk : Int) + 1))).setRow (F.s + 2) Rw).cell? ⟨0, 0, none⟩ = some (eofV F) := fun Rw => by
      have hs0 := HA.out.s0
      rw [World.cell?_of_block (w := (w.drewN n1).setCell ⟨F.s, 2, none⟩ (.int .i64 ((x.kk : Int) + 1))) (setRow_other _ _ _ _ (by show 0 ≠ F.s + 2; omega)), World.cell?_of_block (w := w.drewN n1) (heap_set_other (by show 0 ≠ F.s; omega))]
      exact ((HA.out.drewN n1)).eof
    have hs0 : 0 ≠ F.s := by have := HA.out.s0; omega
    have hs0' : F.s ≠ 0 := by omega
    obtain ⟨a', htl, hta⟩ := run_tail F.bd (F.od + x.rp) R x.dc R (by omega) (by omega)
    have HTA : Hid (R < F.L.length - x.rp → a' = some ⟨F.bd, F.od + x.rp + R, none⟩) := by rw [← HR.out]; exact hta
    have hhd := run_front F.bd (F.od + x.rp) R x.dc R (by omega)
    clear hta hs2
    have hz : R - R = 0 := by omega
    cases hew : F.ew
    · rw [hew] at hk3 r3
      go_wp2_with fail
      go_ret2
      obtain ⟨f1, f2⟩ := read_at ((HA.out.drewN n1)) R a' (by have := HR.out; omega) (by omega) HTA.out
      rw [← HR.out, hz] at f1 f2
      refine ⟨R, a', by omega, by omega, by have := HR.out; omega, ?_, f1, ⟨f2.os, f2.tape, f2.output, f2.size, f2.block⟩⟩
      rw [show decide (x.rp + R = F.L.length) = true by simp; have := HR.out; omega]
      rw [hew]; rfl
    · rw [hew] at hk3 r3
      go_wp2_with fail
      go_quiet (fail)
      go_wp2_with fail
      go_ret2
      obtain ⟨f1, f2⟩ := read_at ((HA.out.drewN n1)) R a' (by have := HR.out; omega) (by omega) HTA.out
      rw [← HR.out, hz] at f1 f2
      refine ⟨R, a', by omega, by omega, by have := HR.out; omega, ?_, f1.of_heap rfl, ⟨f2.os, f2.tape, f2.output, f2.size, f2.block⟩⟩
      rw [show decide (x.rp + R = F.L.length) = true by simp; have := HR.out; omega]
      rw [hew]; rfl
  · have hbI : (C : Int) ≤ (R : Int) := by omega
    obtain ⟨⟨hJI, hJT⟩, ⟨hCI, hCT⟩, ⟨hwy, hwC⟩, hwy2, hwC2⟩ := HCF.out
    go_enter Ybad.func22, Ybad.ntmps22
    go_wp2_with fail
    go_quiet (fail)
    obtain ⟨n1, rfl⟩ : ∃ n1, n1 = nq := ⟨_, rfl⟩
    clear hJI hJT hCI hCT hwy hwC hwy2 hwC2 hix hcc hne hne2
    have hcp2 := cp2 ((HA.out.drewN n1)) C (by have := HR.out; omega) (by omega) ((w.drewN n1).setCell ⟨F.s, 2, none⟩ (.int .i64 ((x.kk : Int) + 1))) (fun j hj => heap_set_other hj)
    have hs2 := heap_setCell_at ((HA.out.drewN n1)).rdr (k := 2) (.int .i64 ((x.kk : Int) + 1))
    have hk0 : ∀ Rw, (((w.drewN n1).setCell ⟨F.s, 2, none⟩ (.int .i64 ((x.kk : Int) + 1))).setRow (F.s + 2) Rw).cell? ⟨F.s, 0, none⟩ = some (.slice (some ⟨F.bd, F.od + x.rp, none⟩) R x.dc) := fun Rw => by
      rw [World.cell?_of_block (w := (w.drewN n1).setCell ⟨F.s, 2, none⟩ (.int .i64 ((x.kk : Int) + 1))) (setRow_other _ _ _ _ (by show F.s ≠ F.s + 2; omega)), HR.out, ← HA.out.da hr]
      exact cell_at hs2 rfl
    have hk3 : ∀ Rw, (((w.drewN n1).setCell ⟨F.s, 2, none⟩ (.int .i64 ((x.kk : Int) + 1))).setRow (F.s + 2) Rw).cell? ⟨F.s, 3, none⟩ = some (.bool F.ew) := fun Rw => by
      rw [World.cell?_of_block (w := (w.drewN n1).setCell ⟨F.s, 2, none⟩ (.int .i64 ((x.kk : Int) + 1))) (setRow_other _ _ _ _ (by show F.s ≠ F.s + 2; omega))]
      exact cell_at hs2 rfl
    have hkz : ∀ Rw, (((w.drewN n1).setCell ⟨F.s, 2, none⟩ (.int .i64 ((x.kk : Int) + 1))).setRow (F.s + 2) Rw).frozen? ⟨F.s, 0, none⟩ = false := fun Rw => by
      rw [World.frozen?_of_block (w := (w.drewN n1).setCell ⟨F.s, 2, none⟩ (.int .i64 ((x.kk : Int) + 1))) (setRow_other _ _ _ _ (by show F.s ≠ F.s + 2; omega))]
      exact frozen_at hs2
    have hke : ∀ Rw, (((w.drewN n1).setCell ⟨F.s, 2, none⟩ (.int .i64 ((x.kk : Int) + 1))).setRow (F.s + 2) Rw).cell? ⟨0, 0, none⟩ = some (eofV F) := fun Rw => by
      have hs0 := HA.out.s0
      rw [World.cell?_of_block (w := (w.drewN n1).setCell ⟨F.s, 2, none⟩ (.int .i64 ((x.kk : Int) + 1))) (setRow_other _ _ _ _ (by show 0 ≠ F.s + 2; omega)), World.cell?_of_block (w := w.drewN n1) (heap_set_other (by show 0 ≠ F.s; omega))]
      exact ((HA.out.drewN n1)).eof
    have hs0 : 0 ≠ F.s := by have := HA.out.s0; omega
    have hs0' : F.s ≠ 0 := by omega
    obtain ⟨a', htl, hta⟩ := run_tail F.bd (F.od + x.rp) R x.dc C (by omega) (by omega)
    have HTA : Hid (C < F.L.length - x.rp → a' = some ⟨F.bd, F.od + x.rp + C, none⟩) := by rw [← HR.out]; exact hta
    have hhd := run_front F.bd (F.od + x.rp) R x.dc C (by omega)
    clear hta hs2
    by_cases hE : C = R
    · have hz : R - C = 0 := by omega
      clear hE
      cases hew : F.ew
      · rw [hew] at hk3 r3
        go_wp2_with fail
        go_ret2
        obtain ⟨f1, f2⟩ := read_at ((HA.out.drewN n1)) C a' (by have := HR.out; omega) (by omega) HTA.out
        rw [← HR.out, hz] at f1 f2
        refine ⟨C, a', by omega, by omega, by have := HR.out; omega, ?_, f1, ⟨f2.os, f2.tape, f2.output, f2.size, f2.block⟩⟩
        rw [show decide (x.rp + C = F.L.length) = true by simp; have := HR.out; omega]
        rw [hew]; rfl
      · rw [hew] at hk3 r3
        go_wp2_with fail
        go_quiet (fail)
        go_wp2_with fail
        go_ret2
        obtain ⟨f1, f2⟩ := read_at ((HA.out.drewN n1)) C a' (by have := HR.out; omega) (by omega) HTA.out
        rw [← HR.out, hz] at f1 f2
        refine ⟨C, a', by omega, by omega, by have := HR.out; omega, ?_, f1.of_heap rfl, ⟨f2.os, f2.tape, f2.output, f2.size, f2.block⟩⟩
        rw [show decide (x.rp + C = F.L.length) = true by simp; have := HR.out; omega]
        rw [hew]; rfl
    · have hzz : (((R - C : Nat) : Int) == 0) = false := by rw [beq_eq_false_iff_ne]; omega
      have hz3 : R - C ≠ 0 := by omega
      go_wp2_with fail
      go_ret2
      obtain ⟨f1, f2⟩ := read_at ((HA.out.drewN n1)) C a' (by have := HR.out; omega) (by omega) HTA.out
      rw [← HR.out] at f1 f2
      refine ⟨C, a', by omega, by omega, by have := HR.out; omega, ?_, f1, ⟨f2.os, f2.tape, f2.output, f2.size, f2.block⟩⟩
      rw [show decide (x.rp + C = F.L.length) = false by simp; have := HR.out; omega]
      rw [Bool.and_false]; rfl
end Go.Proofs.YbulkxqwDoor
