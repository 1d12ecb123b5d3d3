/-
  refill walked.
-/
import Derived.Test.YbulkxmoDoorW4
set_option linter.unusedSimpArgs false
namespace Go.Proofs.YbulkxmoDoor
open Go.RowKit

set_option maxRecDepth 100000 in
set_option maxHeartbeats 8000000 in
theorem refill_any (s : Nat) (src : List UInt8) (ch con : Nat) (x : Sd) (w : World) (A : At s w src ch x) (I : Inv src con x) (hl : src.length ≤ 1024) (hch0 : 1 ≤ ch) (hch : ch ≤ 16) (hnb : x.nb ≤ 64) (hcon : con ≤ 100000) (a b : Addr) (hE : Env s w a b) :
    Calls Ybad.prog 7 #[.pointer (some ⟨s + 3, 0, none⟩)] w (Filled s src ch con b w) := by
  have d2 := A.d2
  have d3 := A.d3
  have d4 := A.d4
  have hdn := I.dn
  have hn23 := I.n23
  have hw8 : IntKind.i64.wrap ((x.n : Int) - x.dp) = (x.n : Int) - x.dp := by rw [IntKind.wrap_i64]; omega
  by_cases h8 : x.n < x.dp + 8
  · have h8' : decide ((x.n : Int) - x.dp < 8) = true := decide_eq_true (by omega)
    cases he : x.eof
    · rw [he] at d4
      go_enter Ybad.func7, Ybad.ntmps7
      go_wp2_with fail
      go_quiet (fail)
      go_wp2_with fail
      refine (input_any s src ch con x (w.drewN nq) (A.of_heap rfl) I hl hch0 hch h8 a b (hE.below ⟨rfl, rfl, rfl, Nat.le_refl _, fun _ _ => rfl⟩)).mono ?_
      rintro e w1 ⟨rfl, A1, B0⟩
      have I1 := I.more h8 he hch0 hch
      have B1 : Below s w w1 := ⟨B0.os, B0.tape, B0.output, B0.size, B0.block⟩
      have hnb1 : (more src ch x).nb ≤ 64 := by unfold more; split <;> exact hnb
      clear A I B0 d2 d3 d4 hw8 h8' hnb
      generalize more src ch x = y at *
      go_wp2_with fail
      go_loopw [] (fun wr => ∃ y, At s wr src ch y ∧ Inv src con y ∧ Below s w wr ∧ y.nb ≤ 64) (fun wr => goes s src.length wr)
      case atStart => exact ⟨y, A1, I1, B1, hnb1⟩
      case round =>
        obtain ⟨y, A, I, B, hnb⟩ := hrel
        have d2 := A.d2
        have d3 := A.d3
        have d4 := A.d4
        have d7 := A.d7
        have d8 := A.d8
        have hE1 := hE.below B
        have hsum := I.buf.sum
        have hdn := I.dn
        by_cases h56 : y.nb ≤ 56
        · by_cases hend : y.dp = y.n
          · cases he : y.eof
            · rw [he] at d4
              rw [hend] at d3
              go_wp2_with fail
              go_quiet (fail)
              go_wp2_with fail
              refine (input_any s src ch con y (wr.drewN nq) (A.of_heap rfl) I hl hch0 hch (by omega) a b (hE1.below ⟨rfl, rfl, rfl, Nat.le_refl _, fun _ _ => rfl⟩)).mono ?_
              rintro e w2 ⟨rfl, A2, B2⟩
              have I2 := I.more (by omega) he hch0 hch
              have B3 : Below s w w2 := B.trans ⟨B2.os, B2.tape, B2.output, B2.size, B2.block⟩
              go_wp2_with fail
              go_roundw
              case rel => exact ⟨_, A2, I2, B3, by unfold more; split <;> exact hnb⟩
              case measure =>
                rw [goes_at A2, goes_at A]
                exact more_less y he (by omega) hch0 (by omega)
            · rw [he] at d4
              rw [hend] at d3
              have hw7 : IntKind.u64.wrap ((y.nb : Int) + 8) = ((y.nb + 8 : Nat) : Int) := by rw [IntKind.wrap_u64]; omega
              have hw8 : IntKind.u64.wrap ((y.pd : Int) + 1) = ((y.pd + 1 : Nat) : Int) := by rw [IntKind.wrap_u64]; omega
              have z7 := A.z 7
              have z8 := A.z 8
              have HF := fun k => nought_at A k
              have hI := I.nought hend he
              have HA : Hid (At s wr src ch y) := A
              clear A
              go_wp2_with fail
              go_quiet (fail)
              go_wp2_with fail
              go_quiet (fail)
              go_wp2_with fail
              refine ⟨⟨_, (HF _).1, hI, B.trans (HF _).2, by show y.nb + 8 ≤ 64; omega⟩, ?_⟩
              rw [goes_at (HF _).1, goes_at HA.out]
              show 64 - (y.nb + 8) + (src.length - y.rp) + (1 - if y.eof then 1 else 0) < _
              omega
          · have hlt : y.dp < y.n := by omega
            have hd6 := A.d6
            have z3 := A.z 3
            have z6 := A.z 6
            have z7 := A.z 7
            have hbl := A.bl
            obtain ⟨Y, hY⟩ : ∃ Y, y.bf[y.dp]? = some Y := ⟨y.bf[y.dp]'(by have := I.n23; omega), List.getElem?_eq_getElem _⟩
            have hby : wr.cell? ⟨s + 2, y.dp, none⟩ = some (.int .u8 Y.toNat) := cell_at A.buf (by simp [bvl, List.getElem?_map, hY])
            have hYl := Y.toNat_lt
            obtain ⟨Z, hZ⟩ : ∃ Z, Z = Y.toNat * 2 ^ y.nb := ⟨_, rfl⟩
            have hblt := I.buf.lt
            have hp56 : (2 : Nat) ^ y.nb ≤ 2 ^ 56 := Nat.pow_le_pow_right (by omega) h56
            have hZl : Z < 2 ^ 64 := by
              rw [hZ]
              have := Nat.mul_le_mul (Nat.le_of_lt_succ hYl) hp56
              omega
            have hsh : IntKind.u64.wrap ((Y.toNat : Int) * 2 ^ y.nb) = (Z : Int) := by
              rw [show ((Y.toNat : Int) * 2 ^ y.nb) = ((Y.toNat * 2 ^ y.nb : Nat) : Int) by push_cast; rfl, ← hZ, IntKind.wrap_u64]
              omega
            obtain ⟨N, hN⟩ : ∃ N, N = y.bits + Z := ⟨_, rfl⟩
            have hor : bits .or .u64 (y.bits : Int) (Z : Int) = (N : Int) := by
              rw [or_u64 _ _ (by omega) hZl, hZ, or_low _ _ _ hblt, ← hZ, ← hN]
            have hix := run_at22 (s + 2) y.n 64 y.dp y.dp rfl hlt
            have hne : ((y.dp : Int) == (y.n : Int)) = false := by rw [beq_eq_false_iff_ne]; omega
            have hlti : decide ((y.dp : Int) < (y.n : Int)) = true := decide_eq_true (by omega)
            go_wp2_with fail
            go_quiet (fail)
            go_wp2_with fail
            go_quiet (fail)
            go_wp2_with fail
            refine wp_region_last 23 (fun w' => w'.cell? ⟨s + 3, 2, none⟩ = some (.slice (some ⟨s + 2, 0, none⟩) y.n 64) ∧ w'.cell? ⟨s + 3, 3, none⟩ = some (.int .i64 y.dp) ∧ w'.cell? ⟨s + 3, 6, none⟩ = some (.int .u64 y.bits) ∧ w'.cell? ⟨s + 3, 7, none⟩ = some (.int .u64 y.nb) ∧ w'.frozen? ⟨s + 3, 6, none⟩ = false ∧ w'.cell? ⟨s + 2, y.dp, none⟩ = some (.int .u8 Y.toNat)) (by kernel_rfl) (by exact ⟨d2, d3, hd6, d7, z6, hby⟩) (fun hHeld => ?_)
            refine wpAnyL_takeDir (i := 0) (v := ?_) (by kernel_rfl) rfl (by kernel_rfl) (by kernel_rfl) (by kernel_rfl) (fun _ _ _ h => h) (Or.inl ⟨by rfl, ?_⟩) hHeld ?_
            rotate_left
            · (intro w hSw; (try dsimp only at hSw); simp only [List.getElem_toArray, List.getElem_cons_zero, List.getElem_cons_succ]; go_simp; try with_reducible rfl)
            simp only [List.getElem_toArray, List.getElem_cons_zero, List.getElem_cons_succ, Act.put, List.setIfInBounds_toArray, List.set_cons_zero, List.set_cons_succ]
            refine wpAnyL_takeDir (i := 1) (v := ?_) (by kernel_rfl) rfl (by kernel_rfl) (by kernel_rfl) (by kernel_rfl) (fun _ _ _ h => h) (Or.inl ⟨by rfl, ?_⟩) hHeld ?_
            rotate_left
            · (intro w hSw; (try dsimp only at hSw); simp only [List.getElem_toArray, List.getElem_cons_zero, List.getElem_cons_succ]; go_simp; try with_reducible rfl)
            simp only [List.getElem_toArray, List.getElem_cons_zero, List.getElem_cons_succ, Act.put, List.setIfInBounds_toArray, List.set_cons_zero, List.set_cons_succ]
            refine wpAnyL_takeDir (i := 2) (v := ?_) (by kernel_rfl) rfl (by kernel_rfl) (by kernel_rfl) (by kernel_rfl) (fun _ _ _ h => h) (Or.inl ⟨by rfl, ?_⟩) hHeld ?_
            rotate_left
            · (intro w hSw; (try dsimp only at hSw); simp only [List.getElem_toArray, List.getElem_cons_zero, List.getElem_cons_succ]; go_simp; try with_reducible rfl)
            simp only [List.getElem_toArray, List.getElem_cons_zero, List.getElem_cons_succ, Act.put, List.setIfInBounds_toArray, List.set_cons_zero, List.set_cons_succ]
            refine wpAnyL_takeDir (i := 3) (v := ?_) (by kernel_rfl) rfl (by kernel_rfl) (by kernel_rfl) (by kernel_rfl) (fun _ _ _ h => h) (Or.inl ⟨by rfl, ?_⟩) hHeld ?_
            rotate_left
            · (intro w hSw; (try dsimp only at hSw); simp only [List.getElem_toArray, List.getElem_cons_zero, List.getElem_cons_succ]; go_simp; try with_reducible rfl)
            simp only [List.getElem_toArray, List.getElem_cons_zero, List.getElem_cons_succ, Act.put, List.setIfInBounds_toArray, List.set_cons_zero, List.set_cons_succ]
            refine wpAnyL_takeDir (i := 4) (v := ?_) (by kernel_rfl) rfl (by kernel_rfl) (by kernel_rfl) (by kernel_rfl) (fun _ _ _ h => h) (Or.inl ⟨by rfl, ?_⟩) hHeld ?_
            rotate_left
            · (intro w hSw; (try dsimp only at hSw); simp only [List.getElem_toArray, List.getElem_cons_zero, List.getElem_cons_succ]; go_simp; try with_reducible rfl)
            simp only [List.getElem_toArray, List.getElem_cons_zero, List.getElem_cons_succ, Act.put, List.setIfInBounds_toArray, List.set_cons_zero, List.set_cons_succ]
            refine wpAnyL_takeDir (i := 5) (v := ?_) (by kernel_rfl) rfl (by kernel_rfl) (by kernel_rfl) (by kernel_rfl) (fun _ _ _ h => h) (Or.inl ⟨by rfl, ?_⟩) hHeld ?_
            rotate_left
            · (intro w hSw; (try dsimp only at hSw); simp only [List.getElem_toArray, List.getElem_cons_zero, List.getElem_cons_succ]; go_simp; try with_reducible rfl)
            simp only [List.getElem_toArray, List.getElem_cons_zero, List.getElem_cons_succ, Act.put, List.setIfInBounds_toArray, List.set_cons_zero, List.set_cons_succ]
            refine wpAnyL_takeDir (i := 6) (v := ?_) (by kernel_rfl) rfl (by kernel_rfl) (by kernel_rfl) (by kernel_rfl) (fun _ _ _ h => h) (Or.inl ⟨by rfl, ?_⟩) hHeld ?_
            rotate_left
            · (intro w hSw; (try dsimp only at hSw); simp only [List.getElem_toArray, List.getElem_cons_zero, List.getElem_cons_succ]; go_simp; try with_reducible rfl)
            simp only [List.getElem_toArray, List.getElem_cons_zero, List.getElem_cons_succ, Act.put, List.setIfInBounds_toArray, List.set_cons_zero, List.set_cons_succ]
            refine wpAnyL_takeDir (i := 7) (v := ?_) (by kernel_rfl) rfl (by kernel_rfl) (by kernel_rfl) (by kernel_rfl) (fun _ _ _ h => h) (Or.inl ⟨by rfl, ?_⟩) hHeld ?_
            rotate_left
            · (intro w hSw; (try dsimp only at hSw); simp only [List.getElem_toArray, List.getElem_cons_zero, List.getElem_cons_succ]; go_simp; try with_reducible rfl)
            simp only [List.getElem_toArray, List.getElem_cons_zero, List.getElem_cons_succ, Act.put, List.setIfInBounds_toArray, List.set_cons_zero, List.set_cons_succ]
            refine wpAnyL_takeDir (i := 8) (v := ?_) (by kernel_rfl) rfl (by kernel_rfl) (by kernel_rfl) (by kernel_rfl) (fun _ _ _ h => h) (Or.inl ⟨by rfl, ?_⟩) hHeld ?_
            rotate_left
            · (intro w hSw; (try dsimp only at hSw); simp only [List.getElem_toArray, List.getElem_cons_zero, List.getElem_cons_succ]; go_simp; try with_reducible rfl)
            simp only [List.getElem_toArray, List.getElem_cons_zero, List.getElem_cons_succ, Act.put, List.setIfInBounds_toArray, List.set_cons_zero, List.set_cons_succ]
            refine wpAnyL_takeDir (i := 9) (v := ?_) (by kernel_rfl) rfl (by kernel_rfl) (by kernel_rfl) (by kernel_rfl) (fun _ _ _ h => h) (Or.inl ⟨by rfl, ?_⟩) hHeld ?_
            rotate_left
            · (intro w hSw; (try dsimp only at hSw); simp only [List.getElem_toArray, List.getElem_cons_zero, List.getElem_cons_succ]; go_simp; try with_reducible rfl)
            simp only [List.getElem_toArray, List.getElem_cons_zero, List.getElem_cons_succ, Act.put, List.setIfInBounds_toArray, List.set_cons_zero, List.set_cons_succ]
            refine wpAnyL_takeDir (i := 10) (v := ?_) (by kernel_rfl) rfl (by kernel_rfl) (by kernel_rfl) (by kernel_rfl) (fun _ _ _ h => h) (Or.inl ⟨by rfl, ?_⟩) hHeld ?_
            rotate_left
            · (intro w hSw; (try dsimp only at hSw); simp only [List.getElem_toArray, List.getElem_cons_zero, List.getElem_cons_succ]; go_simp; try with_reducible rfl)
            simp only [List.getElem_toArray, List.getElem_cons_zero, List.getElem_cons_succ, Act.put, List.setIfInBounds_toArray, List.set_cons_zero, List.set_cons_succ]
            refine wpAnyL_takeDir (i := 11) (v := ?_) (by kernel_rfl) rfl (by kernel_rfl) (by kernel_rfl) (by kernel_rfl) (fun _ _ _ h => h) (Or.inl ⟨by rfl, ?_⟩) hHeld ?_
            rotate_left
            · (intro w hSw; (try dsimp only at hSw); simp only [List.getElem_toArray, List.getElem_cons_zero, List.getElem_cons_succ]; go_simp; try with_reducible rfl)
            simp only [List.getElem_toArray, List.getElem_cons_zero, List.getElem_cons_succ, Act.put, List.setIfInBounds_toArray, List.set_cons_zero, List.set_cons_succ]
            refine wpAnyL_takeDir (i := 12) (v := ?_) (by kernel_rfl) rfl (by kernel_rfl) (by kernel_rfl) (by kernel_rfl) (fun _ _ _ h => h) (Or.inl ⟨by rfl, ?_⟩) hHeld ?_
            rotate_left
            · (intro w hSw; (try dsimp only at hSw); simp only [List.getElem_toArray, List.getElem_cons_zero, List.getElem_cons_succ]; go_simp; try with_reducible rfl)
            simp only [List.getElem_toArray, List.getElem_cons_zero, List.getElem_cons_succ, Act.put, List.setIfInBounds_toArray, List.set_cons_zero, List.set_cons_succ]
            refine wpAnyL_takeDir (i := 13) (v := ?_) (by kernel_rfl) rfl (by kernel_rfl) (by kernel_rfl) (by kernel_rfl) (fun _ _ _ h => h) (Or.inl ⟨by rfl, ?_⟩) hHeld ?_
            rotate_left
            · (intro w hSw; (try dsimp only at hSw); simp only [List.getElem_toArray, List.getElem_cons_zero, List.getElem_cons_succ]; go_simp; try with_reducible rfl)
            simp only [List.getElem_toArray, List.getElem_cons_zero, List.getElem_cons_succ, Act.put, List.setIfInBounds_toArray, List.set_cons_zero, List.set_cons_succ]
            refine wpAnyL_takeDir (i := 14) (v := ?_) (by kernel_rfl) rfl (by kernel_rfl) (by kernel_rfl) (by kernel_rfl) (fun _ _ _ h => h) (Or.inl ⟨by rfl, ?_⟩) hHeld ?_
            rotate_left
            · (intro w hSw; (try dsimp only at hSw); simp only [List.getElem_toArray, List.getElem_cons_zero, List.getElem_cons_succ]; go_simp; try with_reducible rfl)
            simp only [List.getElem_toArray, List.getElem_cons_zero, List.getElem_cons_succ, Act.put, List.setIfInBounds_toArray, List.set_cons_zero, List.set_cons_succ]
            refine wpAnyL_takeDir (i := 15) (v := ?_) (by kernel_rfl) rfl (by kernel_rfl) (by kernel_rfl) (by kernel_rfl) (fun _ _ _ h => h) (Or.inl ⟨by rfl, ?_⟩) hHeld ?_
            rotate_left
            · (intro w hSw; (try dsimp only at hSw); simp only [List.getElem_toArray, List.getElem_cons_zero, List.getElem_cons_succ]; go_simp; try with_reducible rfl)
            simp only [List.getElem_toArray, List.getElem_cons_zero, List.getElem_cons_succ, Act.put, List.setIfInBounds_toArray, List.set_cons_zero, List.set_cons_succ]
            refine wpAnyL_takeDir (i := 16) (v := ?_) (by kernel_rfl) rfl (by kernel_rfl) (by kernel_rfl) (by kernel_rfl) (fun _ _ _ h => h) (Or.inl ⟨by rfl, ?_⟩) hHeld ?_
            rotate_left
            · (intro w hSw; (try dsimp only at hSw); simp only [List.getElem_toArray, List.getElem_cons_zero, List.getElem_cons_succ]; go_simp; try with_reducible rfl)
            simp only [List.getElem_toArray, List.getElem_cons_zero, List.getElem_cons_succ, Act.put, List.setIfInBounds_toArray, List.set_cons_zero, List.set_cons_succ]
            refine wpAnyL_takeDir (i := 17) (v := ?_) (by kernel_rfl) rfl (by kernel_rfl) (by kernel_rfl) (by kernel_rfl) (fun _ _ _ h => h) (Or.inl ⟨by rfl, ?_⟩) hHeld ?_
            rotate_left
            · (intro w hSw; (try dsimp only at hSw); simp only [List.getElem_toArray, List.getElem_cons_zero, List.getElem_cons_succ]; go_simp; try with_reducible rfl)
            simp only [List.getElem_toArray, List.getElem_cons_zero, List.getElem_cons_succ, Act.put, List.setIfInBounds_toArray, List.set_cons_zero, List.set_cons_succ]
            refine wpAnyL_takeDir (i := 18) (v := ?_) (by kernel_rfl) rfl (by kernel_rfl) (by kernel_rfl) (by kernel_rfl) (fun _ _ _ h => h) (Or.inl ⟨by rfl, ?_⟩) hHeld ?_
            rotate_left
            · (intro w hSw; (try dsimp only at hSw); simp only [List.getElem_toArray, List.getElem_cons_zero, List.getElem_cons_succ]; go_simp; try with_reducible rfl)
            simp only [List.getElem_toArray, List.getElem_cons_zero, List.getElem_cons_succ, Act.put, List.setIfInBounds_toArray, List.set_cons_zero, List.set_cons_succ]
            refine wpAnyL_takeDir (i := 19) (v := ?_) (by kernel_rfl) rfl (by kernel_rfl) (by kernel_rfl) (by kernel_rfl) (fun _ _ _ h => h) (Or.inl ⟨by rfl, ?_⟩) hHeld ?_
            rotate_left
            · (intro w hSw; (try dsimp only at hSw); simp only [List.getElem_toArray, List.getElem_cons_zero, List.getElem_cons_succ]; go_simp; try with_reducible rfl)
            simp only [List.getElem_toArray, List.getElem_cons_zero, List.getElem_cons_succ, Act.put, List.setIfInBounds_toArray, List.set_cons_zero, List.set_cons_succ]
            refine wpAnyL_takeDir (i := 20) (v := ?_) (by kernel_rfl) rfl (by kernel_rfl) (by kernel_rfl) (by kernel_rfl) (fun _ _ _ h => h) (Or.inl ⟨by rfl, ?_⟩) hHeld ?_
            rotate_left
            · (intro w hSw; (try dsimp only at hSw); simp only [List.getElem_toArray, List.getElem_cons_zero, List.getElem_cons_succ]; go_simp; try with_reducible rfl)
            simp only [List.getElem_toArray, List.getElem_cons_zero, List.getElem_cons_succ, Act.put, List.setIfInBounds_toArray, List.set_cons_zero, List.set_cons_succ]
            refine wpAnyL_takeBy 22 (by kernel_rfl) (i := 21) (v := ?_) (by kernel_rfl) (by kernel_rfl) rfl (by kernel_rfl) (by kernel_rfl) (by kernel_rfl) (fun _ _ _ h => h) (Or.inl ⟨by rfl, ?_⟩) hHeld ?_
            rotate_left
            · (intro w hSw; (try dsimp only at hSw); simp only [List.getElem_toArray, List.getElem_cons_zero, List.getElem_cons_succ]; go_simp; try with_reducible rfl)
            simp only [List.getElem_toArray, List.getElem_cons_zero, List.getElem_cons_succ, Act.put, List.setIfInBounds_toArray, List.set_cons_zero, List.set_cons_succ]
            refine wpAnyL_takeDir (i := 22) (v := ?_) (by kernel_rfl) rfl (by kernel_rfl) (by kernel_rfl) (by kernel_rfl) (fun _ _ _ h => h) (Or.inl ⟨by rfl, ?_⟩) hHeld ?_
            rotate_left
            · (intro w hSw; (try dsimp only at hSw); simp only [List.getElem_toArray, List.getElem_cons_zero, List.getElem_cons_succ]; go_simp; try with_reducible rfl)
            simp only [List.getElem_toArray, List.getElem_cons_zero, List.getElem_cons_succ, Act.put, List.setIfInBounds_toArray, List.set_cons_zero, List.set_cons_succ]
            refine wpAnyL_end (by kernel_rfl) rfl rfl (by kernel_rfl) (fun K hK => ?_)
            simp only [List.getElem_toArray, List.getElem_cons_zero, List.getElem_cons_succ]
            go_simp
            refine hK.out _ _ ?_
            clear hK K hHeld
            have hn23 := I.n23
            go_wp2_with fail
            have hbits : bits .or .u64 (y.bits : Int) ((Y.toNat : Int) * 2 ^ y.nb) = (N : Int) := by
              rw [← hor, hZ]
              congr 1
            rw [hbits]
            have HF := fun k => byte_at A k N
            have hI := I.byte (N := N) hlt hY (by rw [hN, hZ])
            refine ⟨⟨_, (HF _).1, hI, B.trans (HF _).2, by show y.nb + 8 ≤ 64; omega⟩, ?_⟩
            rw [goes_at (HF _).1, goes_at A]
            show 64 - (y.nb + 8) + (src.length - y.rp) + (1 - if y.eof then 1 else 0) < _
            omega
        · have hend : ¬ (y.nb : Int) ≤ 56 := by omega
          have hw8 : IntKind.u64.wrap (8 * (y.pd : Int)) = 8 * (y.pd : Int) := by rw [IntKind.wrap_u64]; omega
          have hun := hE1.une
          by_cases hp : y.nb < 8 * y.pd
          · have hp' : decide ((y.nb : Int) < 8 * (y.pd : Int)) = true := decide_eq_true (by omega)
            go_wp2_with fail
            go_quiet (fail)
            go_wp2_with fail
            go_ret
            exact ⟨y, A.of_heap rfl, I, by omega, hnb, ⟨B.os, B.tape, B.output, B.size, B.block⟩, by rw [if_pos hp]; rfl⟩
          · have hp' : decide ((y.nb : Int) < 8 * (y.pd : Int)) = false := decide_eq_false (by omega)
            go_wp2_with fail
            go_quiet (fail)
            go_wp2_with fail
            go_ret
            exact ⟨y, A.of_heap rfl, I, by omega, hnb, ⟨B.os, B.tape, B.output, B.size, B.block⟩, by rw [if_neg hp]; rfl⟩
    · rw [he] at d4
      have hnb1 := hnb
      go_enter Ybad.func7, Ybad.ntmps7
      go_wp2_with fail
      go_quiet (fail)
      go_wp2_with fail
      have A1 : At s (w.drewN nq) src ch x := A.of_heap rfl
      have I1 := I
      have B1 : Below s w (w.drewN nq) := ⟨rfl, rfl, rfl, Nat.le_refl _, fun _ _ => rfl⟩
      clear A I d2 d3 d4 hw8 h8' hnb
      generalize x = y at *
      go_loopw [] (fun wr => ∃ y, At s wr src ch y ∧ Inv src con y ∧ Below s w wr ∧ y.nb ≤ 64) (fun wr => goes s src.length wr)
      case atStart => exact ⟨y, A1, I1, B1, hnb1⟩
      case round =>
        obtain ⟨y, A, I, B, hnb⟩ := hrel
        have d2 := A.d2
        have d3 := A.d3
        have d4 := A.d4
        have d7 := A.d7
        have d8 := A.d8
        have hE1 := hE.below B
        have hsum := I.buf.sum
        have hdn := I.dn
        by_cases h56 : y.nb ≤ 56
        · by_cases hend : y.dp = y.n
          · cases he : y.eof
            · rw [he] at d4
              rw [hend] at d3
              go_wp2_with fail
              go_quiet (fail)
              go_wp2_with fail
              refine (input_any s src ch con y (wr.drewN nq) (A.of_heap rfl) I hl hch0 hch (by omega) a b (hE1.below ⟨rfl, rfl, rfl, Nat.le_refl _, fun _ _ => rfl⟩)).mono ?_
              rintro e w2 ⟨rfl, A2, B2⟩
              have I2 := I.more (by omega) he hch0 hch
              have B3 : Below s w w2 := B.trans ⟨B2.os, B2.tape, B2.output, B2.size, B2.block⟩
              go_wp2_with fail
              go_roundw
              case rel => exact ⟨_, A2, I2, B3, by unfold more; split <;> exact hnb⟩
              case measure =>
                rw [goes_at A2, goes_at A]
                exact more_less y he (by omega) hch0 (by omega)
            · rw [he] at d4
              rw [hend] at d3
              have hw7 : IntKind.u64.wrap ((y.nb : Int) + 8) = ((y.nb + 8 : Nat) : Int) := by rw [IntKind.wrap_u64]; omega
              have hw8 : IntKind.u64.wrap ((y.pd : Int) + 1) = ((y.pd + 1 : Nat) : Int) := by rw [IntKind.wrap_u64]; omega
              have z7 := A.z 7
              have z8 := A.z 8
              have HF := fun k => nought_at A k
              have hI := I.nought hend he
              have HA : Hid (At s wr src ch y) := A
              clear A
              go_wp2_with fail
              go_quiet (fail)
              go_wp2_with fail
              go_quiet (fail)
              go_wp2_with fail
              refine ⟨⟨_, (HF _).1, hI, B.trans (HF _).2, by show y.nb + 8 ≤ 64; omega⟩, ?_⟩
              rw [goes_at (HF _).1, goes_at HA.out]
              show 64 - (y.nb + 8) + (src.length - y.rp) + (1 - if y.eof then 1 else 0) < _
              omega
          · have hlt : y.dp < y.n := by omega
            have hd6 := A.d6
            have z3 := A.z 3
            have z6 := A.z 6
            have z7 := A.z 7
            have hbl := A.bl
            obtain ⟨Y, hY⟩ : ∃ Y, y.bf[y.dp]? = some Y := ⟨y.bf[y.dp]'(by have := I.n23; omega), List.getElem?_eq_getElem _⟩
            have hby : wr.cell? ⟨s + 2, y.dp, none⟩ = some (.int .u8 Y.toNat) := cell_at A.buf (by simp [bvl, List.getElem?_map, hY])
            have hYl := Y.toNat_lt
            obtain ⟨Z, hZ⟩ : ∃ Z, Z = Y.toNat * 2 ^ y.nb := ⟨_, rfl⟩
            have hblt := I.buf.lt
            have hp56 : (2 : Nat) ^ y.nb ≤ 2 ^ 56 := Nat.pow_le_pow_right (by omega) h56
            have hZl : Z < 2 ^ 64 := by
              rw [hZ]
              have := Nat.mul_le_mul (Nat.le_of_lt_succ hYl) hp56
              omega
            have hsh : IntKind.u64.wrap ((Y.toNat : Int) * 2 ^ y.nb) = (Z : Int) := by
              rw [show ((Y.toNat : Int) * 2 ^ y.nb) = ((Y.toNat * 2 ^ y.nb : Nat) : Int) by push_cast; rfl, ← hZ, IntKind.wrap_u64]
              omega
            obtain ⟨N, hN⟩ : ∃ N, N = y.bits + Z := ⟨_, rfl⟩
            have hor : bits .or .u64 (y.bits : Int) (Z : Int) = (N : Int) := by
              rw [or_u64 _ _ (by omega) hZl, hZ, or_low _ _ _ hblt, ← hZ, ← hN]
            have hix := run_at22 (s + 2) y.n 64 y.dp y.dp rfl hlt
            have hne : ((y.dp : Int) == (y.n : Int)) = false := by rw [beq_eq_false_iff_ne]; omega
            have hlti : decide ((y.dp : Int) < (y.n : Int)) = true := decide_eq_true (by omega)
            go_wp2_with fail
            go_quiet (fail)
            go_wp2_with fail
            go_quiet (fail)
            go_wp2_with fail
            refine wp_region_last 23 (fun w' => w'.cell? ⟨s + 3, 2, none⟩ = some (.slice (some ⟨s + 2, 0, none⟩) y.n 64) ∧ w'.cell? ⟨s + 3, 3, none⟩ = some (.int .i64 y.dp) ∧ w'.cell? ⟨s + 3, 6, none⟩ = some (.int .u64 y.bits) ∧ w'.cell? ⟨s + 3, 7, none⟩ = some (.int .u64 y.nb) ∧ w'.frozen? ⟨s + 3, 6, none⟩ = false ∧ w'.cell? ⟨s + 2, y.dp, none⟩ = some (.int .u8 Y.toNat)) (by kernel_rfl) (by exact ⟨d2, d3, hd6, d7, z6, hby⟩) (fun hHeld => ?_)
            refine wpAnyL_takeDir (i := 0) (v := ?_) (by kernel_rfl) rfl (by kernel_rfl) (by kernel_rfl) (by kernel_rfl) (fun _ _ _ h => h) (Or.inl ⟨by rfl, ?_⟩) hHeld ?_
            rotate_left
            · (intro w hSw; (try dsimp only at hSw); simp only [List.getElem_toArray, List.getElem_cons_zero, List.getElem_cons_succ]; go_simp; try with_reducible rfl)
            simp only [List.getElem_toArray, List.getElem_cons_zero, List.getElem_cons_succ, Act.put, List.setIfInBounds_toArray, List.set_cons_zero, List.set_cons_succ]
            refine wpAnyL_takeDir (i := 1) (v := ?_) (by kernel_rfl) rfl (by kernel_rfl) (by kernel_rfl) (by kernel_rfl) (fun _ _ _ h => h) (Or.inl ⟨by rfl, ?_⟩) hHeld ?_
            rotate_left
            · (intro w hSw; (try dsimp only at hSw); simp only [List.getElem_toArray, List.getElem_cons_zero, List.getElem_cons_succ]; go_simp; try with_reducible rfl)
            simp only [List.getElem_toArray, List.getElem_cons_zero, List.getElem_cons_succ, Act.put, List.setIfInBounds_toArray, List.set_cons_zero, List.set_cons_succ]
            refine wpAnyL_takeDir (i := 2) (v := ?_) (by kernel_rfl) rfl (by kernel_rfl) (by kernel_rfl) (by kernel_rfl) (fun _ _ _ h => h) (Or.inl ⟨by rfl, ?_⟩) hHeld ?_
            rotate_left
            · (intro w hSw; (try dsimp only at hSw); simp only [List.getElem_toArray, List.getElem_cons_zero, List.getElem_cons_succ]; go_simp; try with_reducible rfl)
            simp only [List.getElem_toArray, List.getElem_cons_zero, List.getElem_cons_succ, Act.put, List.setIfInBounds_toArray, List.set_cons_zero, List.set_cons_succ]
            refine wpAnyL_takeDir (i := 3) (v := ?_) (by kernel_rfl) rfl (by kernel_rfl) (by kernel_rfl) (by kernel_rfl) (fun _ _ _ h => h) (Or.inl ⟨by rfl, ?_⟩) hHeld ?_
            rotate_left
            · (intro w hSw; (try dsimp only at hSw); simp only [List.getElem_toArray, List.getElem_cons_zero, List.getElem_cons_succ]; go_simp; try with_reducible rfl)
            simp only [List.getElem_toArray, List.getElem_cons_zero, List.getElem_cons_succ, Act.put, List.setIfInBounds_toArray, List.set_cons_zero, List.set_cons_succ]
            refine wpAnyL_takeDir (i := 4) (v := ?_) (by kernel_rfl) rfl (by kernel_rfl) (by kernel_rfl) (by kernel_rfl) (fun _ _ _ h => h) (Or.inl ⟨by rfl, ?_⟩) hHeld ?_
            rotate_left
            · (intro w hSw; (try dsimp only at hSw); simp only [List.getElem_toArray, List.getElem_cons_zero, List.getElem_cons_succ]; go_simp; try with_reducible rfl)
            simp only [List.getElem_toArray, List.getElem_cons_zero, List.getElem_cons_succ, Act.put, List.setIfInBounds_toArray, List.set_cons_zero, List.set_cons_succ]
            refine wpAnyL_takeDir (i := 5) (v := ?_) (by kernel_rfl) rfl (by kernel_rfl) (by kernel_rfl) (by kernel_rfl) (fun _ _ _ h => h) (Or.inl ⟨by rfl, ?_⟩) hHeld ?_
            rotate_left
            · (intro w hSw; (try dsimp only at hSw); simp only [List.getElem_toArray, List.getElem_cons_zero, List.getElem_cons_succ]; go_simp; try with_reducible rfl)
            simp only [List.getElem_toArray, List.getElem_cons_zero, List.getElem_cons_succ, Act.put, List.setIfInBounds_toArray, List.set_cons_zero, List.set_cons_succ]
            refine wpAnyL_takeDir (i := 6) (v := ?_) (by kernel_rfl) rfl (by kernel_rfl) (by kernel_rfl) (by kernel_rfl) (fun _ _ _ h => h) (Or.inl ⟨by rfl, ?_⟩) hHeld ?_
            rotate_left
            · (intro w hSw; (try dsimp only at hSw); simp only [List.getElem_toArray, List.getElem_cons_zero, List.getElem_cons_succ]; go_simp; try with_reducible rfl)
            simp only [List.getElem_toArray, List.getElem_cons_zero, List.getElem_cons_succ, Act.put, List.setIfInBounds_toArray, List.set_cons_zero, List.set_cons_succ]
            refine wpAnyL_takeDir (i := 7) (v := ?_) (by kernel_rfl) rfl (by kernel_rfl) (by kernel_rfl) (by kernel_rfl) (fun _ _ _ h => h) (Or.inl ⟨by rfl, ?_⟩) hHeld ?_
            rotate_left
            · (intro w hSw; (try dsimp only at hSw); simp only [List.getElem_toArray, List.getElem_cons_zero, List.getElem_cons_succ]; go_simp; try with_reducible rfl)
            simp only [List.getElem_toArray, List.getElem_cons_zero, List.getElem_cons_succ, Act.put, List.setIfInBounds_toArray, List.set_cons_zero, List.set_cons_succ]
            refine wpAnyL_takeDir (i := 8) (v := ?_) (by kernel_rfl) rfl (by kernel_rfl) (by kernel_rfl) (by kernel_rfl) (fun _ _ _ h => h) (Or.inl ⟨by rfl, ?_⟩) hHeld ?_
            rotate_left
            · (intro w hSw; (try dsimp only at hSw); simp only [List.getElem_toArray, List.getElem_cons_zero, List.getElem_cons_succ]; go_simp; try with_reducible rfl)
            simp only [List.getElem_toArray, List.getElem_cons_zero, List.getElem_cons_succ, Act.put, List.setIfInBounds_toArray, List.set_cons_zero, List.set_cons_succ]
            refine wpAnyL_takeDir (i := 9) (v := ?_) (by kernel_rfl) rfl (by kernel_rfl) (by kernel_rfl) (by kernel_rfl) (fun _ _ _ h => h) (Or.inl ⟨by rfl, ?_⟩) hHeld ?_
            rotate_left
            · (intro w hSw; (try dsimp only at hSw); simp only [List.getElem_toArray, List.getElem_cons_zero, List.getElem_cons_succ]; go_simp; try with_reducible rfl)
            simp only [List.getElem_toArray, List.getElem_cons_zero, List.getElem_cons_succ, Act.put, List.setIfInBounds_toArray, List.set_cons_zero, List.set_cons_succ]
            refine wpAnyL_takeDir (i := 10) (v := ?_) (by kernel_rfl) rfl (by kernel_rfl) (by kernel_rfl) (by kernel_rfl) (fun _ _ _ h => h) (Or.inl ⟨by rfl, ?_⟩) hHeld ?_
            rotate_left
            · (intro w hSw; (try dsimp only at hSw); simp only [List.getElem_toArray, List.getElem_cons_zero, List.getElem_cons_succ]; go_simp; try with_reducible rfl)
            simp only [List.getElem_toArray, List.getElem_cons_zero, List.getElem_cons_succ, Act.put, List.setIfInBounds_toArray, List.set_cons_zero, List.set_cons_succ]
            refine wpAnyL_takeDir (i := 11) (v := ?_) (by kernel_rfl) rfl (by kernel_rfl) (by kernel_rfl) (by kernel_rfl) (fun _ _ _ h => h) (Or.inl ⟨by rfl, ?_⟩) hHeld ?_
            rotate_left
            · (intro w hSw; (try dsimp only at hSw); simp only [List.getElem_toArray, List.getElem_cons_zero, List.getElem_cons_succ]; go_simp; try with_reducible rfl)
            simp only [List.getElem_toArray, List.getElem_cons_zero, List.getElem_cons_succ, Act.put, List.setIfInBounds_toArray, List.set_cons_zero, List.set_cons_succ]
            refine wpAnyL_takeDir (i := 12) (v := ?_) (by kernel_rfl) rfl (by kernel_rfl) (by kernel_rfl) (by kernel_rfl) (fun _ _ _ h => h) (Or.inl ⟨by rfl, ?_⟩) hHeld ?_
            rotate_left
            · (intro w hSw; (try dsimp only at hSw); simp only [List.getElem_toArray, List.getElem_cons_zero, List.getElem_cons_succ]; go_simp; try with_reducible rfl)
            simp only [List.getElem_toArray, List.getElem_cons_zero, List.getElem_cons_succ, Act.put, List.setIfInBounds_toArray, List.set_cons_zero, List.set_cons_succ]
            refine wpAnyL_takeDir (i := 13) (v := ?_) (by kernel_rfl) rfl (by kernel_rfl) (by kernel_rfl) (by kernel_rfl) (fun _ _ _ h => h) (Or.inl ⟨by rfl, ?_⟩) hHeld ?_
            rotate_left
            · (intro w hSw; (try dsimp only at hSw); simp only [List.getElem_toArray, List.getElem_cons_zero, List.getElem_cons_succ]; go_simp; try with_reducible rfl)
            simp only [List.getElem_toArray, List.getElem_cons_zero, List.getElem_cons_succ, Act.put, List.setIfInBounds_toArray, List.set_cons_zero, List.set_cons_succ]
            refine wpAnyL_takeDir (i := 14) (v := ?_) (by kernel_rfl) rfl (by kernel_rfl) (by kernel_rfl) (by kernel_rfl) (fun _ _ _ h => h) (Or.inl ⟨by rfl, ?_⟩) hHeld ?_
            rotate_left
            · (intro w hSw; (try dsimp only at hSw); simp only [List.getElem_toArray, List.getElem_cons_zero, List.getElem_cons_succ]; go_simp; try with_reducible rfl)
            simp only [List.getElem_toArray, List.getElem_cons_zero, List.getElem_cons_succ, Act.put, List.setIfInBounds_toArray, List.set_cons_zero, List.set_cons_succ]
            refine wpAnyL_takeDir (i := 15) (v := ?_) (by kernel_rfl) rfl (by kernel_rfl) (by kernel_rfl) (by kernel_rfl) (fun _ _ _ h => h) (Or.inl ⟨by rfl, ?_⟩) hHeld ?_
            rotate_left
            · (intro w hSw; (try dsimp only at hSw); simp only [List.getElem_toArray, List.getElem_cons_zero, List.getElem_cons_succ]; go_simp; try with_reducible rfl)
            simp only [List.getElem_toArray, List.getElem_cons_zero, List.getElem_cons_succ, Act.put, List.setIfInBounds_toArray, List.set_cons_zero, List.set_cons_succ]
            refine wpAnyL_takeDir (i := 16) (v := ?_) (by kernel_rfl) rfl (by kernel_rfl) (by kernel_rfl) (by kernel_rfl) (fun _ _ _ h => h) (Or.inl ⟨by rfl, ?_⟩) hHeld ?_
            rotate_left
            · (intro w hSw; (try dsimp only at hSw); simp only [List.getElem_toArray, List.getElem_cons_zero, List.getElem_cons_succ]; go_simp; try with_reducible rfl)
            simp only [List.getElem_toArray, List.getElem_cons_zero, List.getElem_cons_succ, Act.put, List.setIfInBounds_toArray, List.set_cons_zero, List.set_cons_succ]
            refine wpAnyL_takeDir (i := 17) (v := ?_) (by kernel_rfl) rfl (by kernel_rfl) (by kernel_rfl) (by kernel_rfl) (fun _ _ _ h => h) (Or.inl ⟨by rfl, ?_⟩) hHeld ?_
            rotate_left
            · (intro w hSw; (try dsimp only at hSw); simp only [List.getElem_toArray, List.getElem_cons_zero, List.getElem_cons_succ]; go_simp; try with_reducible rfl)
            simp only [List.getElem_toArray, List.getElem_cons_zero, List.getElem_cons_succ, Act.put, List.setIfInBounds_toArray, List.set_cons_zero, List.set_cons_succ]
            refine wpAnyL_takeDir (i := 18) (v := ?_) (by kernel_rfl) rfl (by kernel_rfl) (by kernel_rfl) (by kernel_rfl) (fun _ _ _ h => h) (Or.inl ⟨by rfl, ?_⟩) hHeld ?_
            rotate_left
            · (intro w hSw; (try dsimp only at hSw); simp only [List.getElem_toArray, List.getElem_cons_zero, List.getElem_cons_succ]; go_simp; try with_reducible rfl)
            simp only [List.getElem_toArray, List.getElem_cons_zero, List.getElem_cons_succ, Act.put, List.setIfInBounds_toArray, List.set_cons_zero, List.set_cons_succ]
            refine wpAnyL_takeDir (i := 19) (v := ?_) (by kernel_rfl) rfl (by kernel_rfl) (by kernel_rfl) (by kernel_rfl) (fun _ _ _ h => h) (Or.inl ⟨by rfl, ?_⟩) hHeld ?_
            rotate_left
            · (intro w hSw; (try dsimp only at hSw); simp only [List.getElem_toArray, List.getElem_cons_zero, List.getElem_cons_succ]; go_simp; try with_reducible rfl)
            simp only [List.getElem_toArray, List.getElem_cons_zero, List.getElem_cons_succ, Act.put, List.setIfInBounds_toArray, List.set_cons_zero, List.set_cons_succ]
            refine wpAnyL_takeDir (i := 20) (v := ?_) (by kernel_rfl) rfl (by kernel_rfl) (by kernel_rfl) (by kernel_rfl) (fun _ _ _ h => h) (Or.inl ⟨by rfl, ?_⟩) hHeld ?_
            rotate_left
            · (intro w hSw; (try dsimp only at hSw); simp only [List.getElem_toArray, List.getElem_cons_zero, List.getElem_cons_succ]; go_simp; try with_reducible rfl)
            simp only [List.getElem_toArray, List.getElem_cons_zero, List.getElem_cons_succ, Act.put, List.setIfInBounds_toArray, List.set_cons_zero, List.set_cons_succ]
            refine wpAnyL_takeBy 22 (by kernel_rfl) (i := 21) (v := ?_) (by kernel_rfl) (by kernel_rfl) rfl (by kernel_rfl) (by kernel_rfl) (by kernel_rfl) (fun _ _ _ h => h) (Or.inl ⟨by rfl, ?_⟩) hHeld ?_
            rotate_left
            · (intro w hSw; (try dsimp only at hSw); simp only [List.getElem_toArray, List.getElem_cons_zero, List.getElem_cons_succ]; go_simp; try with_reducible rfl)
            simp only [List.getElem_toArray, List.getElem_cons_zero, List.getElem_cons_succ, Act.put, List.setIfInBounds_toArray, List.set_cons_zero, List.set_cons_succ]
            refine wpAnyL_takeDir (i := 22) (v := ?_) (by kernel_rfl) rfl (by kernel_rfl) (by kernel_rfl) (by kernel_rfl) (fun _ _ _ h => h) (Or.inl ⟨by rfl, ?_⟩) hHeld ?_
            rotate_left
            · (intro w hSw; (try dsimp only at hSw); simp only [List.getElem_toArray, List.getElem_cons_zero, List.getElem_cons_succ]; go_simp; try with_reducible rfl)
            simp only [List.getElem_toArray, List.getElem_cons_zero, List.getElem_cons_succ, Act.put, List.setIfInBounds_toArray, List.set_cons_zero, List.set_cons_succ]
            refine wpAnyL_end (by kernel_rfl) rfl rfl (by kernel_rfl) (fun K hK => ?_)
            simp only [List.getElem_toArray, List.getElem_cons_zero, List.getElem_cons_succ]
            go_simp
            refine hK.out _ _ ?_
            clear hK K hHeld
            have hn23 := I.n23
            go_wp2_with fail
            have hbits : bits .or .u64 (y.bits : Int) ((Y.toNat : Int) * 2 ^ y.nb) = (N : Int) := by
              rw [← hor, hZ]
              congr 1
            rw [hbits]
            have HF := fun k => byte_at A k N
            have hI := I.byte (N := N) hlt hY (by rw [hN, hZ])
            refine ⟨⟨_, (HF _).1, hI, B.trans (HF _).2, by show y.nb + 8 ≤ 64; omega⟩, ?_⟩
            rw [goes_at (HF _).1, goes_at A]
            show 64 - (y.nb + 8) + (src.length - y.rp) + (1 - if y.eof then 1 else 0) < _
            omega
        · have hend : ¬ (y.nb : Int) ≤ 56 := by omega
          have hw8 : IntKind.u64.wrap (8 * (y.pd : Int)) = 8 * (y.pd : Int) := by rw [IntKind.wrap_u64]; omega
          have hun := hE1.une
          by_cases hp : y.nb < 8 * y.pd
          · have hp' : decide ((y.nb : Int) < 8 * (y.pd : Int)) = true := decide_eq_true (by omega)
            go_wp2_with fail
            go_quiet (fail)
            go_wp2_with fail
            go_ret
            exact ⟨y, A.of_heap rfl, I, by omega, hnb, ⟨B.os, B.tape, B.output, B.size, B.block⟩, by rw [if_pos hp]; rfl⟩
          · have hp' : decide ((y.nb : Int) < 8 * (y.pd : Int)) = false := decide_eq_false (by omega)
            go_wp2_with fail
            go_quiet (fail)
            go_wp2_with fail
            go_ret
            exact ⟨y, A.of_heap rfl, I, by omega, hnb, ⟨B.os, B.tape, B.output, B.size, B.block⟩, by rw [if_neg hp]; rfl⟩
  · have h8' : decide ((x.n : Int) - x.dp < 8) = false := decide_eq_false (by omega)
    have hnb1 := hnb
    go_enter Ybad.func7, Ybad.ntmps7
    go_wp2_with fail
    go_quiet (fail)
    go_wp2_with fail
    have A1 : At s (w.drewN nq) src ch x := A.of_heap rfl
    have I1 := I
    have B1 : Below s w (w.drewN nq) := ⟨rfl, rfl, rfl, Nat.le_refl _, fun _ _ => rfl⟩
    clear A I d2 d3 d4 hw8 h8' hnb
    generalize x = y at *
    go_loopw [] (fun wr => ∃ y, At s wr src ch y ∧ Inv src con y ∧ Below s w wr ∧ y.nb ≤ 64) (fun wr => goes s src.length wr)
    case atStart => exact ⟨y, A1, I1, B1, hnb1⟩
    case round =>
      obtain ⟨y, A, I, B, hnb⟩ := hrel
      have d2 := A.d2
      have d3 := A.d3
      have d4 := A.d4
      have d7 := A.d7
      have d8 := A.d8
      have hE1 := hE.below B
      have hsum := I.buf.sum
      have hdn := I.dn
      by_cases h56 : y.nb ≤ 56
      · by_cases hend : y.dp = y.n
        · cases he : y.eof
          · rw [he] at d4
            rw [hend] at d3
            go_wp2_with fail
            go_quiet (fail)
            go_wp2_with fail
            refine (input_any s src ch con y (wr.drewN nq) (A.of_heap rfl) I hl hch0 hch (by omega) a b (hE1.below ⟨rfl, rfl, rfl, Nat.le_refl _, fun _ _ => rfl⟩)).mono ?_
            rintro e w2 ⟨rfl, A2, B2⟩
            have I2 := I.more (by omega) he hch0 hch
            have B3 : Below s w w2 := B.trans ⟨B2.os, B2.tape, B2.output, B2.size, B2.block⟩
            go_wp2_with fail
            go_roundw
            case rel => exact ⟨_, A2, I2, B3, by unfold more; split <;> exact hnb⟩
            case measure =>
              rw [goes_at A2, goes_at A]
              exact more_less y he (by omega) hch0 (by omega)
          · rw [he] at d4
            rw [hend] at d3
            have hw7 : IntKind.u64.wrap ((y.nb : Int) + 8) = ((y.nb + 8 : Nat) : Int) := by rw [IntKind.wrap_u64]; omega
            have hw8 : IntKind.u64.wrap ((y.pd : Int) + 1) = ((y.pd + 1 : Nat) : Int) := by rw [IntKind.wrap_u64]; omega
            have z7 := A.z 7
            have z8 := A.z 8
            have HF := fun k => nought_at A k
            have hI := I.nought hend he
            have HA : Hid (At s wr src ch y) := A
            clear A
            go_wp2_with fail
            go_quiet (fail)
            go_wp2_with fail
            go_quiet (fail)
            go_wp2_with fail
            refine ⟨⟨_, (HF _).1, hI, B.trans (HF _).2, by show y.nb + 8 ≤ 64; omega⟩, ?_⟩
            rw [goes_at (HF _).1, goes_at HA.out]
            show 64 - (y.nb + 8) + (src.length - y.rp) + (1 - if y.eof then 1 else 0) < _
            omega
        · have hlt : y.dp < y.n := by omega
          have hd6 := A.d6
          have z3 := A.z 3
          have z6 := A.z 6
          have z7 := A.z 7
          have hbl := A.bl
          obtain ⟨Y, hY⟩ : ∃ Y, y.bf[y.dp]? = some Y := ⟨y.bf[y.dp]'(by have := I.n23; omega), List.getElem?_eq_getElem _⟩
          have hby : wr.cell? ⟨s + 2, y.dp, none⟩ = some (.int .u8 Y.toNat) := cell_at A.buf (by simp [bvl, List.getElem?_map, hY])
          have hYl := Y.toNat_lt
          obtain ⟨Z, hZ⟩ : ∃ Z, Z = Y.toNat * 2 ^ y.nb := ⟨_, rfl⟩
          have hblt := I.buf.lt
          have hp56 : (2 : Nat) ^ y.nb ≤ 2 ^ 56 := Nat.pow_le_pow_right (by omega) h56
          have hZl : Z < 2 ^ 64 := by
            rw [hZ]
            have := Nat.mul_le_mul (Nat.le_of_lt_succ hYl) hp56
            omega
          have hsh : IntKind.u64.wrap ((Y.toNat : Int) * 2 ^ y.nb) = (Z : Int) := by
            rw [show ((Y.toNat : Int) * 2 ^ y.nb) = ((Y.toNat * 2 ^ y.nb : Nat) : Int) by push_cast; rfl, ← hZ, IntKind.wrap_u64]
            omega
          obtain ⟨N, hN⟩ : ∃ N, N = y.bits + Z := ⟨_, rfl⟩
          have hor : bits .or .u64 (y.bits : Int) (Z : Int) = (N : Int) := by
            rw [or_u64 _ _ (by omega) hZl, hZ, or_low _ _ _ hblt, ← hZ, ← hN]
          have hix := run_at22 (s + 2) y.n 64 y.dp y.dp rfl hlt
          have hne : ((y.dp : Int) == (y.n : Int)) = false := by rw [beq_eq_false_iff_ne]; omega
          have hlti : decide ((y.dp : Int) < (y.n : Int)) = true := decide_eq_true (by omega)
          go_wp2_with fail
          go_quiet (fail)
          go_wp2_with fail
          go_quiet (fail)
          go_wp2_with fail
          refine wp_region_last 23 (fun w' => w'.cell? ⟨s + 3, 2, none⟩ = some (.slice (some ⟨s + 2, 0, none⟩) y.n 64) ∧ w'.cell? ⟨s + 3, 3, none⟩ = some (.int .i64 y.dp) ∧ w'.cell? ⟨s + 3, 6, none⟩ = some (.int .u64 y.bits) ∧ w'.cell? ⟨s + 3, 7, none⟩ = some (.int .u64 y.nb) ∧ w'.frozen? ⟨s + 3, 6, none⟩ = false ∧ w'.cell? ⟨s + 2, y.dp, none⟩ = some (.int .u8 Y.toNat)) (by kernel_rfl) (by exact ⟨d2, d3, hd6, d7, z6, hby⟩) (fun hHeld => ?_)
          refine wpAnyL_takeDir (i := 0) (v := ?_) (by kernel_rfl) rfl (by kernel_rfl) (by kernel_rfl) (by kernel_rfl) (fun _ _ _ h => h) (Or.inl ⟨by rfl, ?_⟩) hHeld ?_
          rotate_left
          · (intro w hSw; (try dsimp only at hSw); simp only [List.getElem_toArray, List.getElem_cons_zero, List.getElem_cons_succ]; go_simp; try with_reducible rfl)
          simp only [List.getElem_toArray, List.getElem_cons_zero, List.getElem_cons_succ, Act.put, List.setIfInBounds_toArray, List.set_cons_zero, List.set_cons_succ]
          refine wpAnyL_takeDir (i := 1) (v := ?_) (by kernel_rfl) rfl (by kernel_rfl) (by kernel_rfl) (by kernel_rfl) (fun _ _ _ h => h) (Or.inl ⟨by rfl, ?_⟩) hHeld ?_
          rotate_left
          · (intro w hSw; (try dsimp only at hSw); simp only [List.getElem_toArray, List.getElem_cons_zero, List.getElem_cons_succ]; go_simp; try with_reducible rfl)
          simp only [List.getElem_toArray, List.getElem_cons_zero, List.getElem_cons_succ, Act.put, List.setIfInBounds_toArray, List.set_cons_zero, List.set_cons_succ]
          refine wpAnyL_takeDir (i := 2) (v := ?_) (by kernel_rfl) rfl (by kernel_rfl) (by kernel_rfl) (by kernel_rfl) (fun _ _ _ h => h) (Or.inl ⟨by rfl, ?_⟩) hHeld ?_
          rotate_left
          · (intro w hSw; (try dsimp only at hSw); simp only [List.getElem_toArray, List.getElem_cons_zero, List.getElem_cons_succ]; go_simp; try with_reducible rfl)
          simp only [List.getElem_toArray, List.getElem_cons_zero, List.getElem_cons_succ, Act.put, List.setIfInBounds_toArray, List.set_cons_zero, List.set_cons_succ]
          refine wpAnyL_takeDir (i := 3) (v := ?_) (by kernel_rfl) rfl (by kernel_rfl) (by kernel_rfl) (by kernel_rfl) (fun _ _ _ h => h) (Or.inl ⟨by rfl, ?_⟩) hHeld ?_
          rotate_left
          · (intro w hSw; (try dsimp only at hSw); simp only [List.getElem_toArray, List.getElem_cons_zero, List.getElem_cons_succ]; go_simp; try with_reducible rfl)
          simp only [List.getElem_toArray, List.getElem_cons_zero, List.getElem_cons_succ, Act.put, List.setIfInBounds_toArray, List.set_cons_zero, List.set_cons_succ]
          refine wpAnyL_takeDir (i := 4) (v := ?_) (by kernel_rfl) rfl (by kernel_rfl) (by kernel_rfl) (by kernel_rfl) (fun _ _ _ h => h) (Or.inl ⟨by rfl, ?_⟩) hHeld ?_
          rotate_left
          · (intro w hSw; (try dsimp only at hSw); simp only [List.getElem_toArray, List.getElem_cons_zero, List.getElem_cons_succ]; go_simp; try with_reducible rfl)
          simp only [List.getElem_toArray, List.getElem_cons_zero, List.getElem_cons_succ, Act.put, List.setIfInBounds_toArray, List.set_cons_zero, List.set_cons_succ]
          refine wpAnyL_takeDir (i := 5) (v := ?_) (by kernel_rfl) rfl (by kernel_rfl) (by kernel_rfl) (by kernel_rfl) (fun _ _ _ h => h) (Or.inl ⟨by rfl, ?_⟩) hHeld ?_
          rotate_left
          · (intro w hSw; (try dsimp only at hSw); simp only [List.getElem_toArray, List.getElem_cons_zero, List.getElem_cons_succ]; go_simp; try with_reducible rfl)
          simp only [List.getElem_toArray, List.getElem_cons_zero, List.getElem_cons_succ, Act.put, List.setIfInBounds_toArray, List.set_cons_zero, List.set_cons_succ]
          refine wpAnyL_takeDir (i := 6) (v := ?_) (by kernel_rfl) rfl (by kernel_rfl) (by kernel_rfl) (by kernel_rfl) (fun _ _ _ h => h) (Or.inl ⟨by rfl, ?_⟩) hHeld ?_
          rotate_left
          · (intro w hSw; (try dsimp only at hSw); simp only [List.getElem_toArray, List.getElem_cons_zero, List.getElem_cons_succ]; go_simp; try with_reducible rfl)
          simp only [List.getElem_toArray, List.getElem_cons_zero, List.getElem_cons_succ, Act.put, List.setIfInBounds_toArray, List.set_cons_zero, List.set_cons_succ]
          refine wpAnyL_takeDir (i := 7) (v := ?_) (by kernel_rfl) rfl (by kernel_rfl) (by kernel_rfl) (by kernel_rfl) (fun _ _ _ h => h) (Or.inl ⟨by rfl, ?_⟩) hHeld ?_
          rotate_left
          · (intro w hSw; (try dsimp only at hSw); simp only [List.getElem_toArray, List.getElem_cons_zero, List.getElem_cons_succ]; go_simp; try with_reducible rfl)
          simp only [List.getElem_toArray, List.getElem_cons_zero, List.getElem_cons_succ, Act.put, List.setIfInBounds_toArray, List.set_cons_zero, List.set_cons_succ]
          refine wpAnyL_takeDir (i := 8) (v := ?_) (by kernel_rfl) rfl (by kernel_rfl) (by kernel_rfl) (by kernel_rfl) (fun _ _ _ h => h) (Or.inl ⟨by rfl, ?_⟩) hHeld ?_
          rotate_left
          · (intro w hSw; (try dsimp only at hSw); simp only [List.getElem_toArray, List.getElem_cons_zero, List.getElem_cons_succ]; go_simp; try with_reducible rfl)
          simp only [List.getElem_toArray, List.getElem_cons_zero, List.getElem_cons_succ, Act.put, List.setIfInBounds_toArray, List.set_cons_zero, List.set_cons_succ]
          refine wpAnyL_takeDir (i := 9) (v := ?_) (by kernel_rfl) rfl (by kernel_rfl) (by kernel_rfl) (by kernel_rfl) (fun _ _ _ h => h) (Or.inl ⟨by rfl, ?_⟩) hHeld ?_
          rotate_left
          · (intro w hSw; (try dsimp only at hSw); simp only [List.getElem_toArray, List.getElem_cons_zero, List.getElem_cons_succ]; go_simp; try with_reducible rfl)
          simp only [List.getElem_toArray, List.getElem_cons_zero, List.getElem_cons_succ, Act.put, List.setIfInBounds_toArray, List.set_cons_zero, List.set_cons_succ]
          refine wpAnyL_takeDir (i := 10) (v := ?_) (by kernel_rfl) rfl (by kernel_rfl) (by kernel_rfl) (by kernel_rfl) (fun _ _ _ h => h) (Or.inl ⟨by rfl, ?_⟩) hHeld ?_
          rotate_left
          · (intro w hSw; (try dsimp only at hSw); simp only [List.getElem_toArray, List.getElem_cons_zero, List.getElem_cons_succ]; go_simp; try with_reducible rfl)
          simp only [List.getElem_toArray, List.getElem_cons_zero, List.getElem_cons_succ, Act.put, List.setIfInBounds_toArray, List.set_cons_zero, List.set_cons_succ]
          refine wpAnyL_takeDir (i := 11) (v := ?_) (by kernel_rfl) rfl (by kernel_rfl) (by kernel_rfl) (by kernel_rfl) (fun _ _ _ h => h) (Or.inl ⟨by rfl, ?_⟩) hHeld ?_
          rotate_left
          · (intro w hSw; (try dsimp only at hSw); simp only [List.getElem_toArray, List.getElem_cons_zero, List.getElem_cons_succ]; go_simp; try with_reducible rfl)
          simp only [List.getElem_toArray, List.getElem_cons_zero, List.getElem_cons_succ, Act.put, List.setIfInBounds_toArray, List.set_cons_zero, List.set_cons_succ]
          refine wpAnyL_takeDir (i := 12) (v := ?_) (by kernel_rfl) rfl (by kernel_rfl) (by kernel_rfl) (by kernel_rfl) (fun _ _ _ h => h) (Or.inl ⟨by rfl, ?_⟩) hHeld ?_
          rotate_left
          · (intro w hSw; (try dsimp only at hSw); simp only [List.getElem_toArray, List.getElem_cons_zero, List.getElem_cons_succ]; go_simp; try with_reducible rfl)
          simp only [List.getElem_toArray, List.getElem_cons_zero, List.getElem_cons_succ, Act.put, List.setIfInBounds_toArray, List.set_cons_zero, List.set_cons_succ]
          refine wpAnyL_takeDir (i := 13) (v := ?_) (by kernel_rfl) rfl (by kernel_rfl) (by kernel_rfl) (by kernel_rfl) (fun _ _ _ h => h) (Or.inl ⟨by rfl, ?_⟩) hHeld ?_
          rotate_left
          · (intro w hSw; (try dsimp only at hSw); simp only [List.getElem_toArray, List.getElem_cons_zero, List.getElem_cons_succ]; go_simp; try with_reducible rfl)
          simp only [List.getElem_toArray, List.getElem_cons_zero, List.getElem_cons_succ, Act.put, List.setIfInBounds_toArray, List.set_cons_zero, List.set_cons_succ]
          refine wpAnyL_takeDir (i := 14) (v := ?_) (by kernel_rfl) rfl (by kernel_rfl) (by kernel_rfl) (by kernel_rfl) (fun _ _ _ h => h) (Or.inl ⟨by rfl, ?_⟩) hHeld ?_
          rotate_left
          · (intro w hSw; (try dsimp only at hSw); simp only [List.getElem_toArray, List.getElem_cons_zero, List.getElem_cons_succ]; go_simp; try with_reducible rfl)
          simp only [List.getElem_toArray, List.getElem_cons_zero, List.getElem_cons_succ, Act.put, List.setIfInBounds_toArray, List.set_cons_zero, List.set_cons_succ]
          refine wpAnyL_takeDir (i := 15) (v := ?_) (by kernel_rfl) rfl (by kernel_rfl) (by kernel_rfl) (by kernel_rfl) (fun _ _ _ h => h) (Or.inl ⟨by rfl, ?_⟩) hHeld ?_
          rotate_left
          · (intro w hSw; (try dsimp only at hSw); simp only [List.getElem_toArray, List.getElem_cons_zero, List.getElem_cons_succ]; go_simp; try with_reducible rfl)
          simp only [List.getElem_toArray, List.getElem_cons_zero, List.getElem_cons_succ, Act.put, List.setIfInBounds_toArray, List.set_cons_zero, List.set_cons_succ]
          refine wpAnyL_takeDir (i := 16) (v := ?_) (by kernel_rfl) rfl (by kernel_rfl) (by kernel_rfl) (by kernel_rfl) (fun _ _ _ h => h) (Or.inl ⟨by rfl, ?_⟩) hHeld ?_
          rotate_left
          · (intro w hSw; (try dsimp only at hSw); simp only [List.getElem_toArray, List.getElem_cons_zero, List.getElem_cons_succ]; go_simp; try with_reducible rfl)
          simp only [List.getElem_toArray, List.getElem_cons_zero, List.getElem_cons_succ, Act.put, List.setIfInBounds_toArray, List.set_cons_zero, List.set_cons_succ]
          refine wpAnyL_takeDir (i := 17) (v := ?_) (by kernel_rfl) rfl (by kernel_rfl) (by kernel_rfl) (by kernel_rfl) (fun _ _ _ h => h) (Or.inl ⟨by rfl, ?_⟩) hHeld ?_
          rotate_left
          · (intro w hSw; (try dsimp only at hSw); simp only [List.getElem_toArray, List.getElem_cons_zero, List.getElem_cons_succ]; go_simp; try with_reducible rfl)
          simp only [List.getElem_toArray, List.getElem_cons_zero, List.getElem_cons_succ, Act.put, List.setIfInBounds_toArray, List.set_cons_zero, List.set_cons_succ]
          refine wpAnyL_takeDir (i := 18) (v := ?_) (by kernel_rfl) rfl (by kernel_rfl) (by kernel_rfl) (by kernel_rfl) (fun _ _ _ h => h) (Or.inl ⟨by rfl, ?_⟩) hHeld ?_
          rotate_left
          · (intro w hSw; (try dsimp only at hSw); simp only [List.getElem_toArray, List.getElem_cons_zero, List.getElem_cons_succ]; go_simp; try with_reducible rfl)
          simp only [List.getElem_toArray, List.getElem_cons_zero, List.getElem_cons_succ, Act.put, List.setIfInBounds_toArray, List.set_cons_zero, List.set_cons_succ]
          refine wpAnyL_takeDir (i := 19) (v := ?_) (by kernel_rfl) rfl (by kernel_rfl) (by kernel_rfl) (by kernel_rfl) (fun _ _ _ h => h) (Or.inl ⟨by rfl, ?_⟩) hHeld ?_
          rotate_left
          · (intro w hSw; (try dsimp only at hSw); simp only [List.getElem_toArray, List.getElem_cons_zero, List.getElem_cons_succ]; go_simp; try with_reducible rfl)
          simp only [List.getElem_toArray, List.getElem_cons_zero, List.getElem_cons_succ, Act.put, List.setIfInBounds_toArray, List.set_cons_zero, List.set_cons_succ]
          refine wpAnyL_takeDir (i := 20) (v := ?_) (by kernel_rfl) rfl (by kernel_rfl) (by kernel_rfl) (by kernel_rfl) (fun _ _ _ h => h) (Or.inl ⟨by rfl, ?_⟩) hHeld ?_
          rotate_left
          · (intro w hSw; (try dsimp only at hSw); simp only [List.getElem_toArray, List.getElem_cons_zero, List.getElem_cons_succ]; go_simp; try with_reducible rfl)
          simp only [List.getElem_toArray, List.getElem_cons_zero, List.getElem_cons_succ, Act.put, List.setIfInBounds_toArray, List.set_cons_zero, List.set_cons_succ]
          refine wpAnyL_takeBy 22 (by kernel_rfl) (i := 21) (v := ?_) (by kernel_rfl) (by kernel_rfl) rfl (by kernel_rfl) (by kernel_rfl) (by kernel_rfl) (fun _ _ _ h => h) (Or.inl ⟨by rfl, ?_⟩) hHeld ?_
          rotate_left
          · (intro w hSw; (try dsimp only at hSw); simp only [List.getElem_toArray, List.getElem_cons_zero, List.getElem_cons_succ]; go_simp; try with_reducible rfl)
          simp only [List.getElem_toArray, List.getElem_cons_zero, List.getElem_cons_succ, Act.put, List.setIfInBounds_toArray, List.set_cons_zero, List.set_cons_succ]
          refine wpAnyL_takeDir (i := 22) (v := ?_) (by kernel_rfl) rfl (by kernel_rfl) (by kernel_rfl) (by kernel_rfl) (fun _ _ _ h => h) (Or.inl ⟨by rfl, ?_⟩) hHeld ?_
          rotate_left
          · (intro w hSw; (try dsimp only at hSw); simp only [List.getElem_toArray, List.getElem_cons_zero, List.getElem_cons_succ]; go_simp; try with_reducible rfl)
          simp only [List.getElem_toArray, List.getElem_cons_zero, List.getElem_cons_succ, Act.put, List.setIfInBounds_toArray, List.set_cons_zero, List.set_cons_succ]
          refine wpAnyL_end (by kernel_rfl) rfl rfl (by kernel_rfl) (fun K hK => ?_)
          simp only [List.getElem_toArray, List.getElem_cons_zero, List.getElem_cons_succ]
          go_simp
          refine hK.out _ _ ?_
          clear hK K hHeld
          have hn23 := I.n23
          go_wp2_with fail
          have hbits : bits .or .u64 (y.bits : Int) ((Y.toNat : Int) * 2 ^ y.nb) = (N : Int) := by
            rw [← hor, hZ]
            congr 1
          rw [hbits]
          have HF := fun k => byte_at A k N
          have hI := I.byte (N := N) hlt hY (by rw [hN, hZ])
          refine ⟨⟨_, (HF _).1, hI, B.trans (HF _).2, by show y.nb + 8 ≤ 64; omega⟩, ?_⟩
          rw [goes_at (HF _).1, goes_at A]
          show 64 - (y.nb + 8) + (src.length - y.rp) + (1 - if y.eof then 1 else 0) < _
          omega
      · have hend : ¬ (y.nb : Int) ≤ 56 := by omega
        have hw8 : IntKind.u64.wrap (8 * (y.pd : Int)) = 8 * (y.pd : Int) := by rw [IntKind.wrap_u64]; omega
        have hun := hE1.une
        by_cases hp : y.nb < 8 * y.pd
        · have hp' : decide ((y.nb : Int) < 8 * (y.pd : Int)) = true := decide_eq_true (by omega)
          go_wp2_with fail
          go_quiet (fail)
          go_wp2_with fail
          go_ret
          exact ⟨y, A.of_heap rfl, I, by omega, hnb, ⟨B.os, B.tape, B.output, B.size, B.block⟩, by rw [if_pos hp]; rfl⟩
        · have hp' : decide ((y.nb : Int) < 8 * (y.pd : Int)) = false := decide_eq_false (by omega)
          go_wp2_with fail
          go_quiet (fail)
          go_wp2_with fail
          go_ret
          exact ⟨y, A.of_heap rfl, I, by omega, hnb, ⟨B.os, B.tape, B.output, B.size, B.block⟩, by rw [if_neg hp]; rfl⟩
end Go.Proofs.YbulkxmoDoor
