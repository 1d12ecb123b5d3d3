/-
  readInput.
-/
import Derived.Test.YbulkxmoDoorW2
import Derived.LaidEql
set_option linter.unusedSimpArgs false
namespace Go.Proofs.YbulkxmoDoor
open Go.RowKit

section
variable {s : Nat} {w : World} {src : List UInt8} {ch : Nat} {x : Sd}
theorem At.d0 (A : At s w src ch x) : w.cell? ⟨s + 3, 0, none⟩ = some (.iface 23 (.pointer (some ⟨s + 1, 0, none⟩))) := cell_at A.dec rfl
theorem At.d1 (A : At s w src ch x) : w.cell? ⟨s + 3, 1, none⟩ = some (.slice (some ⟨s + 2, 0, none⟩) 64 64) := cell_at A.dec rfl
theorem At.d2 (A : At s w src ch x) : w.cell? ⟨s + 3, 2, none⟩ = some (.slice (some ⟨s + 2, 0, none⟩) x.n 64) := cell_at A.dec rfl
theorem At.d3 (A : At s w src ch x) : w.cell? ⟨s + 3, 3, none⟩ = some (.int .i64 x.dp) := cell_at A.dec rfl
theorem At.d4 (A : At s w src ch x) : w.cell? ⟨s + 3, 4, none⟩ = some (.bool x.eof) := cell_at A.dec rfl
theorem At.d5 (A : At s w src ch x) : w.cell? ⟨s + 3, 5, none⟩ = some (.int .i64 x.off) := cell_at A.dec rfl
theorem At.d6 (A : At s w src ch x) : w.cell? ⟨s + 3, 6, none⟩ = some (.int .u64 x.bits) := cell_at A.dec rfl
theorem At.d7 (A : At s w src ch x) : w.cell? ⟨s + 3, 7, none⟩ = some (.int .u64 x.nb) := cell_at A.dec rfl
theorem At.d8 (A : At s w src ch x) : w.cell? ⟨s + 3, 8, none⟩ = some (.int .u64 x.pd) := cell_at A.dec rfl
theorem At.z (A : At s w src ch x) (k : Nat) : w.frozen? ⟨s + 3, k, none⟩ = false := frozen_at A.dec
end

/-- what is left of the last read, moved to the buffer's start -/
def moved (bf : List UInt8) (dp n : Nat) : List UInt8 := splice bf 0 ((bf.drop dp).take (n - dp))

/-- more input -/
def more (src : List UInt8) (ch : Nat) (x : Sd) : Sd :=
  if x.rp < src.length then
    { x with rp := x.rp + much src ch x.rp (64 - (x.n - x.dp)), n := x.n - x.dp + much src ch x.rp (64 - (x.n - x.dp)), dp := 0, off := x.off + x.dp,
             bf := splice (moved x.bf x.dp x.n) (x.n - x.dp) ((src.drop x.rp).take (much src ch x.rp (64 - (x.n - x.dp)))) }
  else { x with n := x.n - x.dp, dp := 0, off := x.off + x.dp, eof := true, bf := moved x.bf x.dp x.n }

/-- the rest of a row of bytes -/
theorem run_rest (g len cap lo : Nat) (l : Int) (hl : l = lo) (h1 : lo ≤ len) (h3 : lo < cap) (w : World) :
    (Instr.sliceAt 22 (.slice (some ⟨g, 0, none⟩) len cap) (some (.int .i64 l)) none none).run Ybad.prog w = .ok (.slice (some ⟨g, lo, none⟩) (len - lo) (cap - lo)) w := by
  subst hl
  have hc : cap ≠ lo := by omega
  go_simp
theorem run_rest' (g len cap lo : Nat) (l : Int) (hl : l = lo) (h1 : lo ≤ len) (h3 : lo < cap) (w : World) :
    (Instr.slice 22 (.slice (some ⟨g, 0, none⟩) len cap) (some (.int .i64 l)) none none).run Ybad.prog w = .ok (.slice (some ⟨g, lo, none⟩) (len - lo) (cap - lo)) w := by
  rw [← run_sliceAt_slice w 22 _ _ _ _ (by rw [Ybad.underlying22]; rfl)]
  exact run_rest g len cap lo l hl h1 h3 w

/-- the head of a row of bytes -/
theorem run_head (g len cap hi : Nat) (h : Int) (hh : h = hi) (h1 : hi ≤ cap) (w : World) :
    (Instr.sliceAt 22 (.slice (some ⟨g, 0, none⟩) len cap) none (some (.int .i64 h)) none).run Ybad.prog w = .ok (.slice (some ⟨g, 0, none⟩) hi cap) w := by
  subst hh
  go_simp
theorem run_head' (g len cap hi : Nat) (h : Int) (hh : h = hi) (h1 : hi ≤ cap) (w : World) :
    (Instr.slice 22 (.slice (some ⟨g, 0, none⟩) len cap) none (some (.int .i64 h)) none).run Ybad.prog w = .ok (.slice (some ⟨g, 0, none⟩) hi cap) w := by
  rw [← run_sliceAt_slice w 22 _ _ _ _ (by rw [Ybad.underlying22]; rfl)]
  exact run_head g len cap hi h hh h1 w

/-- what is left is moved -/
theorem run_move {s : Nat} {w : World} {src : List UInt8} {ch : Nat} {x : Sd} (A : At s w src ch x) (h1 : x.dp ≤ x.n) (h3 : x.n ≤ 23) (L : Nat) (hL : L = x.n - x.dp) (C : Nat) :
    (Builtin.copy_ #[22, 22] 3 #[.slice (some ⟨s + 2, 0, none⟩) 64 64, .slice (some ⟨s + 2, x.dp, none⟩) L C]).run Ybad.prog w = .ok (.int .i64 L) (w.setRow (s + 2) (bvl (moved x.bf x.dp x.n)).toArray) := by
  have hb := A.bl
  have hlen : ((x.bf.drop x.dp).take L).length = L := by simp; omega
  have := run_cp w (s + 2) 0 64 64 ⟨s + 2, x.dp, none⟩ L C x.bf ((x.bf.drop x.dp).take L) A.buf (by rw [hlen]; exact (Nat.min_eq_left (by omega)).symm) (fun j hj => by
    have hj' : x.dp + j < x.bf.length := by rw [hlen] at hj; omega
    have e : (⟨s + 2, x.dp, none⟩ : Addr).add j = ⟨s + 2, x.dp + j, none⟩ := by unfold Addr.add; split <;> simp_all
    rw [e, cell_at A.buf (bvl_get x.bf (x.dp + j) hj')]
    simp) (by rw [hlen]; omega)
  rw [hlen, hL] at this
  rw [hL]
  exact this

theorem moved_len (bf : List UInt8) (dp n : Nat) (h : bf.length = 64) (h1 : dp ≤ n) (h3 : n ≤ 23) : (moved bf dp n).length = 64 := by
  unfold moved
  rw [length_splice _ _ _ (by simp; omega)]
  exact h

set_option maxRecDepth 100000 in
theorem input_eof (s : Nat) (src : List UInt8) (ch : Nat) (x : Sd) (w : World) (A : At s w src ch x) (hr : x.rp = src.length) (h1 : x.dp ≤ x.n) (h2 : x.n < x.dp + 8) (h3 : x.n ≤ 23) (h4 : x.off ≤ 100000) (a : Addr) (hE : w.cell? ⟨1, 0, none⟩ = some (.iface 46 (.pointer (some a)))) (hs : 1 < s) :
    Calls Ybad.prog 8 #[.pointer (some ⟨s + 3, 0, none⟩)] w fun e w' => e = .returned .nilIface ∧ At s w' src ch (more src ch x) ∧ Below s w w' := by
  have hr' : Hid (x.rp = src.length) := hr
  clear hr
  have d0 := A.d0
  have d1 := A.d1
  have d2 := A.d2
  have d3 := A.d3
  have d5 := A.d5
  have z5 := A.z 5
  have hw5 : IntKind.i64.wrap ((x.off : Int) + x.dp) = (x.off : Int) + x.dp := by rw [IntKind.wrap_i64]; omega
  go_enter Ybad.func8, Ybad.ntmps8
  go_wp2_with fail
  refine wp_region_last 11 (fun w' => w'.cell? ⟨s + 3, 3, none⟩ = some (.int .i64 x.dp) ∧ w'.cell? ⟨s + 3, 5, none⟩ = some (.int .i64 x.off) ∧ w'.frozen? ⟨s + 3, 5, none⟩ = false) (by kernel_rfl) (by exact ⟨d3, d5, z5⟩) (fun hHeld => ?_)
  refine wpAnyL_takeDir (i := 0) (v := ?_) (by kernel_rfl) rfl (by kernel_rfl) (by kernel_rfl) (by kernel_rfl) (fun _ _ _ h => h) (Or.inl ⟨by rfl, ?_⟩) hHeld ?_
  rotate_left
  · (intro w hSw; (try dsimp only at hSw); simp only [List.getElem_toArray, List.getElem_cons_zero, List.getElem_cons_succ]; go_simp; try with_reducible rfl)
  simp only [List.getElem_toArray, List.getElem_cons_zero, List.getElem_cons_succ, Act.put, List.setIfInBounds_toArray, List.set_cons_zero, List.set_cons_succ]
  refine wpAnyL_takeDir (i := 1) (v := ?_) (by kernel_rfl) rfl (by kernel_rfl) (by kernel_rfl) (by kernel_rfl) (fun _ _ _ h => h) (Or.inl ⟨by rfl, ?_⟩) hHeld ?_
  rotate_left
  · (intro w hSw; (try dsimp only at hSw); simp only [List.getElem_toArray, List.getElem_cons_zero, List.getElem_cons_succ]; go_simp; try with_reducible rfl)
  simp only [List.getElem_toArray, List.getElem_cons_zero, List.getElem_cons_succ, Act.put, List.setIfInBounds_toArray, List.set_cons_zero, List.set_cons_succ]
  refine wpAnyL_takeDir (i := 2) (v := ?_) (by kernel_rfl) rfl (by kernel_rfl) (by kernel_rfl) (by kernel_rfl) (fun _ _ _ h => h) (Or.inl ⟨by rfl, ?_⟩) hHeld ?_
  rotate_left
  · (intro w hSw; (try dsimp only at hSw); simp only [List.getElem_toArray, List.getElem_cons_zero, List.getElem_cons_succ]; go_simp; try with_reducible rfl)
  simp only [List.getElem_toArray, List.getElem_cons_zero, List.getElem_cons_succ, Act.put, List.setIfInBounds_toArray, List.set_cons_zero, List.set_cons_succ]
  refine wpAnyL_takeDir (i := 3) (v := ?_) (by kernel_rfl) rfl (by kernel_rfl) (by kernel_rfl) (by kernel_rfl) (fun _ _ _ h => h) (Or.inl ⟨by rfl, ?_⟩) hHeld ?_
  rotate_left
  · (intro w hSw; (try dsimp only at hSw); simp only [List.getElem_toArray, List.getElem_cons_zero, List.getElem_cons_succ]; go_simp; try with_reducible rfl)
  simp only [List.getElem_toArray, List.getElem_cons_zero, List.getElem_cons_succ, Act.put, List.setIfInBounds_toArray, List.set_cons_zero, List.set_cons_succ]
  refine wpAnyL_takeDir (i := 4) (v := ?_) (by kernel_rfl) rfl (by kernel_rfl) (by kernel_rfl) (by kernel_rfl) (fun _ _ _ h => h) (Or.inl ⟨by rfl, ?_⟩) hHeld ?_
  rotate_left
  · (intro w hSw; (try dsimp only at hSw); simp only [List.getElem_toArray, List.getElem_cons_zero, List.getElem_cons_succ]; go_simp; try with_reducible rfl)
  simp only [List.getElem_toArray, List.getElem_cons_zero, List.getElem_cons_succ, Act.put, List.setIfInBounds_toArray, List.set_cons_zero, List.set_cons_succ]
  refine wpAnyL_takeDir (i := 5) (v := ?_) (by kernel_rfl) rfl (by kernel_rfl) (by kernel_rfl) (by kernel_rfl) (fun _ _ _ h => h) (Or.inl ⟨by rfl, ?_⟩) hHeld ?_
  rotate_left
  · (intro w hSw; (try dsimp only at hSw); simp only [List.getElem_toArray, List.getElem_cons_zero, List.getElem_cons_succ]; go_simp; try with_reducible rfl)
  simp only [List.getElem_toArray, List.getElem_cons_zero, List.getElem_cons_succ, Act.put, List.setIfInBounds_toArray, List.set_cons_zero, List.set_cons_succ]
  refine wpAnyL_takeDir (i := 6) (v := ?_) (by kernel_rfl) rfl (by kernel_rfl) (by kernel_rfl) (by kernel_rfl) (fun _ _ _ h => h) (Or.inl ⟨by rfl, ?_⟩) hHeld ?_
  rotate_left
  · (intro w hSw; (try dsimp only at hSw); simp only [List.getElem_toArray, List.getElem_cons_zero, List.getElem_cons_succ]; go_simp; try with_reducible rfl)
  simp only [List.getElem_toArray, List.getElem_cons_zero, List.getElem_cons_succ, Act.put, List.setIfInBounds_toArray, List.set_cons_zero, List.set_cons_succ]
  refine wpAnyL_takeDir (i := 7) (v := ?_) (by kernel_rfl) rfl (by kernel_rfl) (by kernel_rfl) (by kernel_rfl) (fun _ _ _ h => h) (Or.inl ⟨by rfl, ?_⟩) hHeld ?_
  rotate_left
  · (intro w hSw; (try dsimp only at hSw); simp only [List.getElem_toArray, List.getElem_cons_zero, List.getElem_cons_succ]; go_simp; try with_reducible rfl)
  simp only [List.getElem_toArray, List.getElem_cons_zero, List.getElem_cons_succ, Act.put, List.setIfInBounds_toArray, List.set_cons_zero, List.set_cons_succ]
  refine wpAnyL_takeDir (i := 8) (v := ?_) (by kernel_rfl) rfl (by kernel_rfl) (by kernel_rfl) (by kernel_rfl) (fun _ _ _ h => h) (Or.inl ⟨by rfl, ?_⟩) hHeld ?_
  rotate_left
  · (intro w hSw; (try dsimp only at hSw); simp only [List.getElem_toArray, List.getElem_cons_zero, List.getElem_cons_succ]; go_simp; try with_reducible rfl)
  simp only [List.getElem_toArray, List.getElem_cons_zero, List.getElem_cons_succ, Act.put, List.setIfInBounds_toArray, List.set_cons_zero, List.set_cons_succ]
  refine wpAnyL_takeBy 10 (by kernel_rfl) (i := 9) (v := ?_) (by kernel_rfl) (by kernel_rfl) rfl (by kernel_rfl) (by kernel_rfl) (by kernel_rfl) (fun _ _ _ h => h) (Or.inl ⟨by rfl, ?_⟩) hHeld ?_
  rotate_left
  · (intro w hSw; (try dsimp only at hSw); simp only [List.getElem_toArray, List.getElem_cons_zero, List.getElem_cons_succ]; go_simp; try with_reducible rfl)
  simp only [List.getElem_toArray, List.getElem_cons_zero, List.getElem_cons_succ, Act.put, List.setIfInBounds_toArray, List.set_cons_zero, List.set_cons_succ]
  refine wpAnyL_takeDir (i := 10) (v := ?_) (by kernel_rfl) rfl (by kernel_rfl) (by kernel_rfl) (by kernel_rfl) (fun _ _ _ h => h) (Or.inl ⟨by rfl, ?_⟩) hHeld ?_
  rotate_left
  · (intro w hSw; (try dsimp only at hSw); simp only [List.getElem_toArray, List.getElem_cons_zero, List.getElem_cons_succ]; go_simp; try with_reducible rfl)
  simp only [List.getElem_toArray, List.getElem_cons_zero, List.getElem_cons_succ, Act.put, List.setIfInBounds_toArray, List.set_cons_zero, List.set_cons_succ]
  refine wpAnyL_end (by kernel_rfl) rfl rfl (by kernel_rfl) (fun K hK => ?_)
  simp only [List.getElem_toArray, List.getElem_cons_zero, List.getElem_cons_succ]
  go_simp
  refine hK.out _ _ ?_
  clear hK K hHeld
  obtain ⟨A1, B1⟩ := A.put 5 (.int .i64 ((x.off : Int) + x.dp)) { x with off := x.off + x.dp } rfl rfl rfl
  have A1 := A1.drew
  have B1 := below_to_drew B1
  generalize (w.setCell ⟨s + 3, 5, none⟩ (.int .i64 ((x.off : Int) + x.dp))).drew = w1 at *
  clear d0 d1 d2 d3 d5 z5 hw5 A
  have d0 := A1.d0
  have d1 := A1.d1
  have d2 := A1.d2
  have d3 := A1.d3
  obtain ⟨L, hL⟩ : ∃ L, L = x.n - x.dp := ⟨_, rfl⟩
  have hcp := fun C => run_move A1.drew h1 h3 L hL C
  have hsl := run_rest (s + 2) x.n 64 x.dp x.dp rfl h1 (by omega)
  have hsl' := run_rest' (s + 2) x.n 64 x.dp x.dp rfl h1 (by omega)
  rw [← hL] at hsl hsl'
  have HL : Hid (L = x.n - x.dp) := hL
  clear hL
  have H1 : Hid (At s w1 src ch { x with off := x.off + x.dp }) := A1
  have hk : ∀ (k : Nat) (R : Array Value), (w1.drew.setRow (s + 2) R).cell? ⟨s + 3, k, none⟩ = w1.cell? ⟨s + 3, k, none⟩ := fun k R => World.cell?_of_block (w := w1) (setRow_other w1.drew (s + 2) (s + 3) R (by omega))
  have HK : Hid (∀ (k : Nat) (R : Array Value), (w1.drew.setRow (s + 2) R).cell? ⟨s + 3, k, none⟩ = w1.cell? ⟨s + 3, k, none⟩) := hk
  clear hk A1
  go_wp2_with fail
  go_region_held3 (fun w' => w'.cell? ⟨s + 3, 1, none⟩ = some (.slice (some ⟨s + 2, 0, none⟩) 64 64) ∧ w'.cell? ⟨s + 3, 2, none⟩ = some (.slice (some ⟨s + 2, 0, none⟩) x.n 64) ∧ w'.cell? ⟨s + 3, 3, none⟩ = some (.int .i64 x.dp)) (first | (go_keep; done) | exact ⟨(HK.out _ _).trans d1, (HK.out _ _).trans d2, (HK.out _ _).trans d3⟩) (fail)
  obtain ⟨A2, B2⟩ := H1.out.drew.row (moved x.bf x.dp x.n) (moved_len _ _ _ H1.out.bl h1 h3)
  have B2 : Below s w _ := B1.trans (below_drew B2)
  clear d0 d1 d2 d3 hcp hsl hsl' HK H1 B1
  generalize w1.drew.setRow (s + 2) (bvl (moved x.bf x.dp x.n)).toArray = w2 at *
  have hL8 : L < 8 := by have := HL.out; omega
  have d0 := A2.d0
  have d1 := A2.d1
  have hsl := run_rest (s + 2) 64 64 L L rfl (by omega) (by omega)
  have hsl' := run_rest' (s + 2) 64 64 L L rfl (by omega) (by omega)
  have H2 : Hid (At s w2 src ch { x with off := x.off + x.dp, bf := moved x.bf x.dp x.n }) := A2
  clear A2
  have hE2 : w2.drew.cell? ⟨1, 0, none⟩ = some (.iface 46 (.pointer (some a))) := (B2.cell (p := ⟨1, 0, none⟩) hs).trans hE
  have hR := least_eof s L (64 - L) (64 - L) src ch { x with off := x.off + x.dp, bf := moved x.bf x.dp x.n } w2.drew H2.out.drew hr'.out (by omega) (by omega) 46 (.pointer (some a)) hE2
  clear hE2
  go_wp2_with fail
  go_region_held3 (fun w' => w'.cell? ⟨s + 3, 0, none⟩ = some (.iface 23 (.pointer (some ⟨s + 1, 0, none⟩))) ∧ w'.cell? ⟨s + 3, 1, none⟩ = some (.slice (some ⟨s + 2, 0, none⟩) 64 64)) (first | (go_keep; done) | exact ⟨hA.d0, hA.d1⟩) ((go_at_call 9; refine hR.mono ?_; rintro e w3 ⟨rfl, hA, hb3⟩))
  have B3 : Below s w w3 := B2.trans (below_drew hb3)
  have e1 := hA.d1
  have e2 := hA.d2
  have e3 := hA.d3
  have e4 := hA.d4
  have z2 := hA.z 2
  have z3 := hA.z 3
  have z4 := hA.z 4
  have hE3 := (B3.cell (p := ⟨1, 0, none⟩) hs).trans hE
  have heq := fun (W : World) => run_eql_iface_ptr_same (P := Ybad.prog) W (ti := 33) (tp := 46) (te := 65) a Ybad.underlying33 Ybad.underlying46 rfl (by kernel_rfl) rfl
  have n1 : s + 3 ≠ 1 := by omega
  have HA3 : Hid (At s w3 src ch { x with off := x.off + x.dp, bf := moved x.bf x.dp x.n }) := hA
  clear hA hb3 d0 d1 hsl hsl' hR hE
  go_wp2_with fail
  go_ret
  obtain ⟨A4, B4⟩ := HA3.out.put 2 (.slice (some ⟨s + 2, 0, none⟩) L 64) { x with off := x.off + x.dp, bf := moved x.bf x.dp x.n, n := L } rfl rfl rfl
  obtain ⟨A5, B5⟩ := A4.put 3 (.int .i64 0) { x with off := x.off + x.dp, bf := moved x.bf x.dp x.n, n := L, dp := 0 } rfl rfl rfl
  obtain ⟨A6, B6⟩ := A5.put 4 (.bool true) { x with off := x.off + x.dp, bf := moved x.bf x.dp x.n, n := L, dp := 0, eof := true } rfl rfl rfl
  refine ⟨rfl, ?_, ((B3.trans B4).trans B5).trans B6⟩
  have hm : more src ch x = { x with off := x.off + x.dp, bf := moved x.bf x.dp x.n, n := L, dp := 0, eof := true } := by
    unfold more
    rw [if_neg (by have := hr'.out; omega), ← HL.out]
  rw [hm]
  exact A6

set_option maxRecDepth 100000 in
theorem input_some (s : Nat) (src : List UInt8) (ch : Nat) (x : Sd) (w : World) (A : At s w src ch x) (hr : x.rp < src.length) (hl : src.length ≤ 1024) (hch0 : 1 ≤ ch) (hch : ch ≤ 16) (h1 : x.dp ≤ x.n) (h2 : x.n < x.dp + 8) (h3 : x.n ≤ 23) (h4 : x.off ≤ 100000) (a : Addr) (hE : w.cell? ⟨1, 0, none⟩ = some (.iface 46 (.pointer (some a)))) (hs : 1 < s) :
    Calls Ybad.prog 8 #[.pointer (some ⟨s + 3, 0, none⟩)] w fun e w' => e = .returned .nilIface ∧ At s w' src ch (more src ch x) ∧ Below s w w' := by
  have d0 := A.d0
  have d1 := A.d1
  have d2 := A.d2
  have d3 := A.d3
  have d5 := A.d5
  have z5 := A.z 5
  have hw5 : IntKind.i64.wrap ((x.off : Int) + x.dp) = (x.off : Int) + x.dp := by rw [IntKind.wrap_i64]; omega
  go_enter Ybad.func8, Ybad.ntmps8
  go_wp2_with fail
  refine wp_region_last 11 (fun w' => w'.cell? ⟨s + 3, 3, none⟩ = some (.int .i64 x.dp) ∧ w'.cell? ⟨s + 3, 5, none⟩ = some (.int .i64 x.off) ∧ w'.frozen? ⟨s + 3, 5, none⟩ = false) (by kernel_rfl) (by exact ⟨d3, d5, z5⟩) (fun hHeld => ?_)
  refine wpAnyL_takeDir (i := 0) (v := ?_) (by kernel_rfl) rfl (by kernel_rfl) (by kernel_rfl) (by kernel_rfl) (fun _ _ _ h => h) (Or.inl ⟨by rfl, ?_⟩) hHeld ?_
  rotate_left
  · (intro w hSw; (try dsimp only at hSw); simp only [List.getElem_toArray, List.getElem_cons_zero, List.getElem_cons_succ]; go_simp; try with_reducible rfl)
  simp only [List.getElem_toArray, List.getElem_cons_zero, List.getElem_cons_succ, Act.put, List.setIfInBounds_toArray, List.set_cons_zero, List.set_cons_succ]
  refine wpAnyL_takeDir (i := 1) (v := ?_) (by kernel_rfl) rfl (by kernel_rfl) (by kernel_rfl) (by kernel_rfl) (fun _ _ _ h => h) (Or.inl ⟨by rfl, ?_⟩) hHeld ?_
  rotate_left
  · (intro w hSw; (try dsimp only at hSw); simp only [List.getElem_toArray, List.getElem_cons_zero, List.getElem_cons_succ]; go_simp; try with_reducible rfl)
  simp only [List.getElem_toArray, List.getElem_cons_zero, List.getElem_cons_succ, Act.put, List.setIfInBounds_toArray, List.set_cons_zero, List.set_cons_succ]
  refine wpAnyL_takeDir (i := 2) (v := ?_) (by kernel_rfl) rfl (by kernel_rfl) (by kernel_rfl) (by kernel_rfl) (fun _ _ _ h => h) (Or.inl ⟨by rfl, ?_⟩) hHeld ?_
  rotate_left
  · (intro w hSw; (try dsimp only at hSw); simp only [List.getElem_toArray, List.getElem_cons_zero, List.getElem_cons_succ]; go_simp; try with_reducible rfl)
  simp only [List.getElem_toArray, List.getElem_cons_zero, List.getElem_cons_succ, Act.put, List.setIfInBounds_toArray, List.set_cons_zero, List.set_cons_succ]
  refine wpAnyL_takeDir (i := 3) (v := ?_) (by kernel_rfl) rfl (by kernel_rfl) (by kernel_rfl) (by kernel_rfl) (fun _ _ _ h => h) (Or.inl ⟨by rfl, ?_⟩) hHeld ?_
  rotate_left
  · (intro w hSw; (try dsimp only at hSw); simp only [List.getElem_toArray, List.getElem_cons_zero, List.getElem_cons_succ]; go_simp; try with_reducible rfl)
  simp only [List.getElem_toArray, List.getElem_cons_zero, List.getElem_cons_succ, Act.put, List.setIfInBounds_toArray, List.set_cons_zero, List.set_cons_succ]
  refine wpAnyL_takeDir (i := 4) (v := ?_) (by kernel_rfl) rfl (by kernel_rfl) (by kernel_rfl) (by kernel_rfl) (fun _ _ _ h => h) (Or.inl ⟨by rfl, ?_⟩) hHeld ?_
  rotate_left
  · (intro w hSw; (try dsimp only at hSw); simp only [List.getElem_toArray, List.getElem_cons_zero, List.getElem_cons_succ]; go_simp; try with_reducible rfl)
  simp only [List.getElem_toArray, List.getElem_cons_zero, List.getElem_cons_succ, Act.put, List.setIfInBounds_toArray, List.set_cons_zero, List.set_cons_succ]
  refine wpAnyL_takeDir (i := 5) (v := ?_) (by kernel_rfl) rfl (by kernel_rfl) (by kernel_rfl) (by kernel_rfl) (fun _ _ _ h => h) (Or.inl ⟨by rfl, ?_⟩) hHeld ?_
  rotate_left
  · (intro w hSw; (try dsimp only at hSw); simp only [List.getElem_toArray, List.getElem_cons_zero, List.getElem_cons_succ]; go_simp; try with_reducible rfl)
  simp only [List.getElem_toArray, List.getElem_cons_zero, List.getElem_cons_succ, Act.put, List.setIfInBounds_toArray, List.set_cons_zero, List.set_cons_succ]
  refine wpAnyL_takeDir (i := 6) (v := ?_) (by kernel_rfl) rfl (by kernel_rfl) (by kernel_rfl) (by kernel_rfl) (fun _ _ _ h => h) (Or.inl ⟨by rfl, ?_⟩) hHeld ?_
  rotate_left
  · (intro w hSw; (try dsimp only at hSw); simp only [List.getElem_toArray, List.getElem_cons_zero, List.getElem_cons_succ]; go_simp; try with_reducible rfl)
  simp only [List.getElem_toArray, List.getElem_cons_zero, List.getElem_cons_succ, Act.put, List.setIfInBounds_toArray, List.set_cons_zero, List.set_cons_succ]
  refine wpAnyL_takeDir (i := 7) (v := ?_) (by kernel_rfl) rfl (by kernel_rfl) (by kernel_rfl) (by kernel_rfl) (fun _ _ _ h => h) (Or.inl ⟨by rfl, ?_⟩) hHeld ?_
  rotate_left
  · (intro w hSw; (try dsimp only at hSw); simp only [List.getElem_toArray, List.getElem_cons_zero, List.getElem_cons_succ]; go_simp; try with_reducible rfl)
  simp only [List.getElem_toArray, List.getElem_cons_zero, List.getElem_cons_succ, Act.put, List.setIfInBounds_toArray, List.set_cons_zero, List.set_cons_succ]
  refine wpAnyL_takeDir (i := 8) (v := ?_) (by kernel_rfl) rfl (by kernel_rfl) (by kernel_rfl) (by kernel_rfl) (fun _ _ _ h => h) (Or.inl ⟨by rfl, ?_⟩) hHeld ?_
  rotate_left
  · (intro w hSw; (try dsimp only at hSw); simp only [List.getElem_toArray, List.getElem_cons_zero, List.getElem_cons_succ]; go_simp; try with_reducible rfl)
  simp only [List.getElem_toArray, List.getElem_cons_zero, List.getElem_cons_succ, Act.put, List.setIfInBounds_toArray, List.set_cons_zero, List.set_cons_succ]
  refine wpAnyL_takeBy 10 (by kernel_rfl) (i := 9) (v := ?_) (by kernel_rfl) (by kernel_rfl) rfl (by kernel_rfl) (by kernel_rfl) (by kernel_rfl) (fun _ _ _ h => h) (Or.inl ⟨by rfl, ?_⟩) hHeld ?_
  rotate_left
  · (intro w hSw; (try dsimp only at hSw); simp only [List.getElem_toArray, List.getElem_cons_zero, List.getElem_cons_succ]; go_simp; try with_reducible rfl)
  simp only [List.getElem_toArray, List.getElem_cons_zero, List.getElem_cons_succ, Act.put, List.setIfInBounds_toArray, List.set_cons_zero, List.set_cons_succ]
  refine wpAnyL_takeDir (i := 10) (v := ?_) (by kernel_rfl) rfl (by kernel_rfl) (by kernel_rfl) (by kernel_rfl) (fun _ _ _ h => h) (Or.inl ⟨by rfl, ?_⟩) hHeld ?_
  rotate_left
  · (intro w hSw; (try dsimp only at hSw); simp only [List.getElem_toArray, List.getElem_cons_zero, List.getElem_cons_succ]; go_simp; try with_reducible rfl)
  simp only [List.getElem_toArray, List.getElem_cons_zero, List.getElem_cons_succ, Act.put, List.setIfInBounds_toArray, List.set_cons_zero, List.set_cons_succ]
  refine wpAnyL_end (by kernel_rfl) rfl rfl (by kernel_rfl) (fun K hK => ?_)
  simp only [List.getElem_toArray, List.getElem_cons_zero, List.getElem_cons_succ]
  go_simp
  refine hK.out _ _ ?_
  clear hK K hHeld
  obtain ⟨A1, B1⟩ := A.put 5 (.int .i64 ((x.off : Int) + x.dp)) { x with off := x.off + x.dp } rfl rfl rfl
  have A1 := A1.drew
  have B1 := below_to_drew B1
  generalize (w.setCell ⟨s + 3, 5, none⟩ (.int .i64 ((x.off : Int) + x.dp))).drew = w1 at *
  clear d0 d1 d2 d3 d5 z5 hw5 A
  have d0 := A1.d0
  have d1 := A1.d1
  have d2 := A1.d2
  have d3 := A1.d3
  obtain ⟨L, hL⟩ : ∃ L, L = x.n - x.dp := ⟨_, rfl⟩
  have hcp := fun C => run_move A1.drew h1 h3 L hL C
  have hsl := run_rest (s + 2) x.n 64 x.dp x.dp rfl h1 (by omega)
  have hsl' := run_rest' (s + 2) x.n 64 x.dp x.dp rfl h1 (by omega)
  rw [← hL] at hsl hsl'
  have HL : Hid (L = x.n - x.dp) := hL
  clear hL
  have H1 : Hid (At s w1 src ch { x with off := x.off + x.dp }) := A1
  have hk : ∀ (k : Nat) (R : Array Value), (w1.drew.setRow (s + 2) R).cell? ⟨s + 3, k, none⟩ = w1.cell? ⟨s + 3, k, none⟩ := fun k R => World.cell?_of_block (w := w1) (setRow_other w1.drew (s + 2) (s + 3) R (by omega))
  have HK : Hid (∀ (k : Nat) (R : Array Value), (w1.drew.setRow (s + 2) R).cell? ⟨s + 3, k, none⟩ = w1.cell? ⟨s + 3, k, none⟩) := hk
  clear hk A1
  go_wp2_with fail
  go_region_held3 (fun w' => w'.cell? ⟨s + 3, 1, none⟩ = some (.slice (some ⟨s + 2, 0, none⟩) 64 64) ∧ w'.cell? ⟨s + 3, 2, none⟩ = some (.slice (some ⟨s + 2, 0, none⟩) x.n 64) ∧ w'.cell? ⟨s + 3, 3, none⟩ = some (.int .i64 x.dp)) (first | (go_keep; done) | exact ⟨(HK.out _ _).trans d1, (HK.out _ _).trans d2, (HK.out _ _).trans d3⟩) (fail)
  obtain ⟨A2, B2⟩ := H1.out.drew.row (moved x.bf x.dp x.n) (moved_len _ _ _ H1.out.bl h1 h3)
  have B2 : Below s w _ := B1.trans (below_drew B2)
  clear d0 d1 d2 d3 hcp hsl hsl' HK H1 B1
  generalize w1.drew.setRow (s + 2) (bvl (moved x.bf x.dp x.n)).toArray = w2 at *
  have hL8 : L < 8 := by have := HL.out; omega
  have d0 := A2.d0
  have d1 := A2.d1
  have hsl := run_rest (s + 2) 64 64 L L rfl (by omega) (by omega)
  have hsl' := run_rest' (s + 2) 64 64 L L rfl (by omega) (by omega)
  have H2 : Hid (At s w2 src ch { x with off := x.off + x.dp, bf := moved x.bf x.dp x.n }) := A2
  clear A2
  have hR := least_some s L (64 - L) (64 - L) src ch { x with off := x.off + x.dp, bf := moved x.bf x.dp x.n } w2.drew H2.out.drew hr hl hch0 hch (by omega) (by omega) (by omega)
  dsimp only at hR
  obtain ⟨Y, hY⟩ : ∃ Y : List UInt8, Y = splice (moved x.bf x.dp x.n) L ((src.drop x.rp).take (much src ch x.rp (64 - L))) := ⟨_, rfl⟩
  rw [← hY] at hR
  obtain ⟨K, hK⟩ : ∃ K, K = much src ch x.rp (64 - L) := ⟨_, rfl⟩
  rw [← hK] at hR
  have hK16 : K ≤ 16 := by rw [hK]; unfold much; omega
  obtain ⟨E, hEE⟩ : ∃ E, E = L + K := ⟨_, rfl⟩
  have hwE : IntKind.i64.wrap ((L : Int) + K) = (E : Int) := by rw [IntKind.wrap_i64]; omega
  have hhd := run_head (s + 2) 64 64 E E rfl (by omega)
  have hhd' := run_head' (s + 2) 64 64 E E rfl (by omega)
  have HY : Hid (Y = splice (moved x.bf x.dp x.n) L ((src.drop x.rp).take (much src ch x.rp (64 - L)))) := hY
  have HK : Hid (K = much src ch x.rp (64 - L)) := hK
  have HEE : Hid (E = L + K) := hEE
  clear hY hK hEE
  go_wp2_with fail
  go_region_held3 (fun w' => w'.cell? ⟨s + 3, 0, none⟩ = some (.iface 23 (.pointer (some ⟨s + 1, 0, none⟩))) ∧ w'.cell? ⟨s + 3, 1, none⟩ = some (.slice (some ⟨s + 2, 0, none⟩) 64 64)) (first | (go_keep; done) | exact ⟨hA.d0, hA.d1⟩) ((go_at_call 9; refine hR.mono ?_; rintro e w3 ⟨rfl, hA, hb3⟩))
  have B3 : Below s w w3 := B2.trans (below_drew hb3)
  have e1 := hA.d1
  have e2 := hA.d2
  have e3 := hA.d3
  have z2 := hA.z 2
  have z3 := hA.z 3
  have hE3 := (B3.cell (p := ⟨1, 0, none⟩) hs).trans hE
  have heq := fun (W : World) => run_eql_iface_nil_left (P := Ybad.prog) W (ti := 33) 46 (.pointer (some a)) Ybad.underlying33
  have n1 : s + 3 ≠ 1 := by omega
  have HA3 : Hid (At s w3 src ch { x with off := x.off + x.dp, rp := x.rp + K, bf := Y }) := hA
  clear hA hb3 d0 d1 hsl hsl' hR hE
  go_wp2_with fail
  go_ret
  obtain ⟨A4, B4⟩ := HA3.out.put 2 (.slice (some ⟨s + 2, 0, none⟩) E 64) { x with off := x.off + x.dp, rp := x.rp + K, bf := Y, n := E } rfl rfl rfl
  obtain ⟨A5, B5⟩ := A4.put 3 (.int .i64 0) { x with off := x.off + x.dp, rp := x.rp + K, bf := Y, n := E, dp := 0 } rfl rfl rfl
  refine ⟨rfl, ?_, (B3.trans B4).trans B5⟩
  have hm : more src ch x = { x with off := x.off + x.dp, rp := x.rp + K, bf := Y, n := E, dp := 0 } := by
    unfold more
    rw [if_pos hr, ← HL.out, HY.out, HEE.out, HK.out]
  rw [hm]
  exact A5
end Go.Proofs.YbulkxmoDoor
