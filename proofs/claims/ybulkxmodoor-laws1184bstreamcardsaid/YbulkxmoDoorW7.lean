/-
  reset.
-/
import Derived.Test.YbulkxmoDoorW4
set_option linter.unusedSimpArgs false
namespace Go.Proofs.YbulkxmoDoor
open Go.RowKit

/-- the decoder as the law boxes it -/
def dnew (s : Nat) : Array Value :=
  #[.nilIface, .slice (some ⟨s + 2, 0, none⟩) 64 64, .slice none 0 0, .int .i64 0, .bool false, .int .i64 0, .int .u64 0, .int .u64 0, .int .u64 0,
    .slice none 0 0, .int .i64 0, .int .i64 0, .int .i64 0, .bool false, .int .i64 0, .slice none 0 0, .slice none 0 0, .slice none 0 0, .slice none 0 0, .slice none 0 0, .nilIface]

/-- the state at the start -/
def sd0 : Sd := ⟨0, 0, 0, false, 0, 0, 0, 0, List.replicate 64 0⟩

set_option maxRecDepth 100000 in
set_option maxHeartbeats 4000000 in
theorem reset_any (s : Nat) (w : World) (hd : w.heap[s + 3]? = some (.cells (dnew s) 35 (0, 0))) :
    Calls Ybad.prog 4 #[.pointer (some ⟨s + 3, 0, none⟩), .iface 23 (.pointer (some ⟨s + 1, 0, none⟩))] w fun e w' => e = .returned (.tuple #[]) ∧ ∃ k, w' = (w.drewN k).setRow (s + 3) (dcells s sd0) := by
  go_enter Ybad.func4, Ybad.ntmps4
  refine wp_region_last 29 (fun w' => w'.cell? ⟨s + 3, 1, none⟩ = some (.slice (some ⟨s + 2, 0, none⟩) 64 64) ∧ w'.cell? ⟨s + 3, 9, none⟩ = some (.slice none 0 0) ∧ w'.cell? ⟨s + 3, 17, none⟩ = some (.slice none 0 0) ∧ w'.cell? ⟨s + 3, 18, none⟩ = some (.slice none 0 0) ∧ w'.cell? ⟨s + 3, 19, none⟩ = some (.slice none 0 0) ∧ w'.heap = w.heap) (by kernel_rfl) (by exact ⟨cell_at hd rfl, cell_at hd rfl, cell_at hd rfl, cell_at hd rfl, cell_at hd rfl, rfl⟩) (fun hHeld => ?_)
  refine wpAnyL_takeDir (i := 0) (v := ?_) (by kernel_rfl) rfl (by kernel_rfl) (by kernel_rfl) (by kernel_rfl) (fun _ _ _ h => h) (Or.inl ⟨by rfl, ?_⟩) hHeld ?_
  rotate_left
  · (intro w hSw; (try dsimp only at hSw); simp only [List.getElem_toArray, List.getElem_cons_zero, List.getElem_cons_succ]; go_simp; try with_reducible rfl)
  simp only [List.getElem_toArray, List.getElem_cons_zero, List.getElem_cons_succ, Act.put, List.setIfInBounds_toArray, List.set_cons_zero, List.set_cons_succ]
  refine wpAnyL_takeDir (i := 1) (v := ?_) (by kernel_rfl) rfl (by kernel_rfl) (by kernel_rfl) (by kernel_rfl) (fun _ _ _ h => h) (Or.inl ⟨by rfl, ?_⟩) hHeld ?_
  rotate_left
  · (intro w hSw; (try dsimp only at hSw); simp only [List.getElem_toArray, List.getElem_cons_zero, List.getElem_cons_succ]; go_simp; try with_reducible rfl)
  simp only [List.getElem_toArray, List.getElem_cons_zero, List.getElem_cons_succ, Act.put, List.setIfInBounds_toArray, List.set_cons_zero, List.set_cons_succ]
  refine wpAnyL_takeDir (i := 2) (v := ?_) (by kernel_rfl) rfl (by kernel_rfl) (by kernel_rfl) (by kernel_rfl) (fun _ _ _ h => h) (Or.inl ⟨by rfl, ?_⟩) hHeld ?_
  rotate_left
  · (intro w hSw; (try dsimp only at hSw); simp only [List.getElem_toArray, List.getElem_cons_zero, List.getElem_cons_succ]; go_simp; try with_reducible rfl)
  simp only [List.getElem_toArray, List.getElem_cons_zero, List.getElem_cons_succ, Act.put, List.setIfInBounds_toArray, List.set_cons_zero, List.set_cons_succ]
  refine wpAnyL_takeDir (i := 3) (v := ?_) (by kernel_rfl) rfl (by kernel_rfl) (by kernel_rfl) (by kernel_rfl) (fun _ _ _ h => h) (Or.inl ⟨by rfl, ?_⟩) hHeld ?_
  rotate_left
  · (intro w hSw; (try dsimp only at hSw); simp only [List.getElem_toArray, List.getElem_cons_zero, List.getElem_cons_succ]; go_simp; try with_reducible rfl)
  simp only [List.getElem_toArray, List.getElem_cons_zero, List.getElem_cons_succ, Act.put, List.setIfInBounds_toArray, List.set_cons_zero, List.set_cons_succ]
  refine wpAnyL_takeDir (i := 4) (v := ?_) (by kernel_rfl) rfl (by kernel_rfl) (by kernel_rfl) (by kernel_rfl) (fun _ _ _ h => h) (Or.inl ⟨by rfl, ?_⟩) hHeld ?_
  rotate_left
  · (intro w hSw; (try dsimp only at hSw); simp only [List.getElem_toArray, List.getElem_cons_zero, List.getElem_cons_succ]; go_simp; try with_reducible rfl)
  simp only [List.getElem_toArray, List.getElem_cons_zero, List.getElem_cons_succ, Act.put, List.setIfInBounds_toArray, List.set_cons_zero, List.set_cons_succ]
  refine wpAnyL_takeDir (i := 5) (v := ?_) (by kernel_rfl) rfl (by kernel_rfl) (by kernel_rfl) (by kernel_rfl) (fun _ _ _ h => h) (Or.inl ⟨by rfl, ?_⟩) hHeld ?_
  rotate_left
  · (intro w hSw; (try dsimp only at hSw); simp only [List.getElem_toArray, List.getElem_cons_zero, List.getElem_cons_succ]; go_simp; try with_reducible rfl)
  simp only [List.getElem_toArray, List.getElem_cons_zero, List.getElem_cons_succ, Act.put, List.setIfInBounds_toArray, List.set_cons_zero, List.set_cons_succ]
  refine wpAnyL_takeDir (i := 6) (v := ?_) (by kernel_rfl) rfl (by kernel_rfl) (by kernel_rfl) (by kernel_rfl) (fun _ _ _ h => h) (Or.inl ⟨by rfl, ?_⟩) hHeld ?_
  rotate_left
  · (intro w hSw; (try dsimp only at hSw); simp only [List.getElem_toArray, List.getElem_cons_zero, List.getElem_cons_succ]; go_simp; try with_reducible rfl)
  simp only [List.getElem_toArray, List.getElem_cons_zero, List.getElem_cons_succ, Act.put, List.setIfInBounds_toArray, List.set_cons_zero, List.set_cons_succ]
  refine wpAnyL_takeDir (i := 7) (v := ?_) (by kernel_rfl) rfl (by kernel_rfl) (by kernel_rfl) (by kernel_rfl) (fun _ _ _ h => h) (Or.inl ⟨by rfl, ?_⟩) hHeld ?_
  rotate_left
  · (intro w hSw; (try dsimp only at hSw); simp only [List.getElem_toArray, List.getElem_cons_zero, List.getElem_cons_succ]; go_simp; try with_reducible rfl)
  simp only [List.getElem_toArray, List.getElem_cons_zero, List.getElem_cons_succ, Act.put, List.setIfInBounds_toArray, List.set_cons_zero, List.set_cons_succ]
  refine wpAnyL_takeDir (i := 8) (v := ?_) (by kernel_rfl) rfl (by kernel_rfl) (by kernel_rfl) (by kernel_rfl) (fun _ _ _ h => h) (Or.inl ⟨by rfl, ?_⟩) hHeld ?_
  rotate_left
  · (intro w hSw; (try dsimp only at hSw); simp only [List.getElem_toArray, List.getElem_cons_zero, List.getElem_cons_succ]; go_simp; try with_reducible rfl)
  simp only [List.getElem_toArray, List.getElem_cons_zero, List.getElem_cons_succ, Act.put, List.setIfInBounds_toArray, List.set_cons_zero, List.set_cons_succ]
  refine wpAnyL_takeDir (i := 9) (v := ?_) (by kernel_rfl) rfl (by kernel_rfl) (by kernel_rfl) (by kernel_rfl) (fun _ _ _ h => h) (Or.inl ⟨by rfl, ?_⟩) hHeld ?_
  rotate_left
  · (intro w hSw; (try dsimp only at hSw); simp only [List.getElem_toArray, List.getElem_cons_zero, List.getElem_cons_succ]; go_simp; try with_reducible rfl)
  simp only [List.getElem_toArray, List.getElem_cons_zero, List.getElem_cons_succ, Act.put, List.setIfInBounds_toArray, List.set_cons_zero, List.set_cons_succ]
  refine wpAnyL_takeDir (i := 10) (v := ?_) (by kernel_rfl) rfl (by kernel_rfl) (by kernel_rfl) (by kernel_rfl) (fun _ _ _ h => h) (Or.inl ⟨by rfl, ?_⟩) hHeld ?_
  rotate_left
  · (intro w hSw; (try dsimp only at hSw); simp only [List.getElem_toArray, List.getElem_cons_zero, List.getElem_cons_succ]; go_simp; try with_reducible rfl)
  simp only [List.getElem_toArray, List.getElem_cons_zero, List.getElem_cons_succ, Act.put, List.setIfInBounds_toArray, List.set_cons_zero, List.set_cons_succ]
  refine wpAnyL_takeDir (i := 11) (v := ?_) (by kernel_rfl) rfl (by kernel_rfl) (by kernel_rfl) (by kernel_rfl) (fun _ _ _ h => h) (Or.inl ⟨by rfl, ?_⟩) hHeld ?_
  rotate_left
  · (intro w hSw; (try dsimp only at hSw); simp only [List.getElem_toArray, List.getElem_cons_zero, List.getElem_cons_succ]; go_simp; try with_reducible rfl)
  simp only [List.getElem_toArray, List.getElem_cons_zero, List.getElem_cons_succ, Act.put, List.setIfInBounds_toArray, List.set_cons_zero, List.set_cons_succ]
  refine wpAnyL_takeDir (i := 12) (v := ?_) (by kernel_rfl) rfl (by kernel_rfl) (by kernel_rfl) (by kernel_rfl) (fun _ _ _ h => h) (Or.inl ⟨by rfl, ?_⟩) hHeld ?_
  rotate_left
  · (intro w hSw; (try dsimp only at hSw); simp only [List.getElem_toArray, List.getElem_cons_zero, List.getElem_cons_succ]; go_simp; try with_reducible rfl)
  simp only [List.getElem_toArray, List.getElem_cons_zero, List.getElem_cons_succ, Act.put, List.setIfInBounds_toArray, List.set_cons_zero, List.set_cons_succ]
  refine wpAnyL_takeDir (i := 13) (v := ?_) (by kernel_rfl) rfl (by kernel_rfl) (by kernel_rfl) (by kernel_rfl) (fun _ _ _ h => h) (Or.inl ⟨by rfl, ?_⟩) hHeld ?_
  rotate_left
  · (intro w hSw; (try dsimp only at hSw); simp only [List.getElem_toArray, List.getElem_cons_zero, List.getElem_cons_succ]; go_simp; try with_reducible rfl)
  simp only [List.getElem_toArray, List.getElem_cons_zero, List.getElem_cons_succ, Act.put, List.setIfInBounds_toArray, List.set_cons_zero, List.set_cons_succ]
  refine wpAnyL_takeDir (i := 14) (v := ?_) (by kernel_rfl) rfl (by kernel_rfl) (by kernel_rfl) (by kernel_rfl) (fun _ _ _ h => h) (Or.inl ⟨by rfl, ?_⟩) hHeld ?_
  rotate_left
  · (intro w hSw; (try dsimp only at hSw); simp only [List.getElem_toArray, List.getElem_cons_zero, List.getElem_cons_succ]; go_simp; try with_reducible rfl)
  simp only [List.getElem_toArray, List.getElem_cons_zero, List.getElem_cons_succ, Act.put, List.setIfInBounds_toArray, List.set_cons_zero, List.set_cons_succ]
  refine wpAnyL_takeDir (i := 15) (v := ?_) (by kernel_rfl) rfl (by kernel_rfl) (by kernel_rfl) (by kernel_rfl) (fun _ _ _ h => h) (Or.inl ⟨by rfl, ?_⟩) hHeld ?_
  rotate_left
  · (intro w hSw; (try dsimp only at hSw); simp only [List.getElem_toArray, List.getElem_cons_zero, List.getElem_cons_succ]; go_simp; try with_reducible rfl)
  simp only [List.getElem_toArray, List.getElem_cons_zero, List.getElem_cons_succ, Act.put, List.setIfInBounds_toArray, List.set_cons_zero, List.set_cons_succ]
  refine wpAnyL_takeDir (i := 16) (v := ?_) (by kernel_rfl) rfl (by kernel_rfl) (by kernel_rfl) (by kernel_rfl) (fun _ _ _ h => h) (Or.inl ⟨by rfl, ?_⟩) hHeld ?_
  rotate_left
  · (intro w hSw; (try dsimp only at hSw); simp only [List.getElem_toArray, List.getElem_cons_zero, List.getElem_cons_succ]; go_simp; try with_reducible rfl)
  simp only [List.getElem_toArray, List.getElem_cons_zero, List.getElem_cons_succ, Act.put, List.setIfInBounds_toArray, List.set_cons_zero, List.set_cons_succ]
  refine wpAnyL_takeDir (i := 17) (v := ?_) (by kernel_rfl) rfl (by kernel_rfl) (by kernel_rfl) (by kernel_rfl) (fun _ _ _ h => h) (Or.inl ⟨by rfl, ?_⟩) hHeld ?_
  rotate_left
  · (intro w hSw; (try dsimp only at hSw); simp only [List.getElem_toArray, List.getElem_cons_zero, List.getElem_cons_succ]; go_simp; try with_reducible rfl)
  simp only [List.getElem_toArray, List.getElem_cons_zero, List.getElem_cons_succ, Act.put, List.setIfInBounds_toArray, List.set_cons_zero, List.set_cons_succ]
  refine wpAnyL_takeDir (i := 18) (v := ?_) (by kernel_rfl) rfl (by kernel_rfl) (by kernel_rfl) (by kernel_rfl) (fun _ _ _ h => h) (Or.inl ⟨by rfl, ?_⟩) hHeld ?_
  rotate_left
  · (intro w hSw; (try dsimp only at hSw); simp only [List.getElem_toArray, List.getElem_cons_zero, List.getElem_cons_succ]; go_simp; try with_reducible rfl)
  simp only [List.getElem_toArray, List.getElem_cons_zero, List.getElem_cons_succ, Act.put, List.setIfInBounds_toArray, List.set_cons_zero, List.set_cons_succ]
  refine wpAnyL_takeDir (i := 19) (v := ?_) (by kernel_rfl) rfl (by kernel_rfl) (by kernel_rfl) (by kernel_rfl) (fun _ _ _ h => h) (Or.inl ⟨by rfl, ?_⟩) hHeld ?_
  rotate_left
  · (intro w hSw; (try dsimp only at hSw); simp only [List.getElem_toArray, List.getElem_cons_zero, List.getElem_cons_succ]; go_simp; try with_reducible rfl)
  simp only [List.getElem_toArray, List.getElem_cons_zero, List.getElem_cons_succ, Act.put, List.setIfInBounds_toArray, List.set_cons_zero, List.set_cons_succ]
  refine wpAnyL_takeDir (i := 20) (v := ?_) (by kernel_rfl) rfl (by kernel_rfl) (by kernel_rfl) (by kernel_rfl) (fun _ _ _ h => h) (Or.inl ⟨by rfl, ?_⟩) hHeld ?_
  rotate_left
  · (intro w hSw; (try dsimp only at hSw); simp only [List.getElem_toArray, List.getElem_cons_zero, List.getElem_cons_succ]; go_simp; try with_reducible rfl)
  simp only [List.getElem_toArray, List.getElem_cons_zero, List.getElem_cons_succ, Act.put, List.setIfInBounds_toArray, List.set_cons_zero, List.set_cons_succ]
  refine wpAnyL_takeDir (i := 21) (v := ?_) (by kernel_rfl) rfl (by kernel_rfl) (by kernel_rfl) (by kernel_rfl) (fun _ _ _ h => h) (Or.inl ⟨by rfl, ?_⟩) hHeld ?_
  rotate_left
  · (intro w hSw; (try dsimp only at hSw); simp only [List.getElem_toArray, List.getElem_cons_zero, List.getElem_cons_succ]; go_simp; try with_reducible rfl)
  simp only [List.getElem_toArray, List.getElem_cons_zero, List.getElem_cons_succ, Act.put, List.setIfInBounds_toArray, List.set_cons_zero, List.set_cons_succ]
  refine wpAnyL_takeDir (i := 22) (v := ?_) (by kernel_rfl) rfl (by kernel_rfl) (by kernel_rfl) (by kernel_rfl) (fun _ _ _ h => h) (Or.inl ⟨by rfl, ?_⟩) hHeld ?_
  rotate_left
  · (intro w hSw; (try dsimp only at hSw); simp only [List.getElem_toArray, List.getElem_cons_zero, List.getElem_cons_succ]; go_simp; try with_reducible rfl)
  simp only [List.getElem_toArray, List.getElem_cons_zero, List.getElem_cons_succ, Act.put, List.setIfInBounds_toArray, List.set_cons_zero, List.set_cons_succ]
  refine wpAnyL_takeDir (i := 23) (v := ?_) (by kernel_rfl) rfl (by kernel_rfl) (by kernel_rfl) (by kernel_rfl) (fun _ _ _ h => h) (Or.inl ⟨by rfl, ?_⟩) hHeld ?_
  rotate_left
  · (intro w hSw; (try dsimp only at hSw); simp only [List.getElem_toArray, List.getElem_cons_zero, List.getElem_cons_succ]; go_simp; try with_reducible rfl)
  simp only [List.getElem_toArray, List.getElem_cons_zero, List.getElem_cons_succ, Act.put, List.setIfInBounds_toArray, List.set_cons_zero, List.set_cons_succ]
  refine wpAnyL_takeDir (i := 24) (v := ?_) (by kernel_rfl) rfl (by kernel_rfl) (by kernel_rfl) (by kernel_rfl) (fun _ _ _ h => h) (Or.inl ⟨by rfl, ?_⟩) hHeld ?_
  rotate_left
  · (intro w hSw; (try dsimp only at hSw); simp only [List.getElem_toArray, List.getElem_cons_zero, List.getElem_cons_succ]; go_simp; try with_reducible rfl)
  simp only [List.getElem_toArray, List.getElem_cons_zero, List.getElem_cons_succ, Act.put, List.setIfInBounds_toArray, List.set_cons_zero, List.set_cons_succ]
  refine wpAnyL_takeDir (i := 25) (v := ?_) (by kernel_rfl) rfl (by kernel_rfl) (by kernel_rfl) (by kernel_rfl) (fun _ _ _ h => h) (Or.inl ⟨by rfl, ?_⟩) hHeld ?_
  rotate_left
  · (intro w hSw; (try dsimp only at hSw); simp only [List.getElem_toArray, List.getElem_cons_zero, List.getElem_cons_succ]; go_simp; try with_reducible rfl)
  simp only [List.getElem_toArray, List.getElem_cons_zero, List.getElem_cons_succ, Act.put, List.setIfInBounds_toArray, List.set_cons_zero, List.set_cons_succ]
  refine wpAnyL_takeDir (i := 26) (v := ?_) (by kernel_rfl) rfl (by kernel_rfl) (by kernel_rfl) (by kernel_rfl) (fun _ _ _ h => h) (Or.inl ⟨by rfl, ?_⟩) hHeld ?_
  rotate_left
  · (intro w hSw; (try dsimp only at hSw); simp only [List.getElem_toArray, List.getElem_cons_zero, List.getElem_cons_succ]; go_simp; try with_reducible rfl)
  simp only [List.getElem_toArray, List.getElem_cons_zero, List.getElem_cons_succ, Act.put, List.setIfInBounds_toArray, List.set_cons_zero, List.set_cons_succ]
  refine wpAnyL_takeDir (i := 27) (v := ?_) (by kernel_rfl) rfl (by kernel_rfl) (by kernel_rfl) (by kernel_rfl) (fun _ _ _ h => h) (Or.inl ⟨by rfl, ?_⟩) hHeld ?_
  rotate_left
  · (intro w hSw; (try dsimp only at hSw); simp only [List.getElem_toArray, List.getElem_cons_zero, List.getElem_cons_succ]; go_simp; try with_reducible rfl)
  simp only [List.getElem_toArray, List.getElem_cons_zero, List.getElem_cons_succ, Act.put, List.setIfInBounds_toArray, List.set_cons_zero, List.set_cons_succ]
  refine wpAnyL_takeDir (i := 28) (v := ?_) (by kernel_rfl) rfl (by kernel_rfl) (by kernel_rfl) (by kernel_rfl) (fun _ _ _ h => h) (Or.inl ⟨by rfl, ?_⟩) hHeld ?_
  rotate_left
  · (intro w hSw; (try dsimp only at hSw); simp only [List.getElem_toArray, List.getElem_cons_zero, List.getElem_cons_succ]; go_simp; try with_reducible rfl)
  simp only [List.getElem_toArray, List.getElem_cons_zero, List.getElem_cons_succ, Act.put, List.setIfInBounds_toArray, List.set_cons_zero, List.set_cons_succ]
  refine wpAnyL_end (by kernel_rfl) rfl rfl (by kernel_rfl) (fun K hK => ?_)
  simp only [List.getElem_toArray, List.getElem_cons_zero, List.getElem_cons_succ]
  refine wp_store_row 35 (.tmp 32) (.tmp 31) rfl (s + 3) (dcells s sd0) rfl rfl 35 (dnew s) hd (by kernel_rfl) rfl (by simp [dcells, Value.oneCell']) (hK.out _ _ ?_)
  clear hK K hHeld
  refine ⟨rfl, .tuple #[], by kernel_rfl, rfl, _, rfl⟩
end Go.Proofs.YbulkxmoDoor
