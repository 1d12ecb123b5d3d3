/-
  The reader's Read where there is something left.
-/
import Derived.Test.YbulkxqwDoorW1
set_option linter.unusedSimpArgs false
namespace Go.Proofs.YbulkxqwDoor
open Go.RowKit

theorem run_front (b o len cap n : Nat) (h : n ≤ cap) (w : World) :
    (Instr.sliceAt 22 (.slice (some ⟨b, o, none⟩) len cap) none (some (.int .i64 (n : Int))) none).run Ybad.prog w = .ok (.slice (some ⟨b, o, none⟩) n cap) w := by
  go_simp

theorem run_tail (b o len cap n : Nat) (h : n ≤ len) (hc : len ≤ cap) :
    ∃ a', (∀ w : World, (Instr.sliceAt 22 (.slice (some ⟨b, o, none⟩) len cap) (some (.int .i64 (n : Int))) none none).run Ybad.prog w = .ok (.slice a' (len - n) (cap - n)) w) ∧ (n < len → a' = some ⟨b, o + n, none⟩) := by
  by_cases hn : n = cap
  · subst hn
    obtain rfl : n = len := by omega
    refine ⟨some ⟨b, o, none⟩, fun w => ?_, fun h => by omega⟩
    go_simp
  · refine ⟨some ⟨b, o + n, none⟩, fun w => ?_, fun _ => rfl⟩
    have h1 : n < cap := by omega
    have h2 : cap ≠ n := by omega
    go_simp

/-- the copy into the buffer -/
theorem cp2 {F : Fx} {w : World} {x : Sd} (A : At F w x) (n : Nat) (hn : n ≤ F.L.length - x.rp) (hb : n ≤ F.bs) (W : World) (hW : ∀ k, k ≠ F.s → W.heap[k]? = w.heap[k]?) :
    (Builtin.copy_ #[22, 22] 3 #[.slice (some ⟨F.s + 2, 0, none⟩) F.bs F.bs, .slice (some ⟨F.bd, F.od + x.rp, none⟩) n x.dc]).run Ybad.prog W = .ok (.int .i64 n) (W.setRow (F.s + 2) (bvl (splice x.bf 0 ((F.L.drop x.rp).take n))).toArray) := by
  have hlen : ((F.L.drop x.rp).take n).length = n := by simp; omega
  have := run_cp W (F.s + 2) 0 F.bs F.bs ⟨F.bd, F.od + x.rp, none⟩ n x.dc x.bf ((F.L.drop x.rp).take n) ((hW _ (by omega)).trans A.buf) (by rw [hlen]; exact (Nat.min_eq_left hb).symm) (fun j hj => by
    have hj' : x.rp + j < F.L.length := by rw [hlen] at hj; omega
    have e : (⟨F.bd, F.od + x.rp, none⟩ : Addr).add j = ⟨F.bd, F.od + (x.rp + j), none⟩ := by unfold Addr.add; split <;> simp_all [Nat.add_assoc]
    have hlt := A.dlt (by intro e; rw [e] at hj'; simp at hj')
    rw [e, World.cell?_of_block (w := w) (hW _ (by show F.bd ≠ F.s; omega)), A.dl (x.rp + j) hj']
    simp) (by rw [hlen, A.bl]; omega)
  rw [hlen] at this
  exact this

theorem heap_set_other {w : World} {g k j : Nat} {v : Value} (h : k ≠ g) : (w.setCell ⟨g, j, none⟩ v).heap[k]? = w.heap[k]? := Below.heap_setCell _ _ _ _ h

/-- the state behind a read -/
def readSd (F : Fx) (x : Sd) (n : Nat) (a' : Option Addr) : Sd := { x with rp := x.rp + n, kk := x.kk + 1, da := a', dc := x.dc - n, bf := splice x.bf 0 ((F.L.drop x.rp).take n) }

theorem read_at {F : Fx} {w : World} {x : Sd} (A : At F w x) (n : Nat) (a' : Option Addr) (hn : n ≤ F.L.length - x.rp) (hb : n ≤ F.bs) (ha : n < F.L.length - x.rp → a' = some ⟨F.bd, F.od + x.rp + n, none⟩) :
    At F (((w.setCell ⟨F.s, 2, none⟩ (.int .i64 ((x.kk : Int) + 1))).setRow (F.s + 2) (bvl (splice x.bf 0 ((F.L.drop x.rp).take n))).toArray).setCell ⟨F.s, 0, none⟩ (.slice a' (F.L.length - x.rp - n) (x.dc - n))) (readSd F x n a') ∧
    Below F.s w (((w.setCell ⟨F.s, 2, none⟩ (.int .i64 ((x.kk : Int) + 1))).setRow (F.s + 2) (bvl (splice x.bf 0 ((F.L.drop x.rp).take n))).toArray).setCell ⟨F.s, 0, none⟩ (.slice a' (F.L.length - x.rp - n) (x.dc - n))) := by
  have B0 : Below F.s w w := Below.refl _ _
  have hbel := (below_setRow (B0.setCell (by show F.s ≤ F.s; omega) (.int .i64 ((x.kk : Int) + 1)) (p := ⟨F.s, 2, none⟩)) (g := F.s + 2) (by omega) (bvl (splice x.bf 0 ((F.L.drop x.rp).take n))).toArray).setCell (p := ⟨F.s, 0, none⟩) (by show F.s ≤ F.s; omega) (.slice a' (F.L.length - x.rp - n) (x.dc - n))
  have hs1 := heap_setCell_at (w := w) A.rdr (k := 2) (.int .i64 ((x.kk : Int) + 1))
  refine ⟨A.keep hbel ?_ ?_ ?_ ?_ ?_ ?_ ?_ ?_, hbel⟩
  · have h2 := (setRow_other (w.setCell ⟨F.s, 2, none⟩ (.int .i64 ((x.kk : Int) + 1))) (F.s + 2) F.s (bvl (splice x.bf 0 ((F.L.drop x.rp).take n))).toArray (by omega)).trans hs1
    have h3 := heap_setCell_at h2 (k := 0) (.slice a' (F.L.length - x.rp - n) (x.dc - n))
    rw [h3]
    simp [rcells, readSd, Nat.sub_sub]
  · rw [heap_set_other (by omega), setRow_other _ _ _ _ (by omega), heap_set_other (by omega)]; exact A.tee
  · rw [heap_set_other (by omega)]
    exact setRow_heap _ _ (bvl x.bf).toArray _ _ _ (by rw [heap_set_other (by omega)]; exact A.buf)
  · rw [heap_set_other (by omega), setRow_other _ _ _ _ (by omega), heap_set_other (by omega)]; exact A.src
  · exact own_other A.row (fun j hj => by rw [heap_set_other (by omega), setRow_other _ _ _ _ (by omega), heap_set_other (by omega)])
  · show (splice x.bf 0 _).length = _
    rw [length_splice _ _ _ (by have := A.bl; simp; omega)]; exact A.bl
  · intro h
    have h : x.rp + n < F.L.length := h
    show a' = some ⟨F.bd, F.od + (x.rp + n), none⟩
    rw [ha (by omega), Nat.add_assoc]
  · show F.L.length - (x.rp + n) ≤ x.dc - n
    have := A.dc
    omega
end Go.Proofs.YbulkxqwDoor
