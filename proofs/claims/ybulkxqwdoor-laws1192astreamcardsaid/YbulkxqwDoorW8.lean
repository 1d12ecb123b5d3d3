/-
  The law.
-/
import Derived.Test.YbulkxqwDoorW7
import Derived.LaidEql
set_option linter.unusedSimpArgs false
namespace Go.Proofs.YbulkxqwDoor
open Go.RowKit

theorem made_zero (n : Nat) : madeCells (Value.int .u8 0).cells n = (bvl (List.replicate n 0)).toArray := by
  apply Array.ext
  · simp [madeCells, bvl]
  · intro i h1 h2
    simp [madeCells, bvl, Value.cells, Nat.mod_one]

theorem neq_same (a : Addr) (W : World) : (binOp .neq 33 (.iface 44 (.pointer (some a))) (.iface 44 (.pointer (some a)))).run Ybad.prog W = .ok (.bool false) W := by
  simp only [binOp]
  simp [Op.equal, Op.maxDepth, run_equalIn_iface_ptr_same (P := Ybad.prog) W 9998 (ti := 33) (tp := 44) a Ybad.underlying33 Ybad.underlying44 rfl (by kernel_rfl) rfl]

def lw (s : Nat) (w : World) (a a2 : Option Addr) (n n2 cap cap2 : Nat) (ew : Bool) (M : Array Value) (bs : Nat) (tv : Value) : World :=
  (((w.alloc (.cells #[.slice a n cap, .slice a2 n2 cap2, .int .i64 0, .bool ew] 25)).alloc (.cells #[.slice none 0 0] 28)).alloc (.cells M 5)).alloc (.cells #[.iface 23 (.pointer (some ⟨s, 0, none⟩)), .nilIface, .slice (some ⟨s + 2, 0, none⟩) bs bs, .int .i64 0, .int .i64 0, .int .i64 0, tv, .int .i64 0] 37)

def sd0 (a : Option Addr) (cap bs : Nat) : Sd := ⟨0, 0, a, cap, 0, 0, 0, 0, false, List.replicate bs 0, .slice none 0 0, []⟩

theorem inv0 (F : Fx) (a : Option Addr) (cap bs : Nat) : Inv F (sd0 a cap bs) :=
  ⟨rfl, Nat.le_refl _, Nat.zero_le _, Nat.zero_le _, Nat.le_refl _, (fun j hj => by have : j < 0 := hj; omega), Nat.le_refl _, (fun h => by cases h), Nat.le_refl _, Nat.zero_le _, (fun _ => by simp [sd0]), fun _ => rfl⟩

theorem lw_below (s : Nat) (w : World) (hs : s = w.heap.size) (a a2 : Option Addr) (n n2 cap cap2 : Nat) (ew : Bool) (M : Array Value) (bs : Nat) (tv : Value) : Below s w (lw s w a a2 n n2 cap cap2 ew M bs tv) := by
  subst hs
  exact ((((Below.refl _ w).alloc (Nat.le_refl _) _).alloc (by simp) _).alloc (by simp; omega) _).alloc (by simp; omega) _

theorem lw_at (F : Fx) (w : World) (hs : F.s = w.heap.size) (a : Option Addr) (cap : Nat) (hB : Bts w a F.bd F.od cap F.L) (hN : Bts w F.ca F.bc F.oc F.cc F.Ch) (tv : Value) (htv : tv = if F.ut then .iface 26 (.pointer (some ⟨F.s + 1, 0, none⟩)) else .nilIface) (hE : w.cell? ⟨0, 0, none⟩ = some (eofV F)) (h0 : 0 < w.heap.size) :
    At F (lw F.s w a F.ca F.L.length F.Ch.length cap F.cc F.ew (bvl (List.replicate F.bs 0)).toArray F.bs tv) (sd0 a cap F.bs) := by
  have e1 : ∀ (W : World) (O : Obj) (j : Nat), j < W.heap.size → (W.alloc O).heap[j]? = W.heap[j]? := fun W O j h => heap_alloc_old W O h
  have hbel := lw_below F.s w hs a F.ca F.L.length F.Ch.length cap F.cc F.ew (bvl (List.replicate F.bs 0)).toArray F.bs tv
  refine ⟨?_, ?_, ?_, ?_, ⟨rfl, .inl ⟨rfl, rfl⟩⟩, by simp [sd0], fun h => ?_, hB.lc, fun i hi => ?_, fun h => ?_, fun i hi => ?_, hN.ad, fun h => ?_, ?_, by omega⟩
  · rw [lw, e1 _ _ _ (by simp; omega), e1 _ _ _ (by simp; omega), e1 _ _ _ (by simp; omega), heap_new _ _ _ hs]; rfl
  · rw [lw, e1 _ _ _ (by simp; omega), e1 _ _ _ (by simp; omega), heap_new _ _ _ (by simp; omega)]; rfl
  · rw [lw, e1 _ _ _ (by simp; omega), heap_new _ _ _ (by simp; omega)]; rfl
  · rw [lw, heap_new _ _ _ (by simp; omega)]
    rw [htv]
    rfl
  · have h : 0 < F.L.length := h
    show a = some ⟨F.bd, F.od + 0, none⟩
    exact hB.ad (by intro e; rw [e] at h; simp at h)
  · exact (hbel.cell (p := ⟨F.bd, F.od + i, none⟩) (by rw [hs]; exact World.block_lt_of_cell? w _ (hB.cells i hi))).trans (hB.cells i hi)
  · have hp : 0 < F.L.length := List.length_pos_iff.2 h
    rw [hs]; exact World.block_lt_of_cell? w _ (hB.cells 0 hp)
  · exact (hbel.cell (p := ⟨F.bc, F.oc + i, none⟩) (by rw [hs]; exact World.block_lt_of_cell? w _ (hN.cells i hi))).trans (hN.cells i hi)
  · have hp : 0 < F.Ch.length := List.length_pos_iff.2 h
    rw [hs]; exact World.block_lt_of_cell? w _ (hN.cells 0 hp)
  · exact (hbel.cell (p := ⟨0, 0, none⟩) (by rw [hs]; exact h0)).trans hE

end Go.Proofs.YbulkxqwDoor
