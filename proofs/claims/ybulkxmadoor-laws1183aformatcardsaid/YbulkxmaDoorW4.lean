/-
  strconv.FormatUint at base 10.
-/
import Derived.Test.YbulkxmaDoorData
import Derived.Test.YbulkxmaDoorShelf2
import Derived.Lib.ItoaMem
import Derived.Lib.SmallJoins
import Derived.Lib.LaidTab
import Derived.Lib.AppendIntMem
namespace Go.Proofs.YbulkxmaDoor
open Go.RowKit Go.Sort

/-- the table of powers of ten: its name -/
def tabName : String := ((Rows.lawS1183AModelRow.laid.drop 2).map Prod.fst).headD ""

theorem holds_zero0 (w : World) (T : TypeId) (nd : Nat) (hs : nd ≤ 24) : Holds (fun (b : UInt8) => Value.int .u8 (b.toNat : Int)) (w.alloc (.cells Lib.zeros24 T)) w.heap.size 0 (Array.replicate nd (0 : UInt8)) := fun j hj => by
  have hj' : j < nd := by simpa using hj
  refine ⟨?_, World.frozen?_alloc_new _ _ _ _⟩
  rw [World.cell?_alloc_new, Lib.zeros24_at _ (by omega), getElem!_pos _ j hj]
  simp

theorem below_put (w : World) (o : Obj) (dk : Array UInt8) (k : Nat) : Below w.heap.size w ((putRow (fun (b : UInt8) => Value.int .u8 (b.toNat : Int)) (w.alloc o) w.heap.size 0 dk).drewN k) := by
  rw [alloc_eq_grow]
  obtain ⟨os', _, e⟩ := putRow_grow_new (fun (b : UInt8) => Value.int .u8 (b.toNat : Int)) w #[o] w.heap.size 0 dk (Nat.le_refl _)
  rw [e]
  exact Lib.below_grow _ _ (Nat.le_refl _) _ _

set_option maxRecDepth 100000 in
set_option maxHeartbeats 4000000 in
theorem fmtU_any (u : Nat) (hu64 : u < 18446744073709551616) (w : World) (htab : Lib.TabIs Ybad.prog w tabName .u64 Lib.pow10Tab) :
    Calls Ybad.prog 23 #[.int .u64 u, .int .i64 10] w fun e w' => e = .returned (.string ⟨(Lib.decDigits u).toArray⟩) ∧ Below w.heap.size w w' := by
  by_cases hs : u < 100
  · go_enter Ybad.func23, Ybad.ntmps23
    go_wp2_with fail
    refine (Ybad.internal_strconv_small u hs _).mono ?_
    rintro e w' ⟨rfl, rfl⟩
    go_wp2
    go_ret
    exact ⟨rfl, Below.refl _ _⟩
  · have hu1 : 1 ≤ u := by omega
    have hnd20 : Lib.nDigits u ≤ 20 := by have := Lib.numDigits_eq u hu1 hu64; split at this <;> omega
    have hH0 := holds_zero0 w 58 (Lib.nDigits u) (by omega)
    have hfmt := Ybad.internal_strconv_formatBase10 w.heap.size 0 24 u (Array.replicate (Lib.nDigits u) 0) (w.alloc (.cells Lib.zeros24 58)) hH0 (by rw [Array.size_replicate]; exact Lib.lt_pow_nDigits u) hu64 (by rw [Array.size_replicate]; omega)
    rw [Array.size_replicate] at hfmt
    have HH0 := Lib.hid hH0
    have HND : ∀ o, Calls Ybad.prog 32 #[.int .u64 u] (w.alloc o) fun e w' => e = .returned (.int .i64 (Lib.nDigits u)) ∧ w' = w.alloc o := fun o => Any.internal_strconv_numDigits Ybad.laysM284 u hu1 hu64 _ (Lib.tabIs_alloc htab _)
    clear hH0
    have hsl : ∀ W, (Instr.sliceAt 58 (.pointer (some ⟨w.heap.size, 0, none⟩)) none (some (.int .i64 (Lib.nDigits u : Int))) none).run Ybad.prog W = .ok (.slice (some ⟨w.heap.size, 0, none⟩) (Lib.nDigits u) 24) W := fun W => by
      have hal : Ybad.prog.arrayLen 58 = 24 := by kernel_rfl
      have hel : (sizeOf (Ybad.prog.elem 58)).run Ybad.prog W = .ok 1 W := by kernel_rfl
      rw [run_sliceAt_array_h W 58 ⟨w.heap.size, 0, none⟩ (by kernel_rfl) .i64 (Lib.nDigits u : Int) (by omega) (by rw [hal]; omega), hel, hal]
      simp [Result.andThen, slicedAt, Addr.add]
    go_enter Ybad.func23, Ybad.ntmps23
    go_wp2_with fail
    refine (HND _).mono ?_
    rintro e w' ⟨rfl, rfl⟩
    go_wp2_with fail
    refine hfmt.mono ?_
    rintro e w' ⟨rfl, k, v', dk, rfl, hF⟩
    have hcv : (convert 22 9 (.slice (some ⟨w.heap.size, 0, none⟩) (Lib.nDigits u) 24)).run Ybad.prog ((putRow (fun (b : UInt8) => Value.int .u8 (b.toNat : Int)) (w.alloc (.cells Lib.zeros24 58)) w.heap.size 0 dk).drewN k) = .ok (.string ⟨(Lib.decDigits u).toArray⟩) ((putRow (fun (b : UInt8) => Value.int .u8 (b.toNat : Int)) (w.alloc (.cells Lib.zeros24 58)) w.heap.size 0 dk).drewN k) := by
      have h := run_convert_bytes_back (P := Ybad.prog) ((putRow (fun (b : UInt8) => Value.int .u8 (b.toNat : Int)) (w.alloc (.cells Lib.zeros24 58)) w.heap.size 0 dk).drewN k) 22 9 5 ⟨w.heap.size, 0, none⟩ 24 (Lib.decDigits u) Ybad.underlying22 Ybad.underlying5 Ybad.underlying9 (fun j hj => by
        rw [Lib.row_is_numeral hF j hj, Lib.add_plain, World.cell?_drewN]
        exact cell?_putRow (fun (b : UInt8) => Value.int .u8 (b.toNat : Int)) _ w.heap.size 0 _ dk HH0.out (by rw [hF.size, Array.size_replicate]) j (by rw [hF.size]; rw [Lib.decDigits_length] at hj; exact hj))
      rw [Lib.decDigits_length] at h
      exact h
    go_wp2
    go_ret
    exact ⟨rfl, below_put w _ dk k⟩

set_option maxRecDepth 100000 in
theorem formatUint_any (u : Nat) (hu64 : u < 18446744073709551616) (w : World) (htab : Lib.TabIs Ybad.prog w tabName .u64 Lib.pow10Tab) :
    Calls Ybad.prog 11 #[.int .u64 u, .int .i64 10] w fun e w' => e = .returned (.string ⟨(Lib.decDigits u).toArray⟩) ∧ Below w.heap.size w w' := by
  go_enter Ybad.func11, Ybad.ntmps11
  go_wp2_with fail
  refine (fmtU_any u hu64 w htab).mono ?_
  rintro e w' ⟨rfl, hb⟩
  go_wp2
  go_ret
  exact ⟨rfl, hb⟩

theorem formatInt_any (n : Int) (h0 : -9223372036854775808 ≤ n) (h1 : n ≤ 9223372036854775807) (w : World) (htab : Lib.TabIs Ybad.prog w tabName .u64 Lib.pow10Tab) :
    Calls Ybad.prog 10 #[.int .i64 n, .int .i64 10] w fun e w' => e = .returned (.string ⟨(Lib.itoa n).toArray⟩) ∧ Below w.heap.size w w' := by
  refine (Any.strconv_FormatInt_10 Ybad.laysM173 n h0 h1 w htab).mono ?_
  rintro e w' ⟨rfl, k, os, rfl⟩
  exact ⟨rfl, Lib.below_grow _ _ (Nat.le_refl _) _ _⟩
end Go.Proofs.YbulkxmaDoor
