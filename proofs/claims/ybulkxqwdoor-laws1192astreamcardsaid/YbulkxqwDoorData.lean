/-
  A slice of bytes that came in, opened; what the listed variables give.
-/
import Derived.Test.YbulkxqwDoorW9
import Derived.LaidMore
import Derived.OpenShut
import Derived.Stop.Joined
import Derived.Stop.LaidErr
namespace Go.Proofs.YbulkxqwDoor
open Go.ChangeShapes Go.WideShapes Go.ChangeAt Go.RowKit Go.Deep

theorem Ybad.cells5 : Ybad.prog.cellsOf 5 = 1 := by kernel_rfl
theorem Ybad.cells9 : Ybad.prog.cellsOf 9 = 1 := by kernel_rfl
theorem Ybad.cells64 : Ybad.prog.cellsOf 64 = 1 := by kernel_rfl

theorem add_cell (x : Addr) (n : Nat) (h : x.spot = none) : x.add n = ⟨x.block, x.off + n, none⟩ := by
  unfold Addr.add
  split
  · subst n; cases x; simp_all
  · rfl

theorem spot_none {w : World} {x : Addr} {v : Value} (h : w.cell? x = some v) : x.spot = none := by
  unfold World.cell? at h
  split at h
  · split at h
    · cases h
    · rename_i hn
      cases hs : x.spot with
      | none => rfl
      | some _ => simp [hs] at hn
  · cases h

section
variable {H : Type} {enc : TypeId × Value → H} {w : World} {base : Nat} {spare : Nat → Bool} {held : Bool}

theorem open_bytes {a : Option Addr} {len cap : Nat} {d : DataW H} {ps : List MemPlace} (h : DataW.Trod enc Ybad.prog w base spare held 22 (.slice a len cap) d ps) :
    ∃ (b o : Nat) (l : List UInt8), l.length = len ∧ Bts w a b o cap l ∧ len ≤ maxLen := by
  obtain ⟨fuel, hf⟩ := h
  rcases open_slice1 Ybad.underlying22 Ybad.cells5 hf with ⟨hcs, _⟩ | ⟨x, l, c, m, n, V, D, Pl, hcs, hb, hl, hm, hmm, _, hx⟩
  · simp [Value.cells] at hcs
    obtain ⟨rfl, rfl, rfl⟩ := hcs
    exact ⟨0, 0, [], rfl, ⟨by simp, by simp, by simp⟩, by simp⟩
  · simp [Value.cells] at hcs
    obtain ⟨rfl, rfl, rfl⟩ := hcs
    have hlm : len ≤ m := by rw [hmm]; split <;> omega
    have hcells : ∀ i, i < len → ∃ u : UInt8, w.cell? ⟨x.block, x.off + i, none⟩ = some (.int .u8 (u.toNat : Int)) ∧ (i = 0 → x.spot = none) := by
      intro i hi
      obtain ⟨h1, h2⟩ := hx i (by omega)
      obtain ⟨k, e, _, hw⟩ := DataW.trod_int Ybad.underlying5 h2
      simp at e
      rw [e] at h1
      have hs : i = 0 → x.spot = none := by
        intro h0
        subst h0
        have : x.add 0 = x := by simp [Addr.add]
        rw [this] at h1
        exact spot_none h1
      have hs' : x.add i = ⟨x.block, x.off + i, none⟩ := by
        by_cases h0 : i = 0
        · exact add_cell x _ (hs h0)
        · unfold Addr.add
          rw [if_neg h0]
      rw [hs'] at h1
      simp [Lit.wf, IntKind.min, IntKind.max, IntKind.signed, IntKind.bits] at hw
      refine ⟨UInt8.ofNat k.toNat, ?_, hs⟩
      rw [h1, UInt8.toNat_ofNat_of_lt' (by show k.toNat < 256; omega)]
      congr 2
      omega
    obtain ⟨f, hf'⟩ := choose_lt (α := UInt8) (p := fun i u => w.cell? ⟨x.block, x.off + i, none⟩ = some (.int .u8 (u.toNat : Int)) ∧ (i = 0 → x.spot = none)) hcells
    refine ⟨x.block, x.off, (List.range len).map f, by simp, ⟨?_, ?_, by simpa using hl⟩, by omega⟩
    · intro hne
      have hpos : 0 < len := by
        rcases Nat.eq_zero_or_pos len with h0 | h0
        · subst h0; simp at hne
        · exact h0
      have := (hf' 0 hpos).2 rfl
      obtain ⟨xb, xo, xs⟩ := x
      simp at this
      subst this
      rfl
    · intro i hi
      have hi' : i < len := by simpa using hi
      rw [(hf' i hi').1]
      simp
end

theorem Ybad.gE : Ybad.prog.globalNamed "io.EOF" = some 0 := by kernel_rfl
theorem Ybad.tE : (Ybad.prog.globals[0]?).map (·.type) = some 33 := by kernel_rfl

theorem eof_of_laid {W : World} (h : laidMetH Ybad.prog Rows.lawS1192AStreamRow.laid W) : ∃ a, W.cell? ⟨0, 0, none⟩ = some (.iface 44 (.pointer (some a))) := by
  rw [MakeChecks.laidMetH_plain _ _ _ (by kernel_rfl)] at h
  have hrow : ∀ u, Ybad.prog.typeName? 3 u = some _ → u = 44 := typeName_ptr_named (P := Ybad.prog) (nm := "errors.errorString") (tp := 44) (by kernel_rfl) (by kernel_rfl) (by decide)
  obtain ⟨a, sa, hva, _, _, _⟩ := laid_sentinel h Ybad.gE Ybad.tE Ybad.underlying33 hrow Ybad.underlying44 Ybad.underlying64 rfl rfl Ybad.underlying9 Ybad.cells64 Ybad.cells9
  exact ⟨a, by simpa using World.var?_cell Ybad.gE hva 0⟩
end Go.Proofs.YbulkxqwDoor
