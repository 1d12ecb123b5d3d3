/-
  THE ARGUMENTS OF THE TWO LAWS AS PLAIN DATA: four bools, a list of checks; how they are read out of memory.
-/
import Derived.Test.YbulkxmaFmtRows
import Derived.Test.YbulkxmaFmtPlain
import Derived.WalkKit
import Derived.ProofKit
import Derived.Deep.Slices
import Derived.Laws.IdiomArrays
namespace Go.Proofs.YbulkxmaFmt
open Go.ChangeShapes Go.WideShapes Go.ChangeAt Go.RowKit Go.Deep

/-- the six cells of a check, from an address on -/
structure ChkAt (w : World) (b o : Nat) (c : Chk) : Prop where
  c0 : w.cell? ⟨b, o, none⟩ = some (.int .u8 c.host)
  c1 : w.cell? ⟨b, o + 1, none⟩ = some (.int .u64 c.id)
  c2 : w.cell? ⟨b, o + 2, none⟩ = some (.string c.key)
  c3 : w.cell? ⟨b, o + 3, none⟩ = some (.string c.delay)
  c4 : w.cell? ⟨b, o + 4, none⟩ = some (.int .u64 c.lls)
  c5 : w.cell? ⟨b, o + 5, none⟩ = some (.int .i64 c.mt)

structure Chk.Ok (c : Chk) : Prop where
  host : 0 ≤ c.host ∧ c.host ≤ 255
  id : 0 ≤ c.id ∧ c.id ≤ 18446744073709551615
  lls : 0 ≤ c.lls ∧ c.lls ≤ 18446744073709551615
  mt : -9223372036854775808 ≤ c.mt ∧ c.mt ≤ 9223372036854775807
  key : c.key.size ≤ maxLen
  delay : c.delay.size ≤ maxLen

/-- a slice of checks that came in -/
structure IsChks (w : World) (a : Option Addr) (xs : List Chk) : Prop where
  ok : ∀ c ∈ xs, c.Ok
  at_ : ∀ x, a = some x → ∀ i (h : i < xs.length), x.spot = none ∧ ChkAt w x.block (x.off + i * 6) xs[i]
  nil : a = none → xs = []
  lt : ∀ x, a = some x → xs ≠ [] → x.block < w.heap.size

theorem Ybaf.cells66 : Ybaf.prog.cellsOf 66 = 6 := by kernel_rfl
theorem Ybaf.cells5 : Ybaf.prog.cellsOf 5 = 1 := by kernel_rfl
theorem Ybaf.cells60 : Ybaf.prog.cellsOf 60 = 1 := by kernel_rfl
theorem Ybaf.cells9 : Ybaf.prog.cellsOf 9 = 1 := by kernel_rfl
theorem Ybaf.cells2 : Ybaf.prog.cellsOf 2 = 1 := by kernel_rfl
theorem Ybaf.cells4 : Ybaf.prog.cellsOf 4 = 1 := by kernel_rfl
theorem Ybaf.cells22 : Ybaf.prog.cellsOf 22 = 4 := by kernel_rfl

theorem add_cell (x : Addr) (n : Nat) (h : x.spot = none) : x.add n = ⟨x.block, x.off + n, none⟩ := by
  unfold Addr.add
  split
  · subst n; cases x; simp_all
  · rfl

theorem spot_none {w : World} {x : Addr} {v : Value} (h : w.cell? x = some v) : x.spot = none := by
  unfold World.cell? at h
  split at h
  · split at h
    · cases h
    · rename_i hn
      cases hs : x.spot with
      | none => rfl
      | some _ => simp [hs] at hn
  · cases h

section
variable {H : Type} {enc : TypeId × Value → H} {w : World} {base : Nat} {spare : Nat → Bool} {held : Bool}

theorem open_chk {fuel : Nat} {cs : List Value} {x : DataW H × List MemPlace} (h : DataW.trod enc Ybaf.prog w base spare held fuel 66 cs = some x) :
    ∃ c : Chk, c.Ok ∧ cs = [.int .u8 c.host, .int .u64 c.id, .string c.key, .string c.delay, .int .u64 c.lls, .int .i64 c.mt] := by
  obtain ⟨xs, n, _, _, hl, hxs, hf⟩ := DataW.trod_struct Ybaf.underlying66 h
  rw [Ybaf.cells66] at hl
  match cs, hl with
  | [v0, v1, v2, v3, v4, v5], _ =>
    have hz : xs.length = 6 := by rw [hxs]; rfl
    have f0 : DataW.trod enc Ybaf.prog w base spare held n 5 [v0] = xs[0]? := by have := hf 0 _ rfl; simpa [Ybaf.cells5] using this
    have f1 : DataW.trod enc Ybaf.prog w base spare held n 60 [v1] = xs[1]? := by have := hf 1 _ rfl; simpa [Ybaf.cells60] using this
    have f2 : DataW.trod enc Ybaf.prog w base spare held n 9 [v2] = xs[2]? := by have := hf 2 _ rfl; simpa [Ybaf.cells9] using this
    have f3 : DataW.trod enc Ybaf.prog w base spare held n 9 [v3] = xs[3]? := by have := hf 3 _ rfl; simpa [Ybaf.cells9] using this
    have f4 : DataW.trod enc Ybaf.prog w base spare held n 60 [v4] = xs[4]? := by have := hf 4 _ rfl; simpa [Ybaf.cells60] using this
    have f5 : DataW.trod enc Ybaf.prog w base spare held n 2 [v5] = xs[5]? := by have := hf 5 _ rfl; simpa [Ybaf.cells2] using this
    rw [List.getElem?_eq_getElem (by omega)] at f0 f1 f2 f3 f4 f5
    obtain ⟨a0, e0, _, w0⟩ := DataW.trod_int Ybaf.underlying5 f0
    obtain ⟨a1, e1, _, w1⟩ := DataW.trod_int Ybaf.underlying60 f1
    obtain ⟨a2, e2, _, w2⟩ := DataW.trod_string Ybaf.underlying9 f2
    obtain ⟨a3, e3, _, w3⟩ := DataW.trod_string Ybaf.underlying9 f3
    obtain ⟨a4, e4, _, w4⟩ := DataW.trod_int Ybaf.underlying60 f4
    obtain ⟨a5, e5, _, w5⟩ := DataW.trod_int Ybaf.underlying2 f5
    simp at e0 e1 e2 e3 e4 e5
    subst e0 e1 e2 e3 e4 e5
    refine ⟨⟨a0, a1, a2, a3, a4, a5⟩, ⟨?_, ?_, ?_, ?_, w2, w3⟩, rfl⟩
    all_goals simp [Lit.wf, IntKind.min, IntKind.max, IntKind.signed, IntKind.bits] at w0 w1 w4 w5
    all_goals (simp; omega)

theorem open_chks {a : Option Addr} {len cap : Nat} {d : DataW H} {ps : List MemPlace} (h : DataW.Trod enc Ybaf.prog w base spare held 23 (.slice a len cap) d ps) :
    ∃ (xs : List Chk), xs.length = len ∧ IsChks w a xs ∧ len ≤ maxLen := by
  obtain ⟨fuel, hf⟩ := h
  rcases open_slice Ybaf.underlying23 hf with ⟨hcs, _⟩ | ⟨x, l, c, m, n, D, Pl, hcs, hb, hl, hm, hmm, _, hx⟩
  · simp [Value.cells] at hcs
    obtain ⟨rfl, rfl, rfl⟩ := hcs
    exact ⟨[], rfl, ⟨by simp, by simp, by simp, by simp⟩, by simp⟩
  · simp [Value.cells] at hcs
    obtain ⟨rfl, rfl, rfl⟩ := hcs
    have hlm : len ≤ m := by rw [hmm]; split <;> omega
    have hcells : ∀ i, i < len → ∃ c : Chk, c.Ok ∧ ChkAt w x.block (x.off + i * 6) c ∧ (i = 0 → x.spot = none) := by
      intro i hi
      obtain ⟨cs', h1, h2⟩ := hx i (by omega)
      obtain ⟨c, hc, rfl⟩ := open_chk h2
      rw [Ybaf.cells66] at h1
      obtain ⟨_, _, hcell⟩ := World.cells?_some h1
      have g0 := hcell 0 (by omega)
      have g1 := hcell 1 (by omega)
      have g2 := hcell 2 (by omega)
      have g3 := hcell 3 (by omega)
      have g4 := hcell 4 (by omega)
      have g5 := hcell 5 (by omega)
      have hs : i = 0 → x.spot = none := by
        intro h0
        subst h0
        have : (x.add (0 * 6)).add 0 = x := by simp [Addr.add]
        rw [this] at g0
        exact spot_none (by simpa using g0)
      have hs' : (x.add (i * 6)) = ⟨x.block, x.off + i * 6, none⟩ := by
        by_cases h0 : i = 0
        · exact add_cell x _ (hs h0)
        · unfold Addr.add
          rw [if_neg (by omega)]
      refine ⟨c, hc, ?_, hs⟩
      rw [hs', add_cell _ _ rfl] at g0 g1 g2 g3 g4 g5
      exact ⟨by simpa using g0, by simpa using g1, by simpa using g2, by simpa using g3, by simpa using g4, by simpa using g5⟩
    have hin : ∃ f : Nat → Option Chk, ∀ i, i < len → ∃ c, f i = some c ∧ c.Ok ∧ ChkAt w x.block (x.off + i * 6) c ∧ (i = 0 → x.spot = none) :=
      choose_lt (α := Option Chk) (p := fun i o => ∃ c, o = some c ∧ c.Ok ∧ ChkAt w x.block (x.off + i * 6) c ∧ (i = 0 → x.spot = none)) (fun i hi => by
        obtain ⟨c, h⟩ := hcells i hi
        exact ⟨some c, c, rfl, h⟩)
    obtain ⟨f, hf'⟩ := hin
    refine ⟨(List.range len).map fun i => (f i).getD Chk.blank, by simp, ⟨?_, ?_, by simp, ?_⟩, by omega⟩
    · intro c hc
      simp at hc
      obtain ⟨i, hi, rfl⟩ := hc
      obtain ⟨c, e, ok, _⟩ := hf' i hi
      simpa [e] using ok
    · intro y hy i hi
      cases hy
      simp at hi
      obtain ⟨c, e, _, hat, _⟩ := hf' i hi
      obtain ⟨_, _, _, _, hs⟩ := hf' 0 (by omega)
      refine ⟨hs rfl, ?_⟩
      simpa [e] using hat
    · intro y hy hne
      cases hy
      have h0 : 0 < len := by
        rcases Nat.eq_zero_or_pos len with h | h
        · subst h; simp at hne
        · exact h
      obtain ⟨c, e, _, hat, _⟩ := hf' 0 h0
      exact World.block_lt_of_cell? w ⟨x.block, x.off + 0 * 6, none⟩ hat.c0

/-- an array of four bools, by value -/
def bools (f : Nat → Bool) : Value := .agg #[.bool (f 0), .bool (f 1), .bool (f 2), .bool (f 3)]

theorem open_bools {v : Value} {d : DataW H} {ps : List MemPlace} (hv : Value.okWide Ybaf.prog w .any base 22 v) (h : DataW.Trod enc Ybaf.prog w 0 spare held 22 v d ps) :
    ∃ f : Nat → Bool, v = bools f := by
  obtain ⟨fuel, hf⟩ := h
  have hv' := hv
  simp only [Value.okWide, Ybaf.underlying22] at hv'
  obtain ⟨cs, rfl, hsz, _⟩ := hv'
  have hsz' : cs.size = 4 := by rw [hsz]; exact Ybaf.cells22
  rcases cs with ⟨l⟩
  match l, hsz' with
  | [c0, c1, c2, c3], _ =>
    obtain ⟨y0, y1, y2, y3, n, _, g0, g1, g2, g3⟩ := trod_array4 Ybaf.underlying22 Ybaf.cells4 (by simpa [Value.cells] using hf)
    obtain ⟨b0, e0, _⟩ := DataW.trod_bool Ybaf.underlying4 g0
    obtain ⟨b1, e1, _⟩ := DataW.trod_bool Ybaf.underlying4 g1
    obtain ⟨b2, e2, _⟩ := DataW.trod_bool Ybaf.underlying4 g2
    obtain ⟨b3, e3, _⟩ := DataW.trod_bool Ybaf.underlying4 g3
    simp at e0 e1 e2 e3
    subst e0 e1 e2 e3
    exact ⟨fun i => if i = 0 then b0 else if i = 1 then b1 else if i = 2 then b2 else b3, rfl⟩
end
end Go.Proofs.YbulkxmaFmt
