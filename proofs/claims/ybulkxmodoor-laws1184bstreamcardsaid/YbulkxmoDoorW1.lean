/-
  WHAT THE LAW HAS LAID INTO MEMORY: the source's bytes, its reader, the buffer, the decoder; the reader walked.
-/
import Derived.Test.YbulkxmoDoorRows
import Derived.Test.YbulkxmoDoorPlain
import Derived.Test.YbulkxmoDoorLast
import Derived.WalkKit
import Derived.ProofKit
import Derived.Deep.Slices
import Derived.Laws.IdiomArrays
import Derived.Laws.CopyOwn
import Derived.WalkSpells
import Derived.WalkLawsBesides
import Derived.BigQuiet
import Derived.Deep.RegionHeld3
namespace Go.Proofs.YbulkxmoDoor
open Go.RowKit

/-- the decoder's state -/
structure Sd where
  rp : Nat
  n : Nat
  dp : Nat
  eof : Bool
  off : Nat
  bits : Nat
  nb : Nat
  pd : Nat
  bf : List UInt8

def bvl (l : List UInt8) : List Value := l.map fun b => Value.int .u8 b.toNat

/-- the decoder's cells -/
def dcells (s : Nat) (x : Sd) : Array Value :=
  #[.iface 23 (.pointer (some ⟨s + 1, 0, none⟩)), .slice (some ⟨s + 2, 0, none⟩) 64 64, .slice (some ⟨s + 2, 0, none⟩) x.n 64, .int .i64 x.dp, .bool x.eof, .int .i64 x.off, .int .u64 x.bits, .int .u64 x.nb, .int .u64 x.pd,
    .slice none 0 0, .int .i64 0, .int .i64 0, .int .i64 0, .bool false, .int .i64 0, .slice none 0 0, .slice none 0 0, .slice none 0 0, .slice none 0 0, .slice none 0 0, .nilIface]

structure At (s : Nat) (w : World) (src : List UInt8) (ch : Nat) (x : Sd) : Prop where
  sb : w.heap[s]? = some (.cells (bvl src).toArray 5 (0, 0))
  rdr : w.heap[s + 1]? = some (.cells #[.slice (some ⟨s, 0, none⟩) src.length src.length, .int .i64 x.rp, .int .i64 ch] 25 (0, 0))
  buf : w.heap[s + 2]? = some (.cells (bvl x.bf).toArray 5 (0, 0))
  dec : w.heap[s + 3]? = some (.cells (dcells s x) 35 (0, 0))
  bl : x.bf.length = 64

theorem At.of_heap {s : Nat} {w w' : World} {src : List UInt8} {ch : Nat} {x : Sd} (h : At s w src ch x) (e : w'.heap = w.heap) : At s w' src ch x := by
  obtain ⟨h1, h2, h3, h4, h5⟩ := h
  exact ⟨by rw [e]; exact h1, by rw [e]; exact h2, by rw [e]; exact h3, by rw [e]; exact h4, h5⟩

theorem lt_of_heap {w : World} {g : Nat} {o : Obj} (h : w.heap[g]? = some o) : g < w.heap.size := (Array.getElem?_eq_some_iff.1 h).1
theorem heap_new (w : World) (o : Obj) (k : Nat) (h : k = w.heap.size) : (w.alloc o).heap[k]? = some o := by subst h; exact heap_alloc_new w o
theorem cell_at {w : World} {g k : Nat} {c : Array Value} {t : TypeId} {f : Nat × Nat} {v : Value} (hg : w.heap[g]? = some (.cells c t f)) (hc : c[k]? = some v) : w.cell? ⟨g, k, none⟩ = some v := by
  simp [World.cell?, hg, hc]
theorem frozen_at {w : World} {g k : Nat} {c : Array Value} {t : TypeId} (hg : w.heap[g]? = some (.cells c t (0, 0))) : w.frozen? ⟨g, k, none⟩ = false := by
  simp [World.frozen?, hg]

theorem bvl_get (l : List UInt8) (i : Nat) (h : i < l.length) : (bvl l).toArray[i]? = some (.int .u8 l[i].toNat) := by
  simp [bvl, List.getElem?_map, List.getElem?_eq_getElem h]

theorem heap_setCell_at {w : World} {g k : Nat} {c : Array Value} {e : TypeId} {f : Nat × Nat} (h : w.heap[g]? = some (.cells c e f)) (v : Value) :
    (w.setCell ⟨g, k, none⟩ v).heap[g]? = some (.cells (c.setIfInBounds k v) e f) := by
  simp only [World.setCell, Array.getElem?_modify, if_true, h, Option.map_some]
  simp

/-- a field of the decoder has been set -/
theorem At.put {s : Nat} {w : World} {src : List UInt8} {ch : Nat} {x : Sd} (A : At s w src ch x) (k : Nat) (v : Value) (x' : Sd) (hr : x'.rp = x.rp) (hb : x'.bf = x.bf) (hd : (dcells s x).setIfInBounds k v = dcells s x') :
    At s (w.setCell ⟨s + 3, k, none⟩ v) src ch x' ∧ Below s w (w.setCell ⟨s + 3, k, none⟩ v) := by
  refine ⟨⟨?_, ?_, ?_, ?_, by rw [hb]; exact A.bl⟩, (Below.refl _ _).setCell (by show s ≤ s + 3; omega) _⟩
  · rw [Below.heap_setCell _ _ _ _ (by show s ≠ s + 3; omega)]; exact A.sb
  · rw [Below.heap_setCell _ _ _ _ (by show s + 1 ≠ s + 3; omega), hr]; exact A.rdr
  · rw [Below.heap_setCell _ _ _ _ (by show s + 2 ≠ s + 3; omega), hb]; exact A.buf
  · rw [← hd]; exact heap_setCell_at A.dec v

/-- the buffer has been written -/
theorem At.row {s : Nat} {w : World} {src : List UInt8} {ch : Nat} {x : Sd} (A : At s w src ch x) (b : List UInt8) (hb : b.length = 64) :
    At s (w.setRow (s + 2) (bvl b).toArray) src ch { x with bf := b } ∧ Below s w (w.setRow (s + 2) (bvl b).toArray) := by
  refine ⟨⟨?_, ?_, ?_, ?_, hb⟩, below_setRow (B := s) (g := s + 2) (w0 := w) (w := w) (Below.refl _ _) (by omega) _⟩
  · rw [setRow_other _ _ _ _ (by omega)]; exact A.sb
  · rw [setRow_other _ _ _ _ (by omega)]; exact A.rdr
  · exact setRow_heap _ _ _ _ _ _ A.buf
  · rw [setRow_other _ _ _ _ (by omega)]; exact A.dec

theorem At.drew {s : Nat} {w : World} {src : List UInt8} {ch : Nat} {x : Sd} (A : At s w src ch x) : At s w.drew src ch x := A.of_heap rfl
theorem below_to_drew {B : Nat} {w w' : World} (h : Below B w w') : Below B w w'.drew := ⟨h.os, h.tape, h.output, h.size, h.block⟩

/-- a read has been done -/
theorem At.read {s : Nat} {w : World} {src : List UInt8} {ch : Nat} {x : Sd} (A : At s w src ch x) (a : Nat) (b : List UInt8) (hb : b.length = 64) (rp : Nat) :
    At s (((w.drewN a).setRow (s + 2) (bvl b).toArray).setCell ⟨s + 1, 1, none⟩ (.int .i64 rp)) src ch { x with rp := rp, bf := b } ∧ Below s w (((w.drewN a).setRow (s + 2) (bvl b).toArray).setCell ⟨s + 1, 1, none⟩ (.int .i64 rp)) := by
  have B := A.of_heap (w' := w.drewN a) rfl
  refine ⟨⟨?_, ?_, ?_, ?_, hb⟩, ?_⟩
  · rw [Below.heap_setCell _ _ _ _ (by show s ≠ s + 1; omega), setRow_other _ _ _ _ (by omega)]; exact B.sb
  · exact heap_setCell_at ((setRow_other (w.drewN a) (s + 2) (s + 1) _ (by omega)).trans B.rdr) (k := 1) _
  · rw [Below.heap_setCell _ _ _ _ (by show s + 2 ≠ s + 1; omega)]; exact setRow_heap _ _ _ _ _ _ B.buf
  · rw [Below.heap_setCell _ _ _ _ (by show s + 3 ≠ s + 1; omega), setRow_other _ _ _ _ (by omega)]; exact B.dec
  · exact (below_setRow (B := s) (g := s + 2) (w0 := w) (w := w.drewN a) ⟨rfl, rfl, rfl, Nat.le_refl _, fun _ _ => rfl⟩ (by omega) _).setCell (by show s ≤ s + 1; omega) _

/-- copy, bytes over bytes -/
theorem run_cp (w : World) (g o dLen dCap : Nat) (a : Addr) (sLen sCap : Nat) (cur cs : List UInt8) (hg : w.heap[g]? = some (.cells (bvl cur).toArray 5 (0, 0))) (hn : cs.length = Nat.min sLen dLen)
    (hsrc : ∀ j (hj : j < cs.length), w.cell? (a.add j) = some (.int .u8 cs[j].toNat)) (hfit : o + cs.length ≤ cur.length) :
    (Builtin.copy_ #[22, 22] 3 #[.slice (some ⟨g, o, none⟩) dLen dCap, .slice (some a) sLen sCap]).run Ybad.prog w = .ok (.int .i64 cs.length) (w.setRow g (bvl (splice cur o cs)).toArray) := by
  have h := run_copy_row (P := Ybad.prog) w 22 22 3 5 g o dLen dCap a sLen sCap (bvl cur).toArray 5 (bvl cs) Ybad.underlying22 (by kernel_rfl) hg (by simpa [bvl] using hn)
    (fun j v hj => by
      have hl : j < cs.length := by
        rcases Nat.lt_or_ge j cs.length with h | h
        · exact h
        · rw [List.getElem?_eq_none (by simpa [bvl] using h)] at hj; cases hj
      rw [hsrc j hl]
      simp [bvl, List.getElem?_map, List.getElem?_eq_getElem hl] at hj
      rw [hj]) (by simpa [bvl] using hfit) (by simp [bvl, Value.oneCell'])
  rw [h]
  have hl : (bvl cs).length = cs.length := by simp [bvl]
  rw [hl]
  congr 2
  simp [bvl, splice]

set_option maxRecDepth 100000 in
theorem read_eof (s o m c : Nat) (src : List UInt8) (ch : Nat) (x : Sd) (w : World) (A : At s w src ch x) (hr : x.rp = src.length) (t : TypeId) (p : Value) (hE : w.cell? ⟨1, 0, none⟩ = some (.iface t p)) :
    Calls Ybad.prog 25 #[.pointer (some ⟨s + 1, 0, none⟩), .slice (some ⟨s + 2, o, none⟩) m c] w fun e w' => e = .returned (.tuple #[.int .i64 0, .iface t p]) ∧ At s w' src ch x ∧ Below s w w' := by
  have r0 := cell_at (k := 0) A.rdr rfl
  have r1 := cell_at (k := 1) A.rdr rfl
  have r2 := cell_at (k := 2) A.rdr rfl
  rw [hr] at r1
  have A : Hid (At s w src ch x) := A
  go_enter Ybad.func25, Ybad.ntmps25
  go_wp2_with fail
  go_quiet (fail)
  go_wp2_with fail
  go_quiet (fail)
  go_wp2_with fail
  go_ret2
  exact ⟨rfl, A.out.of_heap rfl, ⟨rfl, rfl, rfl, Nat.le_refl _, fun _ _ => rfl⟩⟩

/-- a piece of a row of bytes -/
theorem run_piece (g len cap lo hi : Nat) (l h : Int) (hl : l = lo) (hh : h = hi) (h1 : lo ≤ hi) (h2 : hi ≤ cap) (h3 : lo < cap) (w : World) :
    (Instr.sliceAt 22 (.slice (some ⟨g, 0, none⟩) len cap) (some (.int .i64 l)) (some (.int .i64 h)) none).run Ybad.prog w = .ok (.slice (some ⟨g, lo, none⟩) (hi - lo) (cap - lo)) w := by
  subst hl hh
  have hc : cap ≠ lo := by omega
  go_simp

theorem run_piece' (g len cap lo hi : Nat) (l h : Int) (hl : l = lo) (hh : h = hi) (h1 : lo ≤ hi) (h2 : hi ≤ cap) (h3 : lo < cap) (w : World) :
    (Instr.slice 22 (.slice (some ⟨g, 0, none⟩) len cap) (some (.int .i64 l)) (some (.int .i64 h)) none).run Ybad.prog w = .ok (.slice (some ⟨g, lo, none⟩) (hi - lo) (cap - lo)) w := by
  rw [← run_sliceAt_slice w 22 _ _ _ _ (by rw [Ybad.underlying22]; rfl)]
  exact run_piece g len cap lo hi l h hl hh h1 h2 h3 w

/-- how much a read brings -/
def much (src : List UInt8) (ch rp m : Nat) : Nat := min (min (src.length - rp) ch) m

set_option maxRecDepth 100000 in
theorem read_some (s o m c : Nat) (src : List UInt8) (ch : Nat) (x : Sd) (w : World) (A : At s w src ch x) (hr : x.rp < src.length) (hl : src.length ≤ 1024) (hch : ch ≤ 16) (hm : 16 ≤ m) (hm2 : m ≤ 64) (ho : o + m ≤ 64) :
    Calls Ybad.prog 25 #[.pointer (some ⟨s + 1, 0, none⟩), .slice (some ⟨s + 2, o, none⟩) m c] w fun e w' => e = .returned (.tuple #[.int .i64 (much src ch x.rp m), .nilIface]) ∧
      At s w' src ch { x with rp := x.rp + much src ch x.rp m, bf := splice x.bf o ((src.drop x.rp).take (much src ch x.rp m)) } ∧ Below s w w' := by
  have r0 := cell_at (k := 0) A.rdr rfl
  have r1 := cell_at (k := 1) A.rdr rfl
  have r2 := cell_at (k := 2) A.rdr rfl
  generalize hK : much src ch x.rp m = K at *
  have hK1 : K ≤ src.length - x.rp := by rw [← hK]; unfold much; omega
  have hK2 : K ≤ ch := by rw [← hK]; unfold much; omega
  have hK3 : K = min (src.length - x.rp) ch := by rw [← hK]; unfold much; omega
  have hcp : ∀ a C, (Builtin.copy_ #[22, 22] 3 #[.slice (some ⟨s + 2, o, none⟩) m c, .slice (some ⟨s, x.rp, none⟩) K C]).run Ybad.prog (w.drewN a) = .ok (.int .i64 K) ((w.drewN a).setRow (s + 2) (bvl (splice x.bf o ((src.drop x.rp).take K))).toArray) := fun a C => by
    have hlen : ((src.drop x.rp).take K).length = K := by simp; omega
    have A' := A.of_heap (w' := (w.drewN a)) rfl
    have := run_cp (w.drewN a) (s + 2) o m c ⟨s, x.rp, none⟩ K C x.bf ((src.drop x.rp).take K) A'.buf (by rw [hlen]; exact (Nat.min_eq_left (by omega)).symm) (fun j hj => by
      have hj' : x.rp + j < src.length := by rw [hlen] at hj; omega
      have : (⟨s, x.rp, none⟩ : Addr).add j = ⟨s, x.rp + j, none⟩ := by unfold Addr.add; split <;> simp_all
      rw [this, cell_at A'.sb (bvl_get src (x.rp + j) hj')]
      simp) (by rw [hlen, A.bl]; omega)
    rw [hlen] at this
    exact this
  have hB : Hid (At s w src ch x) := A
  clear A
  obtain ⟨E, hE⟩ : ∃ E, E = x.rp + K := ⟨_, rfl⟩
  have hw1 : IntKind.i64.wrap ((x.rp : Int) + K) = (E : Int) := by rw [IntKind.wrap_i64]; omega
  have hsl := run_piece s src.length src.length x.rp E x.rp (E : Int) rfl rfl (by omega) (by omega) hr
  have hsl' := run_piece' s src.length src.length x.rp E x.rp (E : Int) rfl rfl (by omega) (by omega) hr
  rw [hE, Nat.add_sub_cancel_left, ← hE] at hsl hsl'
  have HE : Hid (E = x.rp + K) := hE
  clear hE
  have hk0 : ∀ (a : Nat) (R : Array Value), ((w.drewN a).setRow (s + 2) R).cell? ⟨s + 1, 0, none⟩ = some (.slice (some ⟨s, 0, none⟩) src.length src.length) := fun a R => by
    rw [World.cell?_of_block (w := w) (setRow_other (w.drewN a) (s + 2) (s + 1) R (by omega))]; exact r0
  have hk1 : ∀ (a : Nat) (R : Array Value), ((w.drewN a).setRow (s + 2) R).cell? ⟨s + 1, 1, none⟩ = some (.int .i64 x.rp) := fun a R => by
    rw [World.cell?_of_block (w := w) (setRow_other (w.drewN a) (s + 2) (s + 1) R (by omega))]; exact r1
  have hz1 : ∀ (a : Nat) (R : Array Value), ((w.drewN a).setRow (s + 2) R).frozen? ⟨s + 1, 1, none⟩ = false := fun a R => by
    rw [World.frozen?_of_block (w := w) (setRow_other (w.drewN a) (s + 2) (s + 1) R (by omega))]; exact frozen_at hB.out.rdr
  have HF : ∀ a, At s (((w.drewN a).setRow (s + 2) (bvl (splice x.bf o ((src.drop x.rp).take K))).toArray).setCell ⟨s + 1, 1, none⟩ (.int .i64 E)) src ch { x with rp := x.rp + K, bf := splice x.bf o ((src.drop x.rp).take K) } ∧ Below s w (((w.drewN a).setRow (s + 2) (bvl (splice x.bf o ((src.drop x.rp).take K))).toArray).setCell ⟨s + 1, 1, none⟩ (.int .i64 E)) := fun a => by
    have := hB.out.read a (splice x.bf o ((src.drop x.rp).take K)) (by rw [length_splice _ _ _ (by have := hB.out.bl; simp; omega)]; exact hB.out.bl) (x.rp + K)
    rw [HE.out]
    exact this
  by_cases hb : ch < src.length - x.rp
  · obtain rfl : K = ch := by omega
    clear hK3 hK
    have hb' : (K : Int) < (src.length : Int) - x.rp := by omega
    go_enter Ybad.func25, Ybad.ntmps25
    go_wp2_with fail
    go_quiet (fail)
    go_wp2_with fail
    go_quiet (fail)
    go_wp2_with fail
    go_region_held3 (fun w' => w'.cell? ⟨s + 1, 0, none⟩ = some (.slice (some ⟨s, 0, none⟩) src.length src.length) ∧ w'.cell? ⟨s + 1, 1, none⟩ = some (.int .i64 x.rp)) (first | (go_keep; done) | exact ⟨hk0 _ _, hk1 _ _⟩) (fail)
    go_wp2_with fail
    go_ret2
    exact ⟨rfl, HF _⟩
  · have hb' : (src.length : Int) - x.rp = K := by omega
    clear hK3 hK hb
    go_enter Ybad.func25, Ybad.ntmps25
    go_wp2_with fail
    go_quiet (fail)
    go_wp2_with fail
    go_quiet (fail)
    go_wp2_with fail
    go_region_held3 (fun w' => w'.cell? ⟨s + 1, 0, none⟩ = some (.slice (some ⟨s, 0, none⟩) src.length src.length) ∧ w'.cell? ⟨s + 1, 1, none⟩ = some (.int .i64 x.rp)) (first | (go_keep; done) | exact ⟨hk0 _ _, hk1 _ _⟩) (fail)
    go_wp2_with fail
    go_ret2
    exact ⟨rfl, HF _⟩
end Go.Proofs.YbulkxmoDoor
