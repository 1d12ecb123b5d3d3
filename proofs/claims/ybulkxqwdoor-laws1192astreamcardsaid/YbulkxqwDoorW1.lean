/-
  WHAT THE LAW HAS LAID INTO MEMORY: the reader, the tee, the buffer, the source; the reader and the tee walked.
-/
import Derived.Test.YbulkxqwDoorRows
import Derived.WalkKit
import Derived.ProofKit
import Derived.Deep.Slices
import Derived.Laws.IdiomArrays
import Derived.Laws.CopyOwn
import Derived.WalkSpells
import Derived.WalkLawsBesides
import Derived.BigQuiet
import Derived.Deep.RegionHeld3
import Derived.Deep.AppendLies
set_option linter.unusedSimpArgs false
namespace Go.Proofs.YbulkxqwDoor
open Go.RowKit

def bvl (l : List UInt8) : List Value := l.map fun b => Value.int .u8 b.toNat

/-- a slice of bytes that came in -/
structure Bts (w : World) (a : Option Addr) (b o cap : Nat) (l : List UInt8) : Prop where
  ad : l ≠ [] → a = some ⟨b, o, none⟩
  cells : ∀ i (hi : i < l.length), w.cell? ⟨b, o + i, none⟩ = some (.int .u8 (l[i].toNat : Int))
  lc : l.length ≤ cap

theorem Bts.below {w w' : World} {a : Option Addr} {b o cap : Nat} {l : List UInt8} (h : Bts w a b o cap l) (hb : Below w.heap.size w w') : Bts w' a b o cap l :=
  ⟨h.ad, fun i hi => (hb.cell (World.block_lt_of_cell? w _ (h.cells i hi))).trans (h.cells i hi), h.lc⟩

theorem lt_of_heap {w : World} {g : Nat} {o : Obj} (h : w.heap[g]? = some o) : g < w.heap.size := (Array.getElem?_eq_some_iff.1 h).1
theorem heap_new (w : World) (o : Obj) (k : Nat) (h : k = w.heap.size) : (w.alloc o).heap[k]? = some o := by subst h; exact heap_alloc_new w o
theorem cell_at {w : World} {g k : Nat} {c : Array Value} {t : TypeId} {f : Nat × Nat} {v : Value} (hg : w.heap[g]? = some (.cells c t f)) (hc : c[k]? = some v) : w.cell? ⟨g, k, none⟩ = some v := by
  simp [World.cell?, hg, hc]
theorem frozen_at {w : World} {g k : Nat} {c : Array Value} {t : TypeId} (hg : w.heap[g]? = some (.cells c t (0, 0))) : w.frozen? ⟨g, k, none⟩ = false := by
  simp [World.frozen?, hg]
theorem heap_setCell_at {w : World} {g k : Nat} {c : Array Value} {e : TypeId} {f : Nat × Nat} (h : w.heap[g]? = some (.cells c e f)) (v : Value) :
    (w.setCell ⟨g, k, none⟩ v).heap[g]? = some (.cells (c.setIfInBounds k v) e f) := by
  simp only [World.setCell, Array.getElem?_modify, if_true, h, Option.map_some]
  simp
theorem below_to_drew {B : Nat} {w w' : World} (h : Below B w w') : Below B w w'.drew := ⟨h.os, h.tape, h.output, h.size, h.block⟩
theorem below_more {B C : Nat} {a b c : World} (h1 : Below B a b) (h2 : Below C b c) (hC : B ≤ C) : Below B a c :=
  h1.trans ⟨h2.os, h2.tape, h2.output, h2.size, fun k hk => h2.block k (Nat.lt_of_lt_of_le hk hC)⟩

/-- what stays as it is -/
structure Fx where
  s : Nat
  L : List UInt8
  bd : Nat
  od : Nat
  Ch : List UInt8
  ca : Option Addr
  bc : Nat
  oc : Nat
  cc : Nat
  ew : Bool
  ut : Bool
  bs : Nat
  ea : Addr

/-- the state -/
structure Sd where
  rp : Nat
  kk : Nat
  da : Option Addr
  dc : Nat
  ps : Nat
  en : Nat
  tf : Nat
  con : Nat
  er : Bool
  bf : List UInt8
  tv : Value
  T : List UInt8

def eofV (F : Fx) : Value := .iface 44 (.pointer (some F.ea))
def erV (F : Fx) (b : Bool) : Value := if b then eofV F else .nilIface
def rcells (F : Fx) (x : Sd) : Array Value := #[.slice x.da (F.L.length - x.rp) x.dc, .slice F.ca F.Ch.length F.cc, .int .i64 x.kk, .bool F.ew]
def scells (F : Fx) (x : Sd) : Array Value :=
  #[.iface 23 (.pointer (some ⟨F.s, 0, none⟩)), erV F x.er, .slice (some ⟨F.s + 2, 0, none⟩) F.bs F.bs, .int .i64 x.ps, .int .i64 x.en, .int .i64 x.tf, if F.ut then .iface 26 (.pointer (some ⟨F.s + 1, 0, none⟩)) else .nilIface, .int .i64 x.con]

structure At (F : Fx) (w : World) (x : Sd) : Prop where
  rdr : w.heap[F.s]? = some (.cells (rcells F x) 25 (0, 0))
  tee : w.heap[F.s + 1]? = some (.cells #[x.tv] 28 (0, 0))
  buf : w.heap[F.s + 2]? = some (.cells (bvl x.bf).toArray 5 (0, 0))
  src : w.heap[F.s + 3]? = some (.cells (scells F x) 37 (0, 0))
  row : w.ownsRow (F.s + 4) 5 1 x.tv x.T.length (bvl x.T)
  bl : x.bf.length = F.bs
  da : x.rp < F.L.length → x.da = some ⟨F.bd, F.od + x.rp, none⟩
  dc : F.L.length - x.rp ≤ x.dc
  dl : ∀ i (hi : i < F.L.length), w.cell? ⟨F.bd, F.od + i, none⟩ = some (.int .u8 (F.L[i].toNat : Int))
  dlt : F.L ≠ [] → F.bd < F.s
  ch : ∀ i (hi : i < F.Ch.length), w.cell? ⟨F.bc, F.oc + i, none⟩ = some (.int .u8 (F.Ch[i].toNat : Int))
  cha : F.Ch ≠ [] → F.ca = some ⟨F.bc, F.oc, none⟩
  clt : F.Ch ≠ [] → F.bc < F.s
  eof : w.cell? ⟨0, 0, none⟩ = some (eofV F)
  s0 : 0 < F.s

/-- a change to blocks of its own alone: what is read is as it was -/
theorem At.keep {F : Fx} {w w' : World} {x x' : Sd} (A : At F w x) (hb : Below F.s w w') (h0 : w'.heap[F.s]? = some (.cells (rcells F x') 25 (0, 0))) (h1 : w'.heap[F.s + 1]? = some (.cells #[x'.tv] 28 (0, 0)))
    (h2 : w'.heap[F.s + 2]? = some (.cells (bvl x'.bf).toArray 5 (0, 0))) (h3 : w'.heap[F.s + 3]? = some (.cells (scells F x') 37 (0, 0))) (hr : w'.ownsRow (F.s + 4) 5 1 x'.tv x'.T.length (bvl x'.T)) (hl : x'.bf.length = F.bs)
    (hda : x'.rp < F.L.length → x'.da = some ⟨F.bd, F.od + x'.rp, none⟩) (hdc : F.L.length - x'.rp ≤ x'.dc) : At F w' x' :=
  ⟨h0, h1, h2, h3, hr, hl, hda, hdc, fun i hi => (hb.cell (p := ⟨F.bd, F.od + i, none⟩) (A.dlt (by intro e; rw [e] at hi; simp at hi))).trans (A.dl i hi), A.dlt,
   fun i hi => (hb.cell (p := ⟨F.bc, F.oc + i, none⟩) (A.clt (by intro e; rw [e] at hi; simp at hi))).trans (A.ch i hi), A.cha, A.clt, (hb.cell (p := ⟨0, 0, none⟩) A.s0).trans A.eof, A.s0⟩

theorem At.drewN {F : Fx} {w : World} {x : Sd} (A : At F w x) (k : Nat) : At F (w.drewN k) x :=
  A.keep ⟨rfl, rfl, rfl, Nat.le_refl _, fun _ _ => rfl⟩ A.rdr A.tee A.buf A.src A.row A.bl A.da A.dc
theorem At.of_heap {F : Fx} {w w' : World} {x : Sd} (A : At F w x) (h : w'.heap = w.heap) : At F w' x := by
  obtain ⟨a1, a2, a3, a4, a5, a6, a7, a8, a9, a10, a11, a12, a13, a14, a15⟩ := A
  have hc : ∀ p, w'.cell? p = w.cell? p := fun p => by simp [World.cell?, h]
  refine ⟨by rw [h]; exact a1, by rw [h]; exact a2, by rw [h]; exact a3, by rw [h]; exact a4, ⟨a5.1, ?_⟩, a6, a7, a8, fun i hi => (hc _).trans (a9 i hi), a10, fun i hi => (hc _).trans (a11 i hi), a12, a13, (hc _).trans a14, a15⟩
  rcases a5.2 with h1 | ⟨g, cap, cur, hv, hb, hg, h2⟩
  · exact .inl h1
  · exact .inr ⟨g, cap, cur, hv, hb, by rw [h]; exact hg, h2⟩

theorem own_other {w w' : World} {base e size n : Nat} {v : Value} {xs : List Value} (ho : w.ownsRow base e size v n xs) (h : ∀ k, base ≤ k → w'.heap[k]? = w.heap[k]?) : w'.ownsRow base e size v n xs := by
  refine ⟨ho.1, ?_⟩
  rcases ho.2 with h1 | ⟨g, cap, cur, hv, hb, hg, h2⟩
  · exact .inl h1
  · exact .inr ⟨g, cap, cur, hv, hb, (h g hb).trans hg, h2⟩

/-- a field of the source has been set -/
theorem At.put {F : Fx} {w : World} {x : Sd} (A : At F w x) (k : Nat) (v : Value) (x' : Sd) (hr : rcells F x' = rcells F x) (hb : x'.bf = x.bf) (ht : x'.tv = x.tv) (hT : x'.T = x.T) (hrp : x'.rp = x.rp) (hda : x'.da = x.da) (hdc : x'.dc = x.dc) (hd : (scells F x).setIfInBounds k v = scells F x') :
    At F (w.setCell ⟨F.s + 3, k, none⟩ v) x' ∧ Below F.s w (w.setCell ⟨F.s + 3, k, none⟩ v) := by
  have hbel : Below F.s w (w.setCell ⟨F.s + 3, k, none⟩ v) := (Below.refl _ _).setCell (by show F.s ≤ F.s + 3; omega) _
  refine ⟨A.keep hbel ?_ ?_ ?_ ?_ ?_ (by rw [hb]; exact A.bl) (by rw [hrp, hda]; exact A.da) (by rw [hrp, hdc]; exact A.dc), hbel⟩
  · rw [Below.heap_setCell _ _ _ _ (by show F.s ≠ F.s + 3; omega), hr]; exact A.rdr
  · rw [Below.heap_setCell _ _ _ _ (by show F.s + 1 ≠ F.s + 3; omega), ht]; exact A.tee
  · rw [Below.heap_setCell _ _ _ _ (by show F.s + 2 ≠ F.s + 3; omega), hb]; exact A.buf
  · rw [← hd]; exact heap_setCell_at A.src v
  · rw [ht, hT]
    exact own_other A.row (fun k hk => Below.heap_setCell _ _ _ _ (by show k ≠ F.s + 3; omega))

/-- copy, bytes over bytes -/
theorem run_cp (w : World) (g o dLen dCap : Nat) (a : Addr) (sLen sCap : Nat) (cur cs : List UInt8) (hg : w.heap[g]? = some (.cells (bvl cur).toArray 5 (0, 0))) (hn : cs.length = Nat.min sLen dLen)
    (hsrc : ∀ j (hj : j < cs.length), w.cell? (a.add j) = some (.int .u8 cs[j].toNat)) (hfit : o + cs.length ≤ cur.length) :
    (Builtin.copy_ #[22, 22] 3 #[.slice (some ⟨g, o, none⟩) dLen dCap, .slice (some a) sLen sCap]).run Ybad.prog w = .ok (.int .i64 cs.length) (w.setRow g (bvl (splice cur o cs)).toArray) := by
  have h := run_copy_row (P := Ybad.prog) w 22 22 3 5 g o dLen dCap a sLen sCap (bvl cur).toArray 5 (bvl cs) Ybad.underlying22 (by kernel_rfl) hg (by simpa [bvl] using hn)
    (fun j v hj => by
      have hl : j < cs.length := by
        rcases Nat.lt_or_ge j cs.length with h | h
        · exact h
        · rw [List.getElem?_eq_none (by simpa [bvl] using h)] at hj; cases hj
      rw [hsrc j hl]
      simp [bvl, List.getElem?_map, List.getElem?_eq_getElem hl] at hj
      rw [hj]) (by simpa [bvl] using hfit) (by simp [bvl, Value.oneCell'])
  rw [h]
  have hl : (bvl cs).length = cs.length := by simp [bvl]
  rw [hl]
  congr 2
  simp [bvl, splice]

set_option maxRecDepth 100000 in
theorem read_eof (F : Fx) (w : World) (x : Sd) (A : At F w x) (hr : x.rp = F.L.length) :
    Calls Ybad.prog 22 #[.pointer (some ⟨F.s, 0, none⟩), .slice (some ⟨F.s + 2, 0, none⟩) F.bs F.bs] w fun e w' => e = .returned (.tuple #[.int .i64 0, eofV F]) ∧ At F w' x ∧ Below F.s w w' := by
  have r0 : w.cell? ⟨F.s, 0, none⟩ = some (.slice x.da (F.L.length - x.rp) x.dc) := cell_at A.rdr rfl
  rw [hr, Nat.sub_self] at r0
  have e0 := A.eof
  unfold eofV at e0 ⊢
  have HA : Hid (At F w x) := A
  clear A
  go_enter Ybad.func22, Ybad.ntmps22
  go_wp2_with fail
  go_quiet (fail)
  go_wp2_with fail
  go_ret2
  exact ⟨rfl, HA.out.of_heap rfl, ⟨rfl, rfl, rfl, Nat.le_refl _, fun _ _ => rfl⟩⟩
end Go.Proofs.YbulkxqwDoor
