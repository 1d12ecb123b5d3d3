/-
  WHAT zzs1183cbuild HAS LAID INTO MEMORY: the relation that its two loops carry, and how it stands over each step.
-/
import Derived.Test.YbulkxmaFmtW1
import Derived.Lib.AppendStr
import Derived.Deep.AppendLies
namespace Go.Proofs.YbulkxmaFmt
open Go.RowKit

def Hst.cells (h : Hst) : List Value := [.int .u32 h.ns, .int .u32 h.ne, .int .u32 h.cs, .int .u32 h.ce, .bool h.mon]
def Ck.cells (c : Ck) : List Value := [.int .u64 c.id, .int .u32 c.ks, .int .u32 c.ke, .int .u32 c.ke, .int .u32 c.de, .int .u64 c.lls, .int .i64 c.mt]
def Chk.xcells (c : Chk) : List Value := [.int .u64 c.id, .string c.key, .string c.delay, .int .u64 c.lls, .int .i64 c.mt]
def byteVals (l : List UInt8) : List Value := l.map fun b => .int .u8 b.toNat

theorem ownBlock_ne {w : World} {g : Nat} {c : Array Value} {e1 e2 : TypeId} {f : Nat × Nat} {base size n : Nat} {v : Value} {xs : List Value}
    (hg : w.heap[g]? = some (.cells c e1 f)) (ho : w.ownsRow base e2 size v n xs) (h : e1 ≠ e2) : v.ownBlock ≠ some g := by
  intro hv
  rcases ho.2 with ⟨rfl, _⟩ | ⟨g', cap, cur, rfl, _, hgg, _⟩
  · simp [Value.ownBlock] at hv
  · simp [Value.ownBlock] at hv
    subst hv
    rw [hgg] at hg
    simp at hg
    exact h hg.2.1.symm

theorem ownBlocks_ne {w : World} {e1 e2 : TypeId} {base1 base2 size1 size2 n1 n2 : Nat} {v1 v2 : Value} {xs1 xs2 : List Value}
    (h1 : w.ownsRow base1 e1 size1 v1 n1 xs1) (h2 : w.ownsRow base2 e2 size2 v2 n2 xs2) (h : e1 ≠ e2) : v1.ownBlock = none ∨ v1.ownBlock ≠ v2.ownBlock := by
  rcases h1.2 with ⟨rfl, _⟩ | ⟨g, cap, cur, rfl, _, hg, _⟩
  · exact .inl rfl
  · right
    exact fun e => ownBlock_ne hg h2 h e.symm

def nil4 : Array Value := #[.slice none 0 0, .slice none 0 0, .slice none 0 0, .slice none 0 0]

structure BInv (w0 w : World) (p m : Nat → Bool) (vb vh vc : Value) (ve : Nat → Value) (s : St) (es : Nat → List Chk) : Prop where
  below : Below w0.heap.size w0 w
  pc : w.heap[w0.heap.size]? = some (.cells #[.bool (p 0), .bool (p 1), .bool (p 2), .bool (p 3)] 22 (0, 0))
  mc : w.heap[w0.heap.size + 1]? = some (.cells #[.bool (m 0), .bool (m 1), .bool (m 2), .bool (m 3)] 22 (0, 0))
  rc : w.heap[w0.heap.size + 2]? = some (.cells nil4 27 (0, 0))
  ec : w.heap[w0.heap.size + 3]? = some (.cells #[ve 0, ve 1, ve 2, ve 3] 27 (0, 0))
  b : w.ownsRow (w0.heap.size + 4) 5 1 vb s.b.length (byteVals s.b)
  h : w.ownsRow (w0.heap.size + 4) 71 5 vh s.hosts.length (s.hosts.flatMap Hst.cells)
  c : w.ownsRow (w0.heap.size + 4) 73 7 vc s.checks.length (s.checks.flatMap Ck.cells)
  e : ∀ j, w.ownsRow (w0.heap.size + 4) 64 5 (ve j) (es j).length ((es j).flatMap Chk.xcells)
  apart : ∀ j k, j ≠ k → (ve j).ownBlock = none ∨ (ve j).ownBlock ≠ (ve k).ownBlock

theorem lt_of_heap {w : World} {g : Nat} {o : Obj} (h : w.heap[g]? = some o) : g < w.heap.size := (Array.getElem?_eq_some_iff.1 h).1

namespace BInv
variable {w0 w w' : World} {p m : Nat → Bool} {vb vh vc v' : Value} {ve : Nat → Value} {s : St} {es : Nat → List Chk}

theorem size (I : BInv w0 w p m vb vh vc ve s es) : w0.heap.size + 4 ≤ w.heap.size := by have := lt_of_heap I.ec; omega

/-- a step that turns none of the blocks -/
theorem keep (I : BInv w0 w p m vb vh vc ve s es) (g : w.grownBy w' none) : BInv w0 w' p m vb vh vc ve s es :=
  ⟨I.below.grown g (by have := I.size; omega) (by simp), (g.block _ (lt_of_heap I.pc) (by simp)).trans I.pc, (g.block _ (lt_of_heap I.mc) (by simp)).trans I.mc,
   (g.block _ (lt_of_heap I.rc) (by simp)).trans I.rc, (g.block _ (lt_of_heap I.ec) (by simp)).trans I.ec,
   I.b.kept g (by cases vb.ownBlock <;> simp), I.h.kept g (by cases vh.ownBlock <;> simp), I.c.kept g (by cases vc.ownBlock <;> simp),
   fun j => (I.e j).kept g (by cases (ve j).ownBlock <;> simp), I.apart⟩

theorem alloc (I : BInv w0 w p m vb vh vc ve s es) (o : Obj) : BInv w0 (w.alloc o) p m vb vh vc ve s es := I.keep (World.grownBy_alloc w o none)
theorem drew (I : BInv w0 w p m vb vh vc ve s es) : BInv w0 w.drew p m vb vh vc ve s es := I.keep ⟨rfl, rfl, rfl, Nat.le_refl _, fun _ _ _ => rfl⟩

theorem ne_of_lt {base e size n : Nat} {v : Value} {xs : List Value} (ho : w.ownsRow base e size v n xs) {k : Nat} (hk : k < base) : some k ≠ v.ownBlock := by
  intro h
  have := ho.lt k h.symm
  omega

theorem grow_b (I : BInv w0 w p m vb vh vc ve s es) (g : w.grownBy w' vb.ownBlock) {b' : List UInt8} {n : Nat} (ho : w'.ownsRow (w0.heap.size + 4) 5 1 v' n (byteVals b')) (hn : n = b'.length) :
    BInv w0 w' p m v' vh vc ve { s with b := b' } es := by
  subst hn
  exact ⟨I.below.grown g (by have := I.size; omega) (fun k hk => by have := (I.b.lt k hk).1; omega),
   (g.block _ (lt_of_heap I.pc) (ne_of_lt I.b (by omega))).trans I.pc, (g.block _ (lt_of_heap I.mc) (ne_of_lt I.b (by omega))).trans I.mc,
   (g.block _ (lt_of_heap I.rc) (ne_of_lt I.b (by omega))).trans I.rc, (g.block _ (lt_of_heap I.ec) (ne_of_lt I.b (by omega))).trans I.ec,
   ho, I.h.kept g (ownBlocks_ne I.h I.b (by decide)), I.c.kept g (ownBlocks_ne I.c I.b (by decide)), fun j => (I.e j).kept g (ownBlocks_ne (I.e j) I.b (by decide)), I.apart⟩

theorem grow_h (I : BInv w0 w p m vb vh vc ve s es) (g : w.grownBy w' vh.ownBlock) {hs' : List Hst} {n : Nat} {l : List Value} (ho : w'.ownsRow (w0.heap.size + 4) 71 5 v' n l) (hn : n = hs'.length) (hl : l = hs'.flatMap Hst.cells) :
    BInv w0 w' p m vb v' vc ve { s with hosts := hs' } es := by
  subst hn hl
  exact ⟨I.below.grown g (by have := I.size; omega) (fun k hk => by have := (I.h.lt k hk).1; omega),
   (g.block _ (lt_of_heap I.pc) (ne_of_lt I.h (by omega))).trans I.pc, (g.block _ (lt_of_heap I.mc) (ne_of_lt I.h (by omega))).trans I.mc,
   (g.block _ (lt_of_heap I.rc) (ne_of_lt I.h (by omega))).trans I.rc, (g.block _ (lt_of_heap I.ec) (ne_of_lt I.h (by omega))).trans I.ec,
   I.b.kept g (ownBlocks_ne I.b I.h (by decide)), ho, I.c.kept g (ownBlocks_ne I.c I.h (by decide)), fun j => (I.e j).kept g (ownBlocks_ne (I.e j) I.h (by decide)), I.apart⟩

theorem grow_c (I : BInv w0 w p m vb vh vc ve s es) (g : w.grownBy w' vc.ownBlock) {cs' : List Ck} {n : Nat} {l : List Value} (ho : w'.ownsRow (w0.heap.size + 4) 73 7 v' n l) (hn : n = cs'.length) (hl : l = cs'.flatMap Ck.cells) :
    BInv w0 w' p m vb vh v' ve { s with checks := cs' } es := by
  subst hn hl
  exact ⟨I.below.grown g (by have := I.size; omega) (fun k hk => by have := (I.c.lt k hk).1; omega),
   (g.block _ (lt_of_heap I.pc) (ne_of_lt I.c (by omega))).trans I.pc, (g.block _ (lt_of_heap I.mc) (ne_of_lt I.c (by omega))).trans I.mc,
   (g.block _ (lt_of_heap I.rc) (ne_of_lt I.c (by omega))).trans I.rc, (g.block _ (lt_of_heap I.ec) (ne_of_lt I.c (by omega))).trans I.ec,
   I.b.kept g (ownBlocks_ne I.b I.c (by decide)), I.h.kept g (ownBlocks_ne I.h I.c (by decide)), ho, fun j => (I.e j).kept g (ownBlocks_ne (I.e j) I.c (by decide)), I.apart⟩

/-- the expected checks of host h grow, and the new slice is stored back -/
theorem grow_e (I : BInv w0 w p m vb vh vc ve s es) {h : Nat} (hh : h < 4) (g : w.grownBy w' (ve h).ownBlock) {l : List Chk} {gb cap : Nat} (ho : w'.ownsRow (w0.heap.size + 4) 64 5 (.slice (some ⟨gb, 0, none⟩) l.length cap) l.length (l.flatMap Chk.xcells))
    (hat : (ve h).ownBlock = some gb ∨ gb = w.heap.size) :
    BInv w0 (w'.setCell ⟨w0.heap.size + 3, h, none⟩ (.slice (some ⟨gb, 0, none⟩) l.length cap)) p m vb vh vc (fun j => if j = h then .slice (some ⟨gb, 0, none⟩) l.length cap else ve j) s (fun j => if j = h then l else es j) := by
  have hsz := I.size
  have hb : ∀ k, k < w0.heap.size + 4 → w'.heap[k]? = w.heap[k]? := fun k hk => g.block k (by omega) (ne_of_lt (I.e h) hk)
  have hk : ∀ k, k ≠ w0.heap.size + 3 → (w'.setCell ⟨w0.heap.size + 3, h, none⟩ (.slice (some ⟨gb, 0, none⟩) l.length cap)).heap[k]? = w'.heap[k]? := fun k hk => Below.heap_setCell _ _ _ _ hk
  have keep : ∀ {e size n : Nat} {v : Value} {xs : List Value}, w'.ownsRow (w0.heap.size + 4) e size v n xs → (w'.setCell ⟨w0.heap.size + 3, h, none⟩ (.slice (some ⟨gb, 0, none⟩) l.length cap)).ownsRow (w0.heap.size + 4) e size v n xs :=
    fun ho => ownsRow_setCell_below ho (by show w0.heap.size + 3 < _; omega) _
  have hne : ∀ j, j ≠ h → (ve j).ownBlock = none ∨ (ve j).ownBlock ≠ some gb := by
    intro j hj
    rcases hat with hat | hat
    · rw [← hat]; exact I.apart j h hj
    · cases hv : (ve j).ownBlock with
      | none => exact .inl rfl
      | some k => right; have := ((I.e j).lt k hv).2; simp; omega
  refine ⟨(I.below.grown g (by omega) (fun k hk => by have := ((I.e h).lt k hk).1; omega)).setCell (by show w0.heap.size ≤ w0.heap.size + 3; omega) _, ?_, ?_, ?_, ?_, keep (I.b.kept g (ownBlocks_ne I.b (I.e h) (by decide))), keep (I.h.kept g (ownBlocks_ne I.h (I.e h) (by decide))), keep (I.c.kept g (ownBlocks_ne I.c (I.e h) (by decide))), ?_, ?_⟩
  · rw [hk _ (by omega), hb _ (by omega)]; exact I.pc
  · rw [hk _ (by omega), hb _ (by omega)]; exact I.mc
  · rw [hk _ (by omega), hb _ (by omega)]; exact I.rc
  · have he : w'.heap[w0.heap.size + 3]? = some (.cells #[ve 0, ve 1, ve 2, ve 3] 27 (0, 0)) := (hb _ (by omega)).trans I.ec
    simp only [World.setCell, Array.getElem?_modify, if_true, he, Option.map_some]
    obtain rfl | rfl | rfl | rfl : h = 0 ∨ h = 1 ∨ h = 2 ∨ h = 3 := by omega
    all_goals simp
  · intro j
    by_cases hj : j = h
    · simp only [hj, if_true]; exact keep ho
    · simp only [hj, if_false]; exact keep ((I.e j).kept g (I.apart j h hj))
  · intro j k hjk
    by_cases h1 : j = h
    · by_cases h2 : k = h
      · omega
      · simp only [h1, h2, if_true, if_false]
        right
        intro e
        rcases hne k h2 with hn | hn
        · rw [hn] at e; simp [Value.ownBlock] at e
        · exact hn e.symm
    · by_cases h2 : k = h
      · simp only [h1, h2, if_true, if_false]; exact hne j h1
      · simp only [h1, h2, if_false]; exact I.apart j k hjk

/-- a store into a block that is none of the rows -/
theorem setOther (I : BInv w0 w p m vb vh vc ve s es) {k j : Nat} (hk : w0.heap.size + 4 ≤ k) (hb : vb.ownBlock ≠ some k) (hh : vh.ownBlock ≠ some k) (hc : vc.ownBlock ≠ some k) (he : ∀ i, (ve i).ownBlock ≠ some k) (v : Value) :
    BInv w0 (w.setCell ⟨k, j, none⟩ v) p m vb vh vc ve s es := by
  have g : w.grownBy (w.setCell ⟨k, j, none⟩ v) (some k) := ⟨rfl, rfl, rfl, by simp [World.setCell], fun i _ hi => Below.heap_setCell _ _ _ _ (by intro e; subst e; exact hi rfl)⟩
  exact ⟨I.below.grown g (by have := I.size; omega) (fun i hi => by cases hi; omega),
   (g.block _ (lt_of_heap I.pc) (by simp; omega)).trans I.pc, (g.block _ (lt_of_heap I.mc) (by simp; omega)).trans I.mc,
   (g.block _ (lt_of_heap I.rc) (by simp; omega)).trans I.rc, (g.block _ (lt_of_heap I.ec) (by simp; omega)).trans I.ec,
   I.b.kept g (.inr hb), I.h.kept g (.inr hh), I.c.kept g (.inr hc), fun i => (I.e i).kept g (.inr (he i)), I.apart⟩
end BInv

theorem own_form {w : World} {base e size n : Nat} {v : Value} {xs : List Value} (h : w.ownsRow base e size v n xs) : ∃ ao c, v = .slice ao n c := by
  rcases h.2 with ⟨rfl, rfl⟩ | ⟨g, cap, cur, rfl, _⟩
  · exact ⟨none, 0, rfl⟩
  · exact ⟨_, _, rfl⟩

theorem Ybaf.info5 : (Ybaf.prog.info? 5).map (fun i => (i.zero, i.size, i.bytes)) = some (some (.int .u8 0), 1, 1) := by kernel_rfl
theorem Ybaf.info71 : (Ybaf.prog.info? 71).map (fun i => (i.zero, i.size, i.bytes)) = some (some (.agg #[.int .u32 0, .int .u32 0, .int .u32 0, .int .u32 0, .bool false]), 5, 20) := by kernel_rfl
theorem Ybaf.info73 : (Ybaf.prog.info? 73).map (fun i => (i.zero, i.size, i.bytes)) = some (some (.agg #[.int .u64 0, .int .u32 0, .int .u32 0, .int .u32 0, .int .u32 0, .int .u64 0, .int .i64 0]), 7, 40) := by kernel_rfl
theorem Ybaf.info64 : (Ybaf.prog.info? 64).map (fun i => (i.zero, i.size, i.bytes)) = some (some (.agg #[.int .u64 0, .string ⟨#[]⟩, .string ⟨#[]⟩, .int .u64 0, .int .i64 0]), 5, 56) := by kernel_rfl

/-- append of a string's bytes: the new slice's form -/
theorem append_bytes {ops : Array Oper} {rest : List Oper} {o : Oper} {a : Act} {w : World} {Q : Exit → Act → World → Prop} (hgd : o.guard = none) (sl x : Operand)
    (ho : o.op = .call { callee := .builtin .append, args := #[sl, x], argTypes := #[67, 9] })
    (base : Nat) (v : Value) (l : List UInt8) (n : Nat) (hn : n = l.length) (hs : a.eval sl = v) (hown : w.ownsRow base 5 1 v l.length (byteVals l)) (s : ByteArray) (hx : a.eval x = .string s)
    (hbytes : n + s.size ≤ 140737488355328) (hbase : base ≤ w.heap.size)
    (h : ∀ ao c w', w'.ownsRow base 5 1 (.slice ao (n + s.size) c) (n + s.size) (byteVals (l ++ s.data.toList)) → w.grownBy w' v.ownBlock → wpList Ybaf.prog ops Q rest (a.put o.dst (.slice ao (n + s.size) c)) w') :
    wpList Ybaf.prog ops Q (o :: rest) a w := by
  subst hn
  obtain ⟨i, hi, hz0, hz1, hz2⟩ := info_parts Ybaf.info5
  refine Lib.wpList_append_own_string w hgd sl x 67 9 ho base 5 i Ybaf.underlying67 Ybaf.underlying9 hi hz0 hz1 hz2 v l.length (byteVals l) hs hown s hx (by unfold maxLen; omega) hbytes hbase ?_
  intro v' w' h1 h2 _
  obtain ⟨ao, c, rfl⟩ := own_form h1
  have e2 : byteVals (l ++ s.data.toList) = byteVals l ++ Lib.strCells s := by simp [byteVals, Lib.strCells]
  exact h ao c w' (by rw [e2]; exact h1) h2

/-- append of one element that lies in a block of its own -/
theorem append_one {ops : Array Oper} {rest : List Oper} {o : Oper} {a : Act} {w : World} {Q : Exit → Act → World → Prop} {α : Type} (f : α → List Value) (t e size bytes : Nat) (z : Value) (hgd : o.guard = none) (sl x : Operand)
    (ho : o.op = .call { callee := .builtin .append, args := #[sl, x], argTypes := #[t, t] }) (ht : Ybaf.prog.underlying t = some (.slice e))
    (hinfo : (Ybaf.prog.info? e).map (fun i => (i.zero, i.size, i.bytes)) = some (some z, size, bytes)) (hzs : z.cells.size = size) (hsz : 0 < size) (hf : ∀ y, (f y).length = size) (hf1 : ∀ y, ∀ u ∈ f y, u.oneCell' = true)
    (base : Nat) (v : Value) (l : List α) (hs : a.eval sl = v) (hown : w.ownsRow base e size v l.length (l.flatMap f)) (B c : Nat) (y : α) (hx : a.eval x = .slice (some ⟨B, 0, none⟩) 1 c)
    (ca : Array Value) (te : TypeId) (fr : Nat × Nat) (hB : w.heap[B]? = some (.cells ca te fr)) (hca : ca.toList = f y) (hbytes : (l.length + 1) * bytes ≤ 140737488355328) (hlen : l.length ≤ 1000000) (hbase : base ≤ w.heap.size)
    (h : ∀ g cap w', w'.ownsRow base e size (.slice (some ⟨g, 0, none⟩) (l.length + 1) cap) (l ++ [y]).length ((l ++ [y]).flatMap f) → w.grownBy w' v.ownBlock → (v.ownBlock = some g ∨ g = w.heap.size) → g < w'.heap.size →
      wpList Ybaf.prog ops Q rest (a.put o.dst (.slice (some ⟨g, 0, none⟩) (l.length + 1) cap)) w') :
    wpList Ybaf.prog ops Q (o :: rest) a w := by
  obtain ⟨i, hi, hz0, hz1, hz2⟩ := info_parts hinfo
  refine wpList_append_lies w hgd sl x t ho base e i z size bytes ht hi hz0 hz1 hz2 hzs hsz v l.length (l.flatMap f) hs hown ⟨B, 0, none⟩ 1 c (f y) hx (by rw [hf]; omega) ?_ (hf1 y) (by omega) (by unfold maxLen; omega) hbytes hbase w.heap.size rfl ?_
  · rw [← hca]; exact World.news_of_block hB
  · intro g cap w' h1 h2 h3 h4
    refine h g cap w' ?_ h2 h3 h4
    have e1 : (l ++ [y]).length = l.length + 1 := by simp
    have e2 : (l ++ [y]).flatMap f = l.flatMap f ++ f y := by simp
    rw [e1, e2]; exact h1

/-- the same, at the operation -/
theorem append_one_wp {o : Oper} {a : Act} {w : World} {K : Act → World → Prop} {Q : Exit → Act → World → Prop} {α : Type} (f : α → List Value) (t e size bytes : Nat) (z : Value) (sl x : Operand)
    (ho : o.op = .call { callee := .builtin .append, args := #[sl, x], argTypes := #[t, t] }) (ht : Ybaf.prog.underlying t = some (.slice e))
    (hinfo : (Ybaf.prog.info? e).map (fun i => (i.zero, i.size, i.bytes)) = some (some z, size, bytes)) (hzs : z.cells.size = size) (hsz : 0 < size) (hf : ∀ y, (f y).length = size) (hf1 : ∀ y, ∀ u ∈ f y, u.oneCell' = true)
    (base : Nat) (v : Value) (l : List α) (hs : a.eval sl = v) (hown : w.ownsRow base e size v l.length (l.flatMap f)) (B c : Nat) (y : α) (hx : a.eval x = .slice (some ⟨B, 0, none⟩) 1 c)
    (ca : Array Value) (te : TypeId) (fr : Nat × Nat) (hB : w.heap[B]? = some (.cells ca te fr)) (hca : ca.toList = f y) (hbytes : (l.length + 1) * bytes ≤ 140737488355328) (hlen : l.length ≤ 1000000) (hbase : base ≤ w.heap.size)
    (h : ∀ g cap w', w'.ownsRow base e size (.slice (some ⟨g, 0, none⟩) (l.length + 1) cap) (l ++ [y]).length ((l ++ [y]).flatMap f) → w.grownBy w' v.ownBlock → (v.ownBlock = some g ∨ g = w.heap.size) → g < w'.heap.size →
      K (a.put o.dst (.slice (some ⟨g, 0, none⟩) (l.length + 1) cap)) w') :
    Oper.wp Ybaf.prog o a w K Q := by
  obtain ⟨i, hi, hz0, hz1, hz2⟩ := info_parts hinfo
  refine wp_append_lies w sl x t ho base e i z size bytes ht hi hz0 hz1 hz2 hzs hsz v l.length (l.flatMap f) hs hown ⟨B, 0, none⟩ 1 c (f y) hx (by rw [hf]; omega) ?_ (hf1 y) (by omega) (by unfold maxLen; omega) hbytes hbase w.heap.size rfl ?_
  · rw [← hca]; exact World.news_of_block hB
  · intro g cap w' h1 h2 h3 h4
    refine h g cap w' ?_ h2 h3 h4
    have e1 : (l ++ [y]).length = l.length + 1 := by simp
    have e2 : (l ++ [y]).flatMap f = l.flatMap f ++ f y := by simp
    rw [e1, e2]; exact h1

theorem Hst.cells_len (h : Hst) : h.cells.length = 5 := rfl
theorem Ck.cells_len (h : Ck) : h.cells.length = 7 := rfl
theorem Chk.xcells_len (h : Chk) : h.xcells.length = 5 := rfl
theorem Hst.cells_one (h : Hst) : ∀ u ∈ h.cells, u.oneCell' = true := by simp [Hst.cells, Value.oneCell']
theorem Ck.cells_one (h : Ck) : ∀ u ∈ h.cells, u.oneCell' = true := by simp [Ck.cells, Value.oneCell']
theorem Chk.xcells_one (h : Chk) : ∀ u ∈ h.xcells, u.oneCell' = true := by simp [Chk.xcells, Value.oneCell']

theorem keep_block {w w' : World} {g : Nat} {c : Array Value} {e1 e2 : TypeId} {fr : Nat × Nat} {base size n : Nat} {v : Value} {xs : List Value}
    (hg : w.heap[g]? = some (.cells c e1 fr)) (hgr : w.grownBy w' v.ownBlock) (ho : w.ownsRow base e2 size v n xs) (h : e1 ≠ e2) : w'.heap[g]? = some (.cells c e1 fr) :=
  (hgr.block g (lt_of_heap hg) (fun e => ownBlock_ne hg ho h e.symm)).trans hg
theorem keep_alloc {w : World} {g : Nat} {o : Obj} (hg : w.heap[g]? = some o) (o' : Obj) : (w.alloc o').heap[g]? = some o :=
  (Below.heap_alloc w o' g (lt_of_heap hg)).trans hg

theorem conv_own {w : World} {base n : Nat} {v : Value} {l : List UInt8} (ho : w.ownsRow base 5 1 v n (byteVals l)) : (convert 67 9 v).run Ybaf.prog w = .ok (.string ⟨l.toArray⟩) w := by
  have hn : l.length = n := by have := ho.1; simpa [byteVals] using this
  rcases ho.2 with ⟨rfl, h0⟩ | ⟨g, cap, cur, rfl, hb, hg, h1, h2, h3, h4⟩
  · have : l = [] := List.length_eq_zero_iff.1 (by omega)
    subst this
    exact run_convert_bytes_nil w 67 5 Ybaf.underlying67 Ybaf.underlying5 0 0 9 Ybaf.underlying9
  · have hc := ho.cells (g := g) rfl
    have := run_convert_bytes_arg (P := Ybaf.prog) w 67 5 Ybaf.underlying67 Ybaf.underlying5 g 0 n cap (l.map fun b => (b.toNat : Int)) (by simpa using hn) (fun i hi => by
      have h := hc i (.int .u8 ((l.map fun b => (b.toNat : Int)).getD i 0)) (by
        have hil : i < l.length := by omega
        simp [byteVals, List.getD, List.getElem?_eq_getElem hil])
      have hadd : (⟨g, 0, none⟩ : Addr).add i = ⟨g, 0 + i, none⟩ := by unfold Addr.add; split <;> simp_all
      rw [hadd] at h
      exact h) 9 Ybaf.underlying9
    rw [this]
    have : strOfNums (l.map fun b => (b.toNat : Int)) = ⟨l.toArray⟩ := by
      simp only [strOfNums, List.map_map]
      congr 2
      have : (fun n : Int => UInt8.ofNat n.toNat) ∘ (fun b : UInt8 => (b.toNat : Int)) = id := by funext b; simp
      rw [this, List.map_id]
    rw [this]

theorem heap_setCell_at {w : World} {g k : Nat} {c : Array Value} {e : TypeId} {f : Nat × Nat} (h : w.heap[g]? = some (.cells c e f)) (v : Value) :
    (w.setCell ⟨g, k, none⟩ v).heap[g]? = some (.cells (c.setIfInBounds k v) e f) := by
  simp only [World.setCell, Array.getElem?_modify, if_true, h, Option.map_some]
  simp

/-- WHAT zzs1183cbuild HAS BUILT: the configuration in block 'c', its two tables, the checks that are expected of each host. -/
structure Built (w0 w : World) (p m : Nat → Bool) (xs : List Chk) (c : Nat) (vh vc : Value) (ve : Nat → Value) : Prop where
  below : Below w0.heap.size w0 w
  cfg : w.heap[c]? = some (.cells #[.string ⟨(St.build p m xs 4).b.toArray⟩, vh, vc] 49 (0, 0))
  old : w0.heap.size ≤ c
  h : w.ownsRow (w0.heap.size + 4) 71 5 vh (St.build p m xs 4).hosts.length ((St.build p m xs 4).hosts.flatMap Hst.cells)
  c : w.ownsRow (w0.heap.size + 4) 73 7 vc (St.build p m xs 4).checks.length ((St.build p m xs 4).checks.flatMap Ck.cells)
  e : ∀ j, j < 4 → w.ownsRow (w0.heap.size + 4) 64 5 (ve j) (expd p xs j).length ((expd p xs j).flatMap Chk.xcells)

theorem BInv.done {w0 w : World} {p m : Nat → Bool} {vb vh vc : Value} {ve : Nat → Value} {xs : List Chk} (I : BInv w0 w p m vb vh vc ve (St.build p m xs 4) (fun j => if j < 4 then expd p xs j else [])) (v0 v1 v2 v3 : Value)
    (W : World) (hW : W = (((((w.alloc (.cells #[.string ⟨(St.build p m xs 4).b.toArray⟩, vh, vc] 49)).setCell ⟨w0.heap.size + 2, 0, none⟩ v0).setCell ⟨w0.heap.size + 2, 1, none⟩ v1).setCell ⟨w0.heap.size + 2, 2, none⟩ v2).setCell ⟨w0.heap.size + 2, 3, none⟩ v3).drew) :
    Built w0 W p m xs w.heap.size vh vc ve ∧ W.heap[w0.heap.size + 2]? = some (.cells #[v0, v1, v2, v3] 27 (0, 0)) := by
  subst hW
  have hsz := I.size
  have J := I.alloc (.cells #[.string ⟨(St.build p m xs 4).b.toArray⟩, vh, vc] 49)
  have keep : ∀ {W : World} {e size n : Nat} {v : Value} {l : List Value} {k : Nat} {u : Value}, W.ownsRow (w0.heap.size + 4) e size v n l → (W.setCell ⟨w0.heap.size + 2, k, none⟩ u).ownsRow (w0.heap.size + 4) e size v n l :=
    fun ho => ownsRow_setCell_below ho (by show w0.heap.size + 2 < _; omega) _
  have far : ∀ {W : World} {k g : Nat} {u : Value} {o : Obj}, W.heap[g]? = some o → g ≠ w0.heap.size + 2 → (W.setCell ⟨w0.heap.size + 2, k, none⟩ u).heap[g]? = some o :=
    fun h hne => (Below.heap_setCell _ _ _ _ hne).trans h
  refine ⟨⟨?_, ?_, by omega, ?_, ?_, ?_⟩, ?_⟩
  · exact ((((J.below.setCell (by show w0.heap.size ≤ w0.heap.size + 2; omega) _).setCell (by show w0.heap.size ≤ w0.heap.size + 2; omega) _).setCell (by show w0.heap.size ≤ w0.heap.size + 2; omega) _).setCell (by show w0.heap.size ≤ w0.heap.size + 2; omega) _).drew
  · exact far (far (far (far (heap_alloc_new w _) (by omega)) (by omega)) (by omega)) (by omega)
  · exact (keep (keep (keep (keep J.h)))).drew
  · exact (keep (keep (keep (keep J.c)))).drew
  · intro j hj
    have := J.e j
    simp only [hj, if_true] at this
    exact (keep (keep (keep (keep this)))).drew
  · have := heap_setCell_at (heap_setCell_at (heap_setCell_at (heap_setCell_at J.rc (k := 0) v0) (k := 1) v1) (k := 2) v2) (k := 3) v3
    exact this

theorem heap_new (w : World) (o : Obj) (k : Nat) (h : k = w.heap.size) : (w.alloc o).heap[k]? = some o := by subst h; exact heap_alloc_new w o
theorem cell_at {w : World} {g k : Nat} {c : Array Value} {t : TypeId} {f : Nat × Nat} {v : Value} (hg : w.heap[g]? = some (.cells c t f)) (hc : c[k]? = some v) : w.cell? ⟨g, k, none⟩ = some v := by
  simp [World.cell?, hg, hc]
theorem frozen_at {w : World} {g k : Nat} {c : Array Value} {t : TypeId} (hg : w.heap[g]? = some (.cells c t (0, 0))) : w.frozen? ⟨g, k, none⟩ = false := by
  simp [World.frozen?, hg]

end Go.Proofs.YbulkxmaFmt
