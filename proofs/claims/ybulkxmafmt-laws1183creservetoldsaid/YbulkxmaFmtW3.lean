/-
  THE CONFIGURATION IN MEMORY AS A READER SEES IT; the search for a host.
-/
import Derived.Test.YbulkxmaFmtW2
namespace Go.Proofs.YbulkxmaFmt
open Go.RowKit

structure HstAt (w : World) (g o : Nat) (h : Hst) : Prop where
  c0 : w.cell? ⟨g, o, none⟩ = some (.int .u32 h.ns)
  c1 : w.cell? ⟨g, o + 1, none⟩ = some (.int .u32 h.ne)
  c2 : w.cell? ⟨g, o + 2, none⟩ = some (.int .u32 h.cs)
  c3 : w.cell? ⟨g, o + 3, none⟩ = some (.int .u32 h.ce)
  c4 : w.cell? ⟨g, o + 4, none⟩ = some (.bool h.mon)

structure CkAt (w : World) (g o : Nat) (c : Ck) : Prop where
  c0 : w.cell? ⟨g, o, none⟩ = some (.int .u64 c.id)
  c1 : w.cell? ⟨g, o + 1, none⟩ = some (.int .u32 c.ks)
  c2 : w.cell? ⟨g, o + 2, none⟩ = some (.int .u32 c.ke)
  c3 : w.cell? ⟨g, o + 3, none⟩ = some (.int .u32 c.ke)
  c4 : w.cell? ⟨g, o + 4, none⟩ = some (.int .u32 c.de)
  c5 : w.cell? ⟨g, o + 5, none⟩ = some (.int .u64 c.lls)
  c6 : w.cell? ⟨g, o + 6, none⟩ = some (.int .i64 c.mt)

structure XAt (w : World) (g o : Nat) (c : Chk) : Prop where
  c0 : w.cell? ⟨g, o, none⟩ = some (.int .u64 c.id)
  c1 : w.cell? ⟨g, o + 1, none⟩ = some (.string c.key)
  c2 : w.cell? ⟨g, o + 2, none⟩ = some (.string c.delay)
  c3 : w.cell? ⟨g, o + 3, none⟩ = some (.int .u64 c.lls)
  c4 : w.cell? ⟨g, o + 4, none⟩ = some (.int .i64 c.mt)

theorem HstAt.below {w w' : World} {g o : Nat} {h : Hst} (a : HstAt w g o h) (b : Below w.heap.size w w') : HstAt w' g o h :=
  have hlt := World.block_lt_of_cell? w _ a.c0
  ⟨(b.cell (p := ⟨g, o, none⟩) hlt).trans a.c0, (b.cell (p := ⟨g, o + 1, none⟩) hlt).trans a.c1, (b.cell (p := ⟨g, o + 2, none⟩) hlt).trans a.c2, (b.cell (p := ⟨g, o + 3, none⟩) hlt).trans a.c3, (b.cell (p := ⟨g, o + 4, none⟩) hlt).trans a.c4⟩
theorem CkAt.below {w w' : World} {g o : Nat} {h : Ck} (a : CkAt w g o h) (b : Below w.heap.size w w') : CkAt w' g o h :=
  have hlt := World.block_lt_of_cell? w _ a.c0
  ⟨(b.cell (p := ⟨g, o, none⟩) hlt).trans a.c0, (b.cell (p := ⟨g, o + 1, none⟩) hlt).trans a.c1, (b.cell (p := ⟨g, o + 2, none⟩) hlt).trans a.c2, (b.cell (p := ⟨g, o + 3, none⟩) hlt).trans a.c3, (b.cell (p := ⟨g, o + 4, none⟩) hlt).trans a.c4, (b.cell (p := ⟨g, o + 5, none⟩) hlt).trans a.c5, (b.cell (p := ⟨g, o + 6, none⟩) hlt).trans a.c6⟩
theorem XAt.below {w w' : World} {g o : Nat} {h : Chk} (a : XAt w g o h) (b : Below w.heap.size w w') : XAt w' g o h :=
  have hlt := World.block_lt_of_cell? w _ a.c0
  ⟨(b.cell (p := ⟨g, o, none⟩) hlt).trans a.c0, (b.cell (p := ⟨g, o + 1, none⟩) hlt).trans a.c1, (b.cell (p := ⟨g, o + 2, none⟩) hlt).trans a.c2, (b.cell (p := ⟨g, o + 3, none⟩) hlt).trans a.c3, (b.cell (p := ⟨g, o + 4, none⟩) hlt).trans a.c4⟩

/-- A configuration in block c: its text, its two tables. -/
structure CfgAt (w : World) (c gh gc : Nat) (ah ac : Option Addr) (ch cc : Nat) (st : St) : Prop where
  c0 : w.cell? ⟨c, 0, none⟩ = some (.string ⟨st.b.toArray⟩)
  c1 : w.cell? ⟨c, 1, none⟩ = some (.slice ah st.hosts.length ch)
  c2 : w.cell? ⟨c, 2, none⟩ = some (.slice ac st.checks.length cc)
  ah : 0 < st.hosts.length → ah = some ⟨gh, 0, none⟩
  ac : 0 < st.checks.length → ac = some ⟨gc, 0, none⟩
  hc : st.checks.length ≤ cc
  hosts : ∀ i (hi : i < st.hosts.length), HstAt w gh (i * 5) st.hosts[i]
  checks : ∀ i (hi : i < st.checks.length), CkAt w gc (i * 7) st.checks[i]

theorem CfgAt.below {w w' : World} {c gh gc : Nat} {ah ac : Option Addr} {ch cc : Nat} {st : St} (a : CfgAt w c gh gc ah ac ch cc st) (b : Below w.heap.size w w') : CfgAt w' c gh gc ah ac ch cc st :=
  have hlt := World.block_lt_of_cell? w _ a.c0
  ⟨(b.cell (p := ⟨c, 0, none⟩) hlt).trans a.c0, (b.cell (p := ⟨c, 1, none⟩) hlt).trans a.c1, (b.cell (p := ⟨c, 2, none⟩) hlt).trans a.c2, a.ah, a.ac, a.hc, fun i hi => (a.hosts i hi).below b, fun i hi => (a.checks i hi).below b⟩

theorem flatMap_at {α : Type} (f : α → List Value) (n : Nat) (hf : ∀ x, (f x).length = n) : ∀ (l : List α) (i j : Nat) (hi : i < l.length), j < n → (l.flatMap f)[i * n + j]? = (f l[i])[j]? := by
  intro l
  induction l with
  | nil => intro i j hi; simp at hi
  | cons x l ih =>
    intro i j hi hj
    rw [List.flatMap_cons]
    cases i with
    | zero => rw [List.getElem?_append_left (by rw [hf]; omega)]; simp
    | succ i =>
      rw [List.getElem?_append_right (by rw [hf, Nat.succ_mul]; omega), hf, show (i + 1) * n + j - n = i * n + j by rw [Nat.succ_mul]; omega, ih i j (by simpa using hi) hj]
      simp

theorem own_cell {w : World} {base e size n : Nat} {v : Value} {α : Type} (f : α → List Value) {l : List α} (h : w.ownsRow base e size v n (l.flatMap f)) (hf : ∀ x, (f x).length = size) (hs : 0 < size) :
    ∃ g ao c, v = .slice ao n c ∧ n ≤ c ∧ n = l.length ∧ (0 < n → ao = some ⟨g, 0, none⟩) ∧ ∀ i (hi : i < l.length) j u, j < size → (f l[i])[j]? = some u → w.cell? ⟨g, i * size + j, none⟩ = some u := by
  have hlen : ∀ l : List α, (l.flatMap f).length = l.length * size := by
    intro l
    induction l with
    | nil => simp
    | cons x l ih => rw [List.flatMap_cons, List.length_append, hf, ih, List.length_cons, Nat.succ_mul]; omega
  have hn : n = l.length := by
    have := h.1
    rw [hlen] at this
    exact (Nat.eq_of_mul_eq_mul_right hs this).symm
  rcases h.2 with ⟨rfl, h0⟩ | ⟨g, cap, cur, rfl, _, _, hcap, _⟩
  · refine ⟨0, none, 0, by rw [h0], by omega, hn, fun hh => by omega, fun i hi => by omega⟩
  · refine ⟨g, _, cap, rfl, hcap, hn, fun _ => rfl, fun i hi j u hj hu => ?_⟩
    have := h.cells (g := g) rfl (i * size + j) u (by rw [flatMap_at f size hf l i j hi hj]; exact hu)
    rw [add_cell _ _ rfl] at this
    simpa using this

theorem Built.cfgAt {w0 w : World} {p m : Nat → Bool} {xs : List Chk} {c : Nat} {vh vc : Value} {ve : Nat → Value} (B : Built w0 w p m xs c vh vc ve) :
    ∃ gh gc ah ac ch cc, CfgAt w c gh gc ah ac ch cc (St.build p m xs 4) := by
  obtain ⟨gh, ah, ch, rfl, _, _, h1, h2⟩ := own_cell Hst.cells B.h Hst.cells_len (by omega)
  obtain ⟨gc, ac, cc, rfl, h3, _, h4, h5⟩ := own_cell Ck.cells B.c Ck.cells_len (by omega)
  refine ⟨gh, gc, ah, ac, ch, cc, cell_at B.cfg rfl, cell_at B.cfg rfl, cell_at B.cfg rfl, h1, h4, h3, fun i hi => ?_, fun i hi => ?_⟩
  · exact ⟨h2 i hi 0 _ (by omega) rfl, h2 i hi 1 _ (by omega) rfl, h2 i hi 2 _ (by omega) rfl, h2 i hi 3 _ (by omega) rfl, h2 i hi 4 _ (by omega) rfl⟩
  · exact ⟨h5 i hi 0 _ (by omega) rfl, h5 i hi 1 _ (by omega) rfl, h5 i hi 2 _ (by omega) rfl, h5 i hi 3 _ (by omega) rfl, h5 i hi 4 _ (by omega) rfl, h5 i hi 5 _ (by omega) rfl, h5 i hi 6 _ (by omega) rfl⟩

/-- the checks that are expected of a host, as memory holds them -/
structure XsAt (w : World) (v : Value) (l : List Chk) : Prop where
  ex : ∃ g ao c, v = .slice ao l.length c ∧ (0 < l.length → ao = some ⟨g, 0, none⟩) ∧ ∀ i (hi : i < l.length), XAt w g (i * 5) l[i]

theorem XsAt.below {w w' : World} {v : Value} {l : List Chk} (h : XsAt w v l) (b : Below w.heap.size w w') : XsAt w' v l := by
  obtain ⟨g, ao, c, h1, h2, h3⟩ := h.ex
  exact ⟨g, ao, c, h1, h2, fun i hi => (h3 i hi).below b⟩

theorem xsAt_of_own {w : World} {base n : Nat} {v : Value} {l : List Chk} (h : w.ownsRow base 64 5 v n (l.flatMap Chk.xcells)) : XsAt w v l := by
  obtain ⟨g, ao, c, rfl, _, rfl, h1, h2⟩ := own_cell Chk.xcells h Chk.xcells_len (by omega)
  exact ⟨g, ao, c, rfl, h1, fun i hi => ⟨h2 i hi 0 _ (by omega) rfl, h2 i hi 1 _ (by omega) rfl, h2 i hi 2 _ (by omega) rfl, h2 i hi 3 _ (by omega) rfl, h2 i hi 4 _ (by omega) rfl⟩⟩

theorem closure_any (bx c : Nat) (T t : ByteArray) (ns ne cs ce : Nat) (b : Bool) (w : World) (hbx : w.cell? ⟨bx, 0, none⟩ = some (.pointer (some ⟨c, 0, none⟩))) (h0 : w.cell? ⟨c, 0, none⟩ = some (.string T)) (hse : ns ≤ ne) (heT : ne ≤ T.size) :
    Calls Ybaf.prog 20 #[.agg #[.int .u32 ns, .int .u32 ne, .int .u32 cs, .int .u32 ce, .bool b], .string t, .pointer (some ⟨bx, 0, none⟩)] w fun r w' =>
      r = .returned (.int .i64 (Lib.compareBytes ((T.data.toList.drop ns).take (ne - ns)) t.data.toList)) ∧ Below w.heap.size w w' := by
  have hlt := World.block_lt_of_cell? w _ h0
  have hltb := World.block_lt_of_cell? w _ hbx
  go_enter Ybaf.func20, Ybaf.ntmps20
  go_wp2_with fail
  refine (textOf_any c T ns ne _ ?_ hse heT).mono ?_
  · go_simp
  rintro e w1 ⟨rfl, hb⟩
  go_wp2_with fail
  refine (compare_any _ _ _).mono ?_
  rintro e w2 ⟨rfl, rfl⟩
  go_wp2
  go_ret
  exact ⟨rfl, ((Below.refl _ _).alloc (Nat.le_refl _) _).trans (hb.mono (by simp))⟩

/-- where an element of a table of hosts lies -/
theorem run_at46 {a : Option Addr} {g : Nat} (ha : a = some ⟨g, 0, none⟩) (len cap k : Nat) (i : Int) (hi : i = k) (hk : k < len) (w : World) :
    (Instr.indexAt 46 (.slice a len cap) (.int .i64 i)).run Ybaf.prog w = .ok (.pointer (some ⟨g, k * 5, none⟩)) w := by
  subst ha hi
  have hk' : (0 : Int) ≤ (k : Int) ∧ (k : Int) < (len : Int) := ⟨by omega, by omega⟩
  rw [run_indexAt_slice _ _ _ _ _ _ _ (by rw [Ybaf.underlying46]; rfl), if_pos hk']
  have : (sizeOf (Ybaf.prog.elem 46)).run Ybaf.prog w = .ok 5 w := by kernel_rfl
  rw [this]
  simp [Result.andThen, add_cell]

/-- what the search answers -/
def Searched (n : Nat) (key : Nat → Int) (w : World) (r : Ending) (w' : World) : Prop :=
  ∃ i : Nat, i ≤ n ∧ (∀ j, j < i → key j < 0) ∧ (∀ j, i ≤ j → j < n → 0 ≤ key j) ∧ r = .returned (.tuple #[.int .i64 i, .bool (decide (i < n) && (key i == 0))]) ∧ Below w.heap.size w w'

set_option maxRecDepth 100000 in
theorem search_any (bx c gh gc : Nat) (ah ac : Option Addr) (ch cc : Nat) (st : St) (t : ByteArray) (w : World) (hbx : w.cell? ⟨bx, 0, none⟩ = some (.pointer (some ⟨c, 0, none⟩))) (C : CfgAt w c gh gc ah ac ch cc st)
    (hn : st.hosts.length ≤ 4) (hsp : ∀ i (hi : i < st.hosts.length), st.hosts[i].ns ≤ st.hosts[i].ne ∧ st.hosts[i].ne ≤ st.b.length) (key : Nat → Int)
    (hkey : ∀ i (hi : i < st.hosts.length), key i = Lib.compareBytes ((st.b.drop st.hosts[i].ns).take (st.hosts[i].ne - st.hosts[i].ns)) t.data.toList)
    (hmono : ∀ i j, i ≤ j → j < st.hosts.length → key j < 0 → key i < 0) :
    Calls Ybaf.prog 19 #[.slice ah st.hosts.length ch, .string t, .func (.func 20) #[] #[.pointer (some ⟨bx, 0, none⟩)]] w (Searched st.hosts.length key w) := by
  have HK : Hid (∀ i (hi : i < st.hosts.length), key i = Lib.compareBytes ((st.b.drop st.hosts[i].ns).take (st.hosts[i].ne - st.hosts[i].ns)) t.data.toList) := hkey
  have HM : Hid (∀ i j, i ≤ j → j < st.hosts.length → key j < 0 → key i < 0) := hmono
  have HP : Hid (∀ i (hi : i < st.hosts.length), st.hosts[i].ns ≤ st.hosts[i].ne ∧ st.hosts[i].ne ≤ st.b.length) := hsp
  clear hkey hmono hsp
  go_enter Ybaf.func19, Ybaf.ntmps19
  go_wp2
  go_loopw [9, 10, 11] (fun i j _ wr => ∃ a b : Nat, a ≤ b ∧ b ≤ st.hosts.length ∧ i = .int .i64 a ∧ j = .int .i64 b ∧ Hid (∀ k, k < a → key k < 0) ∧ Hid (∀ k, b ≤ k → k < st.hosts.length → 0 ≤ key k) ∧ Below w.heap.size w wr) (fun i j _ _ => (intOf j - intOf i).toNat)
  case atStart => exact ⟨0, st.hosts.length, by omega, by omega, rfl, rfl, fun k hk => by omega, fun k h1 h2 => by omega, Below.refl _ _⟩
  case round =>
    obtain ⟨a, b, hab, hbn, rfl, rfl, hlo, hhi, hbel⟩ := hrel
    by_cases hlt : a < b
    · have hmid : (a + b) / 2 < st.hosts.length := by omega
      have hmab : a ≤ (a + b) / 2 ∧ (a + b) / 2 < b := by omega
      have HE : Hid (((a : Int) + (b : Int)) / 2 = (((a + b) / 2 : Nat) : Int)) := by show _ = _; omega
      have hix := run_at46 (C.ah (by omega)) st.hosts.length ch ((a + b) / 2) (((a : Int) + (b : Int)) / 2) HE.out hmid
      have Cr := C.below hbel
      obtain ⟨h0, h1, h2, h3, h4⟩ := Cr.hosts _ hmid
      have hbr := (hbel.cell (p := ⟨bx, 0, none⟩) (World.block_lt_of_cell? w _ hbx)).trans hbx
      obtain ⟨hs1, hs2⟩ := HP.out _ hmid
      have hk := HK.out _ hmid
      generalize hM : (a + b) / 2 = M at *
      generalize hH : st.hosts[M] = H at *
      clear hH
      have HK' : Hid (Lib.compareBytes (((⟨st.b.toArray⟩ : ByteArray).data.toList.drop H.ns).take (H.ne - H.ns)) t.data.toList = key M) := by show _ = _; simp [hk]
      have HMm : Hid ((a + b) / 2 = M) := hM
      clear hk hM
      go_wp2_with fail
      refine (closure_any bx c ⟨st.b.toArray⟩ t H.ns H.ne H.cs H.ce H.mon wr hbr Cr.c0 hs1 (by simpa [ByteArray.size] using hs2)).mono ?_
      rintro e w1 ⟨he, hb1⟩
      rw [HK'.out] at he
      subst he
      have hbel1 := hbel.trans (hb1.mono hbel.size)
      clear hbr h0 h1 h2 h3 h4 Cr hix hbel hb1 hs1 hs2
      go_wp2
      · go_roundw
        case rel =>
          have hneg : key M < 0 := by assumption
          refine ⟨M + 1, b, by omega, hbn, ?_, rfl, fun k hk => HM.out k M (by omega) hmid hneg, hhi, hbel1⟩
          have := HMm.out
          refine congrArg (Value.int .i64) ?_
          omega
        case measure =>
          have := HMm.out
          simp [intOf]
          omega
      · go_roundw
        case rel =>
          have hpos : 0 ≤ key M := by assumption
          refine ⟨a, M, by omega, by omega, rfl, ?_, hlo, fun k h1 h2 => ?_, hbel1⟩
          · have := HMm.out
            refine congrArg (Value.int .i64) ?_
            omega
          · rcases Int.lt_or_le (key k) 0 with h | h
            · have := HM.out M k h1 h2 h
              omega
            · exact h
        case measure =>
          have := HMm.out
          simp [intOf]
          omega
    · obtain rfl : a = b := by omega
      by_cases hend : a < st.hosts.length
      · have hix := run_at46 (C.ah (by omega)) st.hosts.length ch a (a : Int) rfl hend
        have Cr := C.below hbel
        obtain ⟨h0, h1, h2, h3, h4⟩ := Cr.hosts _ hend
        have hbr := (hbel.cell (p := ⟨bx, 0, none⟩) (World.block_lt_of_cell? w _ hbx)).trans hbx
        obtain ⟨hs1, hs2⟩ := HP.out _ hend
        have hk := HK.out _ hend
        generalize hH : st.hosts[a] = H at *
        clear hH
        have HK' : Hid (Lib.compareBytes (((⟨st.b.toArray⟩ : ByteArray).data.toList.drop H.ns).take (H.ne - H.ns)) t.data.toList = key a) := by show _ = _; simp [hk]
        clear hk
        go_wp2_with fail
        refine (closure_any bx c ⟨st.b.toArray⟩ t H.ns H.ne H.cs H.ce H.mon wr hbr Cr.c0 hs1 (by simpa [ByteArray.size] using hs2)).mono ?_
        rintro e w1 ⟨he, hb1⟩
        rw [HK'.out] at he
        subst he
        have hbel1 := hbel.trans (hb1.mono hbel.size)
        clear hbr h0 h1 h2 h3 h4 Cr hix hbel hb1 hs1 hs2
        go_wp2
        go_ret2
        refine ⟨a, by omega, hlo.out, hhi.out, ?_, hbel1⟩
        simp [hend]
      · go_wp2
        go_ret2
        refine ⟨a, by omega, hlo.out, hhi.out, ?_, hbel⟩
        simp [hend]
end Go.Proofs.YbulkxmaFmt
