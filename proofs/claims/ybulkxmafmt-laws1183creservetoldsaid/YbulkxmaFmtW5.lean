/-
  copySize, strings.Clone, copyChecks.
-/
import Derived.Test.YbulkxmaFmtW4
import Derived.Test.YbulkxmaFmtShelf
namespace Go.Proofs.YbulkxmaFmt
open Go.RowKit Go.Stop

/-! ### the plain facts on a host's own checks -/
theorem cks_get (l : List Chk) : ∀ (o i : Nat) (hi : i < l.length), (cks o l)[i]? = some ⟨l[i].id, o + (flat (l.take i)).length, o + (flat (l.take i)).length + l[i].klen, o + (flat (l.take i)).length + l[i].klen + l[i].dlen, l[i].lls, l[i].mt⟩ := by
  induction l with
  | nil => intro o i hi; simp at hi
  | cons x l ih =>
    intro o i hi
    cases i with
    | zero => simp [cks, flat]
    | succ i =>
      have := ih (o + x.klen + x.dlen) i (by simpa using hi)
      simp only [cks, List.getElem?_cons_succ, this, List.getElem_cons_succ, List.take_succ_cons]
      have e : (flat (x :: l.take i)).length = x.klen + x.dlen + (flat (l.take i)).length := by simp [flat, Chk.klen, Chk.dlen, Nat.add_assoc]
      rw [e]
      simp only [Nat.add_assoc]

section
variable (p m : Nat → Bool) (xs : List Chk) (q : Nat)

/-- where the text of host q's checks begins -/
def txt : Nat := (St.build p m xs q).b.length + 1
/-- where host q's checks begin -/
def fst : Nat := (St.build p m xs q).checks.length

/-- check i of host q, as the configuration holds it -/
def ckOf (i : Nat) (x : Chk) : Ck :=
  ⟨x.id, txt p m xs q + (flat ((mine q xs).take i)).length, txt p m xs q + (flat ((mine q xs).take i)).length + x.klen, txt p m xs q + (flat ((mine q xs).take i)).length + x.klen + x.dlen, x.lls, x.mt⟩

theorem check_get (hq : q < 4) (hp : p q = true) (i : Nat) (hi : i < (mine q xs).length) :
    ∃ h : fst p m xs q + i < (St.build p m xs 4).checks.length, (St.build p m xs 4).checks[fst p m xs q + i] = ckOf p m xs q i (mine q xs)[i] := by
  obtain ⟨r1, r3, _, e3⟩ := around p m xs 4 q hq hp
  have : (St.build p m xs 4).checks[fst p m xs q + i]? = some (ckOf p m xs q i (mine q xs)[i]) := by
    rw [e3, List.append_assoc, List.getElem?_append_right (by unfold fst; omega)]
    rw [show fst p m xs q + i - (St.build p m xs q).checks.length = i by unfold fst; omega, List.getElem?_append_left (by rw [cks_len]; exact hi), cks_get _ _ _ hi]
    rfl
  obtain ⟨h, e⟩ := List.getElem?_eq_some_iff.1 this
  exact ⟨h, e⟩

theorem rec_le (hq : q < 4) (hp : p q = true) : fst p m xs q + (mine q xs).length ≤ (St.build p m xs 4).checks.length := by
  obtain ⟨r1, r3, _, e3⟩ := around p m xs 4 q hq hp
  rw [e3]
  simp [fst, cks_len]

theorem flat_take_le (l : List Chk) (i : Nat) : (flat (l.take i)).length ≤ (flat l).length := by
  have : flat l = flat (l.take i) ++ flat (l.drop i) := by rw [← flat_append, List.take_append_drop]
  rw [this]; simp

theorem flat_take_succ (l : List Chk) (i : Nat) (hi : i < l.length) : (flat (l.take (i + 1))).length = (flat (l.take i)).length + l[i].klen + l[i].dlen := by
  rw [List.take_succ_eq_append_getElem hi, flat_append, flat_one]
  simp [Chk.klen, Chk.dlen, Nat.add_assoc]

/-- the text of host q's checks stands in one piece -/
theorem txt_flat (hq : q < 4) (hp : p q = true) : txt p m xs q + (flat (mine q xs)).length ≤ (St.build p m xs 4).b.length ∧ ((St.build p m xs 4).b.drop (txt p m xs q)).take (flat (mine q xs)).length = flat (mine q xs) := by
  obtain ⟨r1, r3, e1, _⟩ := around p m xs 4 q hq hp
  have hl : ((St.build p m xs q).b ++ nameOf q).length = txt p m xs q := by simp [txt, nameOf_len]
  constructor
  · rw [e1, List.length_append, List.length_append, hl]; omega
  · rw [e1, List.append_assoc, ← hl, List.drop_left, List.take_left]

/-- the key and the delay of a check, cut out of the text of the host's checks -/
theorem flat_cut (l : List Chk) (i : Nat) (hi : i < l.length) :
    ((flat l).drop (flat (l.take i)).length).take l[i].klen = l[i].key.data.toList ∧ ((flat l).drop ((flat (l.take i)).length + l[i].klen)).take l[i].dlen = l[i].delay.data.toList := by
  have e : flat l = flat (l.take i) ++ (l[i].key.data.toList ++ (l[i].delay.data.toList ++ flat (l.drop (i + 1)))) := by
    have : l = l.take i ++ l[i] :: l.drop (i + 1) := by rw [List.getElem_cons_drop, List.take_append_drop]
    rw [congrArg flat this, flat_append]
    congr 1
    simp only [flat, List.flatMap_cons, List.append_assoc]
  rw [e]
  constructor
  · rw [List.drop_left]
    exact List.take_left
  · rw [← List.append_assoc]
    rw [show (flat (l.take i)).length + l[i].klen = (flat (l.take i) ++ l[i].key.data.toList).length by rw [List.length_append]; rfl]
    rw [List.drop_left]
    exact List.take_left
end

theorem run_at47 {a : Option Addr} {g o : Nat} (ha : a = some ⟨g, o, none⟩) (len cap k : Nat) (i : Int) (hi : i = k) (hk : k < len) (w : World) :
    (Instr.indexAt 47 (.slice a len cap) (.int .i64 i)).run Ybaf.prog w = .ok (.pointer (some ⟨g, o + k * 7, none⟩)) w := by
  subst ha hi
  have hk' : (0 : Int) ≤ (k : Int) ∧ (k : Int) < (len : Int) := ⟨by omega, by omega⟩
  rw [run_indexAt_slice _ _ _ _ _ _ _ (by rw [Ybaf.underlying47]; rfl), if_pos hk']
  have : (sizeOf (Ybaf.prog.elem 47)).run Ybaf.prog w = .ok 7 w := by kernel_rfl
  rw [this]
  simp [Result.andThen, add_cell]

/-- the memory that a copy of a host's checks takes -/
def need (l : List Chk) : Nat := if l.length = 0 then 0 else l.length * 56 + (flat l).length

theorem ck_at {w : World} {c gh gc : Nat} {ah ac : Option Addr} {ch cc : Nat} {p m : Nat → Bool} {xs : List Chk} {q : Nat} (C : CfgAt w c gh gc ah ac ch cc (St.build p m xs 4)) (hq : q < 4) (hp : p q = true) (i : Nat) (hi : i < (mine q xs).length) :
    CkAt w gc (fst p m xs q * 7 + i * 7) (ckOf p m xs q i (mine q xs)[i]) := by
  obtain ⟨h, e⟩ := check_get p m xs q hq hp i hi
  have := C.checks _ h
  rw [e, Nat.add_mul] at this
  exact this

set_option maxRecDepth 100000 in
theorem copySize_zero (c gc : Nat) (ac : Option Addr) (N cc n1 n2 o : Nat) (n3 : Bool) (w : World) (h2 : w.cell? ⟨c, 2, none⟩ = some (.slice ac N cc)) (hac : 0 < N → ac = some ⟨gc, 0, none⟩) (hN : o ≤ N) (hc : N ≤ cc) :
    Calls Ybaf.prog 16 #[.pointer (some ⟨c, 0, none⟩), .agg #[.int .u32 n1, .int .u32 n2, .int .u32 o, .int .u32 o, .bool n3]] w fun e w' => e = .returned (.int .i64 0) ∧ Below w.heap.size w w' := by
  have hl := World.block_lt_of_cell? w _ h2
  go_enter Ybaf.func16, Ybaf.ntmps16
  go_wp2_with fail
  refine (checksOf_any c gc ac N cc n1 n2 o o n3 _ ?_ hac (by omega) hN hc).mono ?_
  · go_simp
  rintro e w1 ⟨sa, sc, rfl, hsa, hb⟩
  have HB : Below w.heap.size w w1 := ((Below.refl _ _).alloc (Nat.le_refl _) _).trans (hb.mono (by simp))
  rw [Nat.sub_self]
  clear hb hsa
  go_wp2
  go_ret
  exact ⟨rfl, HB⟩

set_option maxRecDepth 100000 in
theorem copySize_pos (c gc : Nat) (ac : Option Addr) (N cc n1 n2 o n t f : Nat) (n3 : Bool) (w : World) (h2 : w.cell? ⟨c, 2, none⟩ = some (.slice ac N cc)) (hac : 0 < N → ac = some ⟨gc, 0, none⟩) (hN : o + n ≤ N) (hc : N ≤ cc)
    (hn : 0 < n) (hn2 : n ≤ 1024) (htf : t + f ≤ 536870916) (hks : w.cell? ⟨gc, o * 7 + 1, none⟩ = some (.int .u32 t)) (hde : w.cell? ⟨gc, o * 7 + (n - 1) * 7 + 3 + 1, none⟩ = some (.int .u32 ((t : Int) + (f : Int)))) :
    Calls Ybaf.prog 16 #[.pointer (some ⟨c, 0, none⟩), .agg #[.int .u32 n1, .int .u32 n2, .int .u32 o, .int .u32 ((o + n : Nat) : Int), .bool n3]] w fun e w' => e = .returned (.int .i64 ((n : Int) * 56 + (f : Int))) ∧ Below w.heap.size w w' := by
  have hl := World.block_lt_of_cell? w _ h2
  have hlg := World.block_lt_of_cell? w _ hks
  go_enter Ybaf.func16, Ybaf.ntmps16
  go_wp2_with fail
  refine (checksOf_any c gc ac N cc n1 n2 o (o + n) n3 _ ?_ hac (by omega) hN hc).mono ?_
  · go_simp
  rintro e w1 ⟨sa, sc, rfl, hsa, hb⟩
  have HB : Below w.heap.size w w1 := ((Below.refl _ _).alloc (Nat.le_refl _) _).trans (hb.mono (by simp))
  rw [Nat.add_sub_cancel_left]
  have hsa' := hsa (by omega)
  have hi0 := run_at47 hsa' n sc 0 0 rfl hn
  have hi1 := run_at47 hsa' n sc (n - 1) ((n : Int) - 1) (by omega) (by omega)
  rw [Nat.zero_mul, Nat.add_zero] at hi0
  have hks1 := (HB.cell (p := ⟨gc, o * 7 + 1, none⟩) hlg).trans hks
  have hde1 := (HB.cell (p := ⟨gc, o * 7 + (n - 1) * 7 + 3 + 1, none⟩) hlg).trans hde
  have hn0 : ((n : Int) == 0) = false := by simp; omega
  clear hb hsa hsa' hks hde h2 hac
  go_wp2
  go_quiet (fail)
  go_wp2
  go_ret
  refine ⟨?_, below_drewN HB _⟩
  show Ending.returned (.int .i64 ((n : Int) * 56 + ((t : Int) + (f : Int) - (t : Int)))) = _
  rw [show (t : Int) + (f : Int) - (t : Int) = (f : Int) by omega]

theorem text_bound (p m : Nat → Bool) (xs : List Chk) (hok : okB xs = true) : (St.build p m xs 4).b.length ≤ 536870916 := by
  have := build_bounds p m xs _ (flat_mine_le xs (okB_len hok) (okB_sizes hok)) 4
  exact this.1

theorem copySize_any (c gh gc : Nat) (ah ac : Option Addr) (ch cc : Nat) (p m : Nat → Bool) (xs : List Chk) (q : Nat) (hq : q < 4) (hp : p q = true) (hok : okB xs = true) (w : World) (C : CfgAt w c gh gc ah ac ch cc (St.build p m xs 4)) :
    Calls Ybaf.prog 16 #[.pointer (some ⟨c, 0, none⟩), .agg #[.int .u32 (recOf p m xs q).ns, .int .u32 (recOf p m xs q).ne, .int .u32 (recOf p m xs q).cs, .int .u32 (recOf p m xs q).ce, .bool (recOf p m xs q).mon]] w fun e w' =>
      e = .returned (.int .i64 (need (mine q xs))) ∧ Below w.heap.size w w' := by
  have hle := rec_le p m xs q hq hp
  rcases Nat.eq_zero_or_pos (mine q xs).length with h0 | hpos
  · have e0 : need (mine q xs) = 0 := by simp [need, h0]
    have ec : (recOf p m xs q).ce = (recOf p m xs q).cs := by show (recOf p m xs q).cs + _ = _; rw [h0]; rfl
    rw [e0, ec]
    exact copySize_zero c gc ac _ cc _ _ _ _ w C.c2 C.ac (by show fst p m xs q ≤ _; omega) C.hc
  · have hF := ck_at C hq hp 0 hpos
    have hL := ck_at C hq hp ((mine q xs).length - 1) (by omega)
    have eL : (ckOf p m xs q ((mine q xs).length - 1) (mine q xs)[(mine q xs).length - 1]).de = txt p m xs q + (flat (mine q xs)).length := by
      have := flat_take_succ (mine q xs) ((mine q xs).length - 1) (by omega)
      rw [show (mine q xs).length - 1 + 1 = (mine q xs).length by omega, List.take_length] at this
      simp only [ckOf]
      omega
    have eF : (ckOf p m xs q 0 (mine q xs)[0]).ks = txt p m xs q := by simp [ckOf, flat]
    have hks := hF.c1
    have hde := hL.c4
    rw [eL] at hde
    rw [eF, Nat.zero_mul, Nat.add_zero] at hks
    have ht := text_bound p m xs hok
    have ht1 := (txt_flat p m xs q hq hp).1
    have hm := mine_le q xs
    have hl := okB_len hok
    have en : (need (mine q xs) : Int) = ((mine q xs).length : Int) * 56 + ((flat (mine q xs)).length : Int) := by
      unfold need
      rw [if_neg (by omega)]
      omega
    rw [en]
    exact copySize_pos c gc ac _ cc _ _ (fst p m xs q) (mine q xs).length (txt p m xs q) (flat (mine q xs)).length _ w C.c2 C.ac hle C.hc hpos (by omega) (by omega) hks (by rw [Int.natCast_add] at hde; exact hde)
end Go.Proofs.YbulkxmaFmt
