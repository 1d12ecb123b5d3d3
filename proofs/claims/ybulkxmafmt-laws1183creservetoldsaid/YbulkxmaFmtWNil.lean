/-
  The law without a reserve: its walk.
-/
import Derived.Test.YbulkxmaFmtW9
import Derived.Test.YbulkxmaFmtW7
import Derived.Test.YbulkxmaFmtBuild
namespace Go.Proofs.YbulkxmaFmt
open Go.RowKit Go.Stop

theorem shape_at {w : World} {c t : Nat} {a b d : Value} (h : w.heap[c]? = some (.cells #[a, b, d] t (0, 0))) : w.shape? c = some (t, 3) := by
  simp [World.shape?, h]

theorem XsAt.form {w : World} {v : Value} {l : List Chk} (h : XsAt w v l) : ∃ a n c, v = .slice a n c := by
  obtain ⟨_, a, c, h, _⟩ := h.ex
  exact ⟨a, _, c, h⟩

theorem IsChks.below {w w' : World} {a : Option Addr} {xs : List Chk} (h : IsChks w a xs) (b : Below w.heap.size w w') : IsChks w' a xs := by
  refine ⟨h.ok, fun x hx i hi => ?_, h.nil, fun x hx hn => Nat.lt_of_lt_of_le (h.lt x hx hn) b.size⟩
  obtain ⟨h1, k⟩ := h.at_ x hx i hi
  have hlt : x.block < w.heap.size := h.lt x hx (fun h0 => by rw [h0] at hi; simp at hi)
  exact ⟨h1, (b.cell (p := ⟨x.block, _, none⟩) hlt).trans k.c0, (b.cell (p := ⟨x.block, _, none⟩) hlt).trans k.c1, (b.cell (p := ⟨x.block, _, none⟩) hlt).trans k.c2, (b.cell (p := ⟨x.block, _, none⟩) hlt).trans k.c3, (b.cell (p := ⟨x.block, _, none⟩) hlt).trans k.c4, (b.cell (p := ⟨x.block, _, none⟩) hlt).trans k.c5⟩

set_option maxRecDepth 100000 in
theorem nil_walk (F : Interp) (w : World) (hF : F.answers w.tape) (p m : Nat → Bool) (a : Option Addr) (cap : Nat) (xs : List Chk) (sel : Int) (no : Bool)
   (hx : IsChks w a xs) (hl : xs.length ≤ maxLen) (h0 : 0 ≤ sel) (h1 : sel ≤ 255) :
   Calls Ybaf.prog 3 #[bools p, bools m, .slice a xs.length cap, .int .u8 sel, .bool no] w fun e w' => e = .returned (.bool true) ∧ Below w.heap.size w w' := by
  unfold bools
  go_enter Ybaf.func3, Ybaf.ntmps3
  go_wp2_with fail
  have hb01 : Below w.heap.size w ((w.alloc (.cells #[.bool (p 0), .bool (p 1), .bool (p 2), .bool (p 3)] 22)).alloc (.cells #[.bool (m 0), .bool (m 1), .bool (m 2), .bool (m 3)] 22)) := ((Below.refl _ _).alloc (Nat.le_refl _) _).alloc (by simp) _
  refine (ok_any a cap xs _ (hx.below hb01) hl).mono ?_
  rintro e w1 ⟨rfl, hb1⟩
  have HB1 := hb01.trans (hb1.mono (by simp; omega))
  have hz1 : w.heap.size + 2 ≤ w1.heap.size := by have := hb1.size; simpa using this
  have hP : w1.heap[w.heap.size]? = some (.cells #[.bool (p 0), .bool (p 1), .bool (p 2), .bool (p 3)] 22 (0, 0)) := by
    rw [hb1.block _ (by simp; omega), Below.heap_alloc _ _ _ (by simp)]
    exact heap_new _ _ _ rfl
  have hM : w1.heap[w.heap.size + 1]? = some (.cells #[.bool (m 0), .bool (m 1), .bool (m 2), .bool (m 3)] 22 (0, 0)) := by
    rw [hb1.block _ (by simp)]
    exact heap_new _ _ _ (by simp)
  clear hb01 hb1
  by_cases hok : okB xs = true
  · rw [hok]
    have p0 := cell_at (k := 0) hP rfl
    have p1 := cell_at (k := 1) hP rfl
    have p2 := cell_at (k := 2) hP rfl
    have p3 := cell_at (k := 3) hP rfl
    have m0 := cell_at (k := 0) hM rfl
    have m1 := cell_at (k := 1) hM rfl
    have m2 := cell_at (k := 2) hM rfl
    have m3 := cell_at (k := 3) hM rfl
    have HP : Hid _ := hP
    have HM : Hid _ := hM
    clear hP hM
    go_wp2_with fail
    refine (build_any p m a cap xs _ (hx.below HB1) hok).mono ?_
    rintro e w2 ⟨c, vh, vc, ve, rfl, B⟩
    clear p0 p1 p2 p3 m0 m1 m2 m3
    have HB2 := HB1.trans (B.below.mono HB1.size)
    have hz2 := B.below.size
    obtain ⟨gh, gc, ah, ac, ch, cc, C⟩ := B.cfgAt
    have hsh : w2.heap[c]? = _ := B.cfg
    have E : ∀ j, j < 4 → XsAt w2 (ve j) (expd p xs j) := fun j hj => xsAt_of_own (B.e j hj)
    obtain ⟨a0, l0, c0, e0⟩ := (E 0 (by omega)).form
    obtain ⟨a1, l1, c1, e1⟩ := (E 1 (by omega)).form
    obtain ⟨a2, l2, c2, e2⟩ := (E 2 (by omega)).form
    obtain ⟨a3, l3, c3, e3⟩ := (E 3 (by omega)).form
    have HE : Hid (∀ j, j < 4 → XsAt w2 (ve j) (expd p xs j)) := E
    have HV : Hid (ve 0 = .slice a0 l0 c0 ∧ ve 1 = .slice a1 l1 c1 ∧ ve 2 = .slice a2 l2 c2 ∧ ve 3 = .slice a3 l3 c3) := ⟨e0, e1, e2, e3⟩
    have HC : Hid (w2.heap[c]? = _) := hsh
    have HPM : Hid (w2.heap[w.heap.size]? = some (.cells #[.bool (p 0), .bool (p 1), .bool (p 2), .bool (p 3)] 22 (0, 0)) ∧ w2.heap[w.heap.size + 1]? = some (.cells #[.bool (m 0), .bool (m 1), .bool (m 2), .bool (m 3)] 22 (0, 0))) := ⟨(B.below.block _ (by omega)).trans HP.out, (B.below.block _ (by omega)).trans HM.out⟩
    rw [e0, e1, e2, e3]
    clear E hsh e0 e1 e2 e3 HP HM
    obtain ⟨q, hq, hqe⟩ : ∃ q : Nat, q ≤ 4 ∧ (sel : Int).tmod 5 = q := ⟨(sel.tmod 5).toNat, by rw [Int.tmod_eq_emod_of_nonneg h0]; omega, by rw [Int.tmod_eq_emod_of_nonneg h0]; omega⟩
    cases no
    · have hS : ((w2.alloc (.cells #[.slice a0 l0 c0, .slice a1 l1 c1, .slice a2 l2 c2, .slice a3 l3 c3] 27)).alloc (.cells #[.string ⟨#[]⟩, .int .i32 0, .int .u32 0, .pointer none] 44)).heap[w2.heap.size + 1]? = some (.cells #[.string ⟨#[]⟩, .int .i32 0, .int .u32 0, .pointer none] 44 (0, 0)) := heap_new _ _ _ (by simp)
      have hlc : c < w2.heap.size := lt_of_heap HC.out
      have hb3 : Below w2.heap.size w2 ((w2.alloc (.cells #[.slice a0 l0 c0, .slice a1 l1 c1, .slice a2 l2 c2, .slice a3 l3 c3] 27)).alloc (.cells #[.string ⟨#[]⟩, .int .i32 0, .int .u32 0, .pointer none] 44)) := ((Below.refl _ _).alloc (Nat.le_refl _) _).alloc (by simp) _
      have hEx : ((w2.alloc (.cells #[.slice a0 l0 c0, .slice a1 l1 c1, .slice a2 l2 c2, .slice a3 l3 c3] 27)).alloc (.cells #[.string ⟨#[]⟩, .int .i32 0, .int .u32 0, .pointer none] 44)).heap[w2.heap.size]? = some (.cells #[.slice a0 l0 c0, .slice a1 l1 c1, .slice a2 l2 c2, .slice a3 l3 c3] 27 (0, 0)) := by
        rw [Below.heap_alloc _ _ _ (by simp)]
        exact heap_new _ _ _ rfl
      go_wp2_with fail
      generalize (w2.alloc (.cells #[.slice a0 l0 c0, .slice a1 l1 c1, .slice a2 l2 c2, .slice a3 l3 c3] 27)).alloc (.cells #[.string ⟨#[]⟩, .int .i32 0, .int .u32 0, .pointer none] 44) = w3 at *
      refine (put_any (w2.heap.size + 1) c none w3 (cell_at (k := 3) hS rfl) (frozen_at hS) (shape_at ((hb3.block _ hlc).trans HC.out))).mono ?_
      rintro e w4 ⟨rfl, h4⟩
      have hb4 : Below w2.heap.size w2 w4 := by rw [h4]; exact hb3.setCell (by show w2.heap.size ≤ w2.heap.size + 1; omega) _
      have hS4 : w4.heap[w2.heap.size + 1]? = some (.cells #[.string ⟨#[]⟩, .int .i32 0, .int .u32 0, .pointer (some ⟨c, 0, none⟩)] 44 (0, 0)) := by
        rw [h4]; exact heap_setCell_at hS (k := 3) _
      have hE4 : w4.heap[w2.heap.size]? = some (.cells #[.slice a0 l0 c0, .slice a1 l1 c1, .slice a2 l2 c2, .slice a3 l3 c3] 27 (0, 0)) := by
        rw [h4, Below.heap_setCell _ _ _ _ (by show w2.heap.size ≠ w2.heap.size + 1; omega)]; exact hEx
      clear h4 hS hEx hb3
      have HS4 : Hid _ := hS4
      have HE4 : Hid _ := hE4
      clear hS4 hE4 w3
      go_wp2_with fail
      refine (name_any q _).mono ?_
      rintro e w5 ⟨rfl, rfl⟩
      go_wp2_with fail
      by_cases hf : q < 4 ∧ p q = true ∧ m q = true
      · obtain ⟨hq4, hp, hm⟩ := hf
        refine (checks_ok (w2.heap.size + 1) c gh gc ah ac ch cc p m xs q hq4 hok _ (C.below hb4) hp hm (cell_at (k := 3) HS4.out rfl) (shape_at ((hb4.block _ hlc).trans HC.out))).mono ?_
        rintro e w6 ⟨v, rfl, hv, hv0, hb6⟩
        have hbe := hb4.trans (hb6.mono hb4.size)
        have HB6 := HB2.trans (hbe.mono HB2.size)
        have hE6 : w6.heap[w2.heap.size]? = _ := (hb6.block _ (lt_of_heap HE4.out)).trans HE4.out
        have hP6 : w6.heap[w.heap.size]? = _ := (hbe.block _ (by omega)).trans HPM.out.1
        have hM6 : w6.heap[w.heap.size + 1]? = _ := (hbe.block _ (by omega)).trans HPM.out.2
        have hxs : XsAt w6 (ve q) (mine q xs) := by
          have := (HE.out q hq4).below hbe
          rw [show expd p xs q = mine q xs by simp [expd, hp]] at this
          exact this
        have hlen : (mine q xs).length ≤ 1024 := Nat.le_trans (mine_le q xs) (okB_len hok)
        have HQ : Hid (Calls Ybaf.prog 10 #[v, ve q] w6 fun e w' => e = .returned (.bool true) ∧ Below w6.heap.size w6 w') := eq_any v (ve q) (mine q xs) w6 hlen hv hxs hv0
        obtain ⟨v0, v1, v2, v3⟩ := HV.out
        clear hv0 hxs hv HE C
        obtain rfl | rfl | rfl | rfl : q = 0 ∨ q = 1 ∨ q = 2 ∨ q = 3 := by omega
        · have kp := cell_at (k := 0) hP6 rfl
          have km := cell_at (k := 0) hM6 rfl
          have ke := cell_at (k := 0) hE6 rfl
          rw [hp] at kp
          rw [hm] at km
          rw [v0] at HQ
          clear hP6 hM6 hE6 hqe v0 v1 v2 v3
          go_wp2_with fail
          refine HQ.out.mono ?_
          rintro e w7 ⟨rfl, hb7⟩
          have HB7 := HB6.trans (hb7.mono HB6.size)
          go_wp2
          go_ret
          exact ⟨rfl, HB7⟩
        · have kp := cell_at (k := 1) hP6 rfl
          have km := cell_at (k := 1) hM6 rfl
          have ke := cell_at (k := 1) hE6 rfl
          rw [hp] at kp
          rw [hm] at km
          rw [v1] at HQ
          clear hP6 hM6 hE6 hqe v0 v1 v2 v3
          go_wp2_with fail
          refine HQ.out.mono ?_
          rintro e w7 ⟨rfl, hb7⟩
          have HB7 := HB6.trans (hb7.mono HB6.size)
          go_wp2
          go_ret
          exact ⟨rfl, HB7⟩
        · have kp := cell_at (k := 2) hP6 rfl
          have km := cell_at (k := 2) hM6 rfl
          have ke := cell_at (k := 2) hE6 rfl
          rw [hp] at kp
          rw [hm] at km
          rw [v2] at HQ
          clear hP6 hM6 hE6 hqe v0 v1 v2 v3
          go_wp2_with fail
          refine HQ.out.mono ?_
          rintro e w7 ⟨rfl, hb7⟩
          have HB7 := HB6.trans (hb7.mono HB6.size)
          go_wp2
          go_ret
          exact ⟨rfl, HB7⟩
        · have kp := cell_at (k := 3) hP6 rfl
          have km := cell_at (k := 3) hM6 rfl
          have ke := cell_at (k := 3) hE6 rfl
          rw [hp] at kp
          rw [hm] at km
          rw [v3] at HQ
          clear hP6 hM6 hE6 hqe v0 v1 v2 v3
          go_wp2_with fail
          refine HQ.out.mono ?_
          rintro e w7 ⟨rfl, hb7⟩
          have HB7 := HB6.trans (hb7.mono HB6.size)
          go_wp2
          go_ret
          exact ⟨rfl, HB7⟩
      · have hMon : Calls Ybaf.prog 15 #[.pointer (some ⟨c, 0, none⟩), .string (nameB q)] w5 (MonErr w5) := by
          have hF5 : F.answers w5.tape := by rw [hb4.tape, HB2.tape]; exact hF
          by_cases hpq : q < 4 ∧ p q = true
          · exact mon_off F c gh gc ah ac ch cc p m xs q hpq.1 w5 hF5 (C.below hb4) hpq.2 (Bool.eq_false_iff.2 fun h => hf ⟨hpq.1, hpq.2, h⟩)
          · exact mon_no F c gh gc ah ac ch cc p m xs q hq w5 hF5 (C.below hb4) hpq
        refine (checks_err (w2.heap.size + 1) c q .nilFunc _ (cell_at (k := 3) HS4.out rfl) (shape_at ((hb4.block _ hlc).trans HC.out)) hMon).mono ?_
        rintro e w6 ⟨ea, rfl, hb6⟩
        have hbe := hb4.trans (hb6.mono hb4.size)
        have HB6 := HB2.trans (hbe.mono HB2.size)
        have hP6 : w6.heap[w.heap.size]? = _ := (hbe.block _ (by omega)).trans HPM.out.1
        have hM6 : w6.heap[w.heap.size + 1]? = _ := (hbe.block _ (by omega)).trans HPM.out.2
        have hnil := fun (w : World) => Lib.run_eql_slice_nil (P := Ybaf.prog) w 26 64 none 0 0 0 0 Ybaf.underlying26
        clear hMon HE C
        obtain rfl | rfl | rfl | rfl | rfl : q = 0 ∨ q = 1 ∨ q = 2 ∨ q = 3 ∨ q = 4 := by omega
        · have kp := cell_at (k := 0) hP6 rfl
          have km := cell_at (k := 0) hM6 rfl
          clear hP6 hM6
          cases hpq : p 0
          · rw [hpq] at kp
            clear hf hqe
            go_wp2
            go_ret
            exact ⟨rfl, HB6⟩
          · have hmq : m 0 = false := Bool.eq_false_iff.2 fun h => hf ⟨by omega, hpq, h⟩
            rw [hpq] at kp
            rw [hmq] at km
            clear hf hqe
            go_wp2
            go_ret
            exact ⟨rfl, HB6⟩
        · have kp := cell_at (k := 1) hP6 rfl
          have km := cell_at (k := 1) hM6 rfl
          clear hP6 hM6
          cases hpq : p 1
          · rw [hpq] at kp
            clear hf hqe
            go_wp2
            go_ret
            exact ⟨rfl, HB6⟩
          · have hmq : m 1 = false := Bool.eq_false_iff.2 fun h => hf ⟨by omega, hpq, h⟩
            rw [hpq] at kp
            rw [hmq] at km
            clear hf hqe
            go_wp2
            go_ret
            exact ⟨rfl, HB6⟩
        · have kp := cell_at (k := 2) hP6 rfl
          have km := cell_at (k := 2) hM6 rfl
          clear hP6 hM6
          cases hpq : p 2
          · rw [hpq] at kp
            clear hf hqe
            go_wp2
            go_ret
            exact ⟨rfl, HB6⟩
          · have hmq : m 2 = false := Bool.eq_false_iff.2 fun h => hf ⟨by omega, hpq, h⟩
            rw [hpq] at kp
            rw [hmq] at km
            clear hf hqe
            go_wp2
            go_ret
            exact ⟨rfl, HB6⟩
        · have kp := cell_at (k := 3) hP6 rfl
          have km := cell_at (k := 3) hM6 rfl
          clear hP6 hM6
          cases hpq : p 3
          · rw [hpq] at kp
            clear hf hqe
            go_wp2
            go_ret
            exact ⟨rfl, HB6⟩
          · have hmq : m 3 = false := Bool.eq_false_iff.2 fun h => hf ⟨by omega, hpq, h⟩
            rw [hpq] at kp
            rw [hmq] at km
            clear hf hqe
            go_wp2
            go_ret
            exact ⟨rfl, HB6⟩
        · clear hP6 hM6 hf hqe
          go_wp2
          go_ret
          exact ⟨rfl, HB6⟩
    · go_wp2_with fail
      refine (name_any q _).mono ?_
      rintro e w3 ⟨rfl, rfl⟩
      have hb3 : Below w2.heap.size w2 ((w2.alloc (.cells #[.slice a0 l0 c0, .slice a1 l1 c1, .slice a2 l2 c2, .slice a3 l3 c3] 27)).alloc (.cells #[.string ⟨#[]⟩, .int .i32 0, .int .u32 0, .pointer none] 44)) := ((Below.refl _ _).alloc (Nat.le_refl _) _).alloc (by simp) _
      go_wp2_with fail
      refine (checks_none F (w2.heap.size + 1) (nameB q) .nilFunc _ (by show F.answers w2.tape; rw [HB2.tape]; exact hF) ?_).mono ?_
      · go_simp
      rintro e w3 ⟨ea, rfl, hb⟩
      have HB3 := HB2.trans ((hb3.trans (hb.mono hb3.size)).mono HB2.size)
      have hnil := fun (w : World) => Lib.run_eql_slice_nil (P := Ybaf.prog) w 26 64 none 0 0 0 0 Ybaf.underlying26
      go_wp2
      go_ret
      exact ⟨rfl, HB3⟩
  · rw [Bool.eq_false_iff.2 hok]
    go_wp2
    go_ret
    exact ⟨rfl, HB1⟩
end Go.Proofs.YbulkxmaFmt
