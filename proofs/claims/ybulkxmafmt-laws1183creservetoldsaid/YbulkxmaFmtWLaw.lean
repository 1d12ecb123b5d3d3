/-
  The law with a reserve: its walk.
-/
import Derived.Test.YbulkxmaFmtWRes
namespace Go.Proofs.YbulkxmaFmt
open Go.RowKit Go.Stop

theorem need_eq (l : List Chk) : need l = l.length * 56 + (flat l).length := by
  unfold need
  split
  · rename_i h
    rw [List.length_eq_zero_iff.1 h]
    simp [flat]
  · rfl

set_option maxRecDepth 100000 in
set_option maxHeartbeats 2000000 in
theorem res_walk (F : Interp) (w : World) (hF : F.answers w.tape) (p m : Nat → Bool) (a : Option Addr) (cap : Nat) (xs : List Chk) (sel : Int) (fail : Bool)
   (hx : IsChks w a xs) (hl : xs.length ≤ maxLen) (h0 : 0 ≤ sel) (h1 : sel ≤ 255) :
   Calls Ybaf.prog 4 #[bools p, bools m, .slice a xs.length cap, .int .u8 sel, .bool fail] w fun e w' => e = .returned (.bool true) ∧ Below w.heap.size w w' := by
  unfold bools
  go_enter Ybaf.func4, Ybaf.ntmps4
  go_wp2_with fail
  have hb01 : Below w.heap.size w (((w.alloc (.cells #[.bool (p 0), .bool (p 1), .bool (p 2), .bool (p 3)] 22)).alloc (.cells #[.bool (m 0), .bool (m 1), .bool (m 2), .bool (m 3)] 22)).alloc (.cells #[.bool fail] 4)) := (((Below.refl _ _).alloc (Nat.le_refl _) _).alloc (by simp) _).alloc (by simp; omega) _
  refine (ok_any a cap xs _ (hx.below hb01) hl).mono ?_
  rintro e w1 ⟨rfl, hb1⟩
  have HB1 := hb01.trans (hb1.mono (by simp; omega))
  have hz1 : w.heap.size + 3 ≤ w1.heap.size := by have := hb1.size; simpa using this
  have hP : w1.heap[w.heap.size]? = some (.cells #[.bool (p 0), .bool (p 1), .bool (p 2), .bool (p 3)] 22 (0, 0)) := by
    rw [hb1.block _ (by simp; omega), Below.heap_alloc _ _ _ (by simp; omega), Below.heap_alloc _ _ _ (by simp)]
    exact heap_new _ _ _ rfl
  have hM : w1.heap[w.heap.size + 1]? = some (.cells #[.bool (m 0), .bool (m 1), .bool (m 2), .bool (m 3)] 22 (0, 0)) := by
    rw [hb1.block _ (by simp), Below.heap_alloc _ _ _ (by simp)]
    exact heap_new _ _ _ (by simp)
  have hFl : w1.heap[w.heap.size + 1 + 1]? = some (.cells #[.bool fail] 4 (0, 0)) := by
    rw [hb1.block _ (by simp)]
    exact heap_new _ _ _ (by simp)
  clear hb01 hb1
  by_cases hok : okB xs = true
  · rw [hok]
    have p0 := cell_at (k := 0) hP rfl
    have p1 := cell_at (k := 1) hP rfl
    have p2 := cell_at (k := 2) hP rfl
    have p3 := cell_at (k := 3) hP rfl
    have m0 := cell_at (k := 0) hM rfl
    have m1 := cell_at (k := 1) hM rfl
    have m2 := cell_at (k := 2) hM rfl
    have m3 := cell_at (k := 3) hM rfl
    have HP : Hid _ := hP
    have HM : Hid _ := hM
    have HFl : Hid _ := hFl
    clear hP hM hFl
    go_wp2_with fail
    refine (build_any p m a cap xs _ (hx.below HB1) hok).mono ?_
    rintro e w2 ⟨c, vh, vc, ve, rfl, B⟩
    clear p0 p1 p2 p3 m0 m1 m2 m3
    have HB2 := HB1.trans (B.below.mono HB1.size)
    have hz2 := B.below.size
    obtain ⟨gh, gc, ah, ac, ch, cc, C⟩ := B.cfgAt
    have hsh : w2.heap[c]? = _ := B.cfg
    have E : ∀ j, j < 4 → XsAt w2 (ve j) (expd p xs j) := fun j hj => xsAt_of_own (B.e j hj)
    obtain ⟨a0, l0, c0, e0⟩ := (E 0 (by omega)).form
    obtain ⟨a1, l1, c1, e1⟩ := (E 1 (by omega)).form
    obtain ⟨a2, l2, c2, e2⟩ := (E 2 (by omega)).form
    obtain ⟨a3, l3, c3, e3⟩ := (E 3 (by omega)).form
    have HE : Hid (∀ j, j < 4 → XsAt w2 (ve j) (expd p xs j)) := E
    have HV : Hid (ve 0 = .slice a0 l0 c0 ∧ ve 1 = .slice a1 l1 c1 ∧ ve 2 = .slice a2 l2 c2 ∧ ve 3 = .slice a3 l3 c3) := ⟨e0, e1, e2, e3⟩
    have HC : Hid (w2.heap[c]? = _) := hsh
    have HPM : Hid (w2.heap[w.heap.size]? = some (.cells #[.bool (p 0), .bool (p 1), .bool (p 2), .bool (p 3)] 22 (0, 0)) ∧ w2.heap[w.heap.size + 1]? = some (.cells #[.bool (m 0), .bool (m 1), .bool (m 2), .bool (m 3)] 22 (0, 0)) ∧ w2.heap[w.heap.size + 1 + 1]? = some (.cells #[.bool fail] 4 (0, 0))) := ⟨(B.below.block _ (by omega)).trans HP.out, (B.below.block _ (by omega)).trans HM.out, (B.below.block _ (by omega)).trans HFl.out⟩
    rw [e0, e1, e2, e3]
    clear E hsh e0 e1 e2 e3 HP HM HFl
    obtain ⟨q, hq, hqe⟩ : ∃ q : Nat, q ≤ 4 ∧ (sel : Int).tmod 5 = q := ⟨(sel.tmod 5).toNat, by rw [Int.tmod_eq_emod_of_nonneg h0]; omega, by rw [Int.tmod_eq_emod_of_nonneg h0]; omega⟩
    have hS : ((w2.alloc (.cells #[.slice a0 l0 c0, .slice a1 l1 c1, .slice a2 l2 c2, .slice a3 l3 c3] 27)).alloc (.cells #[.string ⟨#[]⟩, .int .i32 0, .int .u32 0, .pointer none] 44)).heap[w2.heap.size + 1]? = some (.cells #[.string ⟨#[]⟩, .int .i32 0, .int .u32 0, .pointer none] 44 (0, 0)) := heap_new _ _ _ (by simp)
    have hlc : c < w2.heap.size := lt_of_heap HC.out
    have hb3 : Below w2.heap.size w2 ((w2.alloc (.cells #[.slice a0 l0 c0, .slice a1 l1 c1, .slice a2 l2 c2, .slice a3 l3 c3] 27)).alloc (.cells #[.string ⟨#[]⟩, .int .i32 0, .int .u32 0, .pointer none] 44)) := ((Below.refl _ _).alloc (Nat.le_refl _) _).alloc (by simp) _
    have hEx : ((w2.alloc (.cells #[.slice a0 l0 c0, .slice a1 l1 c1, .slice a2 l2 c2, .slice a3 l3 c3] 27)).alloc (.cells #[.string ⟨#[]⟩, .int .i32 0, .int .u32 0, .pointer none] 44)).heap[w2.heap.size]? = some (.cells #[.slice a0 l0 c0, .slice a1 l1 c1, .slice a2 l2 c2, .slice a3 l3 c3] 27 (0, 0)) := by
      rw [Below.heap_alloc _ _ _ (by simp)]
      exact heap_new _ _ _ rfl
    go_wp2_with fail
    generalize (w2.alloc (.cells #[.slice a0 l0 c0, .slice a1 l1 c1, .slice a2 l2 c2, .slice a3 l3 c3] 27)).alloc (.cells #[.string ⟨#[]⟩, .int .i32 0, .int .u32 0, .pointer none] 44) = w3 at *
    refine (put_any (w2.heap.size + 1) c none w3 (cell_at (k := 3) hS rfl) (frozen_at hS) (shape_at ((hb3.block _ hlc).trans HC.out))).mono ?_
    rintro e w4 ⟨rfl, h4⟩
    have hb4 : Below w2.heap.size w2 w4 := by rw [h4]; exact hb3.setCell (by show w2.heap.size ≤ w2.heap.size + 1; omega) _
    have hS4 : w4.heap[w2.heap.size + 1]? = some (.cells #[.string ⟨#[]⟩, .int .i32 0, .int .u32 0, .pointer (some ⟨c, 0, none⟩)] 44 (0, 0)) := by
      rw [h4]; exact heap_setCell_at hS (k := 3) _
    have hE4 : w4.heap[w2.heap.size]? = some (.cells #[.slice a0 l0 c0, .slice a1 l1 c1, .slice a2 l2 c2, .slice a3 l3 c3] 27 (0, 0)) := by
      rw [h4, Below.heap_setCell _ _ _ _ (by show w2.heap.size ≠ w2.heap.size + 1; omega)]; exact hEx
    clear h4 hS hEx hb3
    have HS4 : Hid _ := hS4
    have HE4 : Hid _ := hE4
    clear hS4 hE4 w3
    go_wp2_with fail
    refine (new_any _ _).mono ?_
    rintro e w5 ⟨rfl, rfl⟩
    go_wp2_with fail
    refine (name_any q _).mono ?_
    rintro e w5 ⟨rfl, rfl⟩
    obtain ⟨v, hv⟩ : ∃ v, v = (w4.alloc (.cells #[.string ⟨#[122, 122, 32, 114, 101, 115, 101, 114, 118, 101]⟩] 84)).alloc (.cells #[.iface 82 (.pointer (some ⟨w4.heap.size, 0, none⟩))] 51) := ⟨_, rfl⟩
    have hvs : v.heap.size = w4.heap.size + 1 + 1 := by rw [hv]; simp
    have hv4 : Below w4.heap.size w4 v := by rw [hv]; exact ((Below.refl _ _).alloc (Nat.le_refl _) _).alloc (by simp) _
    have hFe : v.heap[w4.heap.size + 1]? = some (.cells #[.iface 82 (.pointer (some ⟨w4.heap.size, 0, none⟩))] 51 (0, 0)) := by rw [hv]; exact heap_new _ _ _ (by simp)
    rw [← hv]
    have hb2v := hb4.trans (hv4.mono hb4.size)
    have hSv : v.heap[w2.heap.size + 1]? = _ := (hv4.block _ (lt_of_heap HS4.out)).trans HS4.out
    have hEv : v.heap[w2.heap.size]? = _ := (hv4.block _ (lt_of_heap HE4.out)).trans HE4.out
    have hFv : v.heap[w.heap.size + 1 + 1]? = some (.cells #[.bool fail] 4 (0, 0)) := (hb2v.block _ (by omega)).trans HPM.out.2.2
    have hPv : v.heap[w.heap.size]? = _ := (hb2v.block _ (by omega)).trans HPM.out.1
    have hMv : v.heap[w.heap.size + 1]? = _ := (hb2v.block _ (by omega)).trans HPM.out.2.1
    have hcv : v.heap[c]? = _ := (hb2v.block _ hlc).trans HC.out
    have hLv : (v.alloc (.cells #[.slice none 0 0] 58)).heap[v.heap.size]? = some (.cells #[.slice none 0 0] 58 (0, 0)) := heap_new _ _ _ rfl
    have hbw : Below v.heap.size v (v.alloc (.cells #[.slice none 0 0] 58)) := (Below.refl _ _).alloc (Nat.le_refl _) _
    have HBv := HB2.trans (hb2v.mono HB2.size)
    have Cv := C.below hb2v
    have HEv : Hid (∀ j, j < 4 → XsAt v (ve j) (expd p xs j)) := fun j hj => (HE.out j hj).below hb2v
    clear HE C hv HC HPM HS4 HE4 hv4 hb2v B hb4
    generalize v.alloc (.cells #[.slice none 0 0] 58) = w5 at *
    have HH : Hid (v.heap[w2.heap.size + 1]? = some (.cells #[.string ⟨#[]⟩, .int .i32 0, .int .u32 0, .pointer (some ⟨c, 0, none⟩)] 44 (0, 0)) ∧ v.heap[w2.heap.size]? = some (.cells #[.slice a0 l0 c0, .slice a1 l1 c1, .slice a2 l2 c2, .slice a3 l3 c3] 27 (0, 0)) ∧ v.heap[w.heap.size + 1 + 1]? = some (.cells #[.bool fail] 4 (0, 0)) ∧ v.heap[w.heap.size]? = some (.cells #[.bool (p 0), .bool (p 1), .bool (p 2), .bool (p 3)] 22 (0, 0)) ∧ v.heap[w.heap.size + 1]? = some (.cells #[.bool (m 0), .bool (m 1), .bool (m 2), .bool (m 3)] 22 (0, 0)) ∧ v.heap[w4.heap.size + 1]? = some (.cells #[.iface 82 (.pointer (some ⟨w4.heap.size, 0, none⟩))] 51 (0, 0)) ∧ w5.heap[v.heap.size]? = some (.cells #[.slice none 0 0] 58 (0, 0))) := ⟨hSv, hEv, hFv, hPv, hMv, hFe, hLv⟩
    have HC : Hid (v.heap[c]? = _) := hcv
    clear hSv hEv hFv hPv hMv hFe hLv hcv
    go_wp2_with fail
    rw [← hvs]
    by_cases hf : q < 4 ∧ p q = true ∧ m q = true
    · obtain ⟨hq4, hp, hm⟩ := hf
      cases fail
      · refine (checks_yes (w2.heap.size + 1) c gh gc ah ac ch cc p m xs q hq4 hok v w5 Cv hp hm (cell_at (k := 3) HH.out.1 rfl) _ _ _ HC.out hbw (cell_at (k := 0) HH.out.2.2.2.2.2.2 rfl) (frozen_at HH.out.2.2.2.2.2.2) (w.heap.size + 1 + 1) (w4.heap.size + 1) ⟨w4.heap.size, 0, none⟩ (cell_at (k := 0) HH.out.2.2.1 rfl) (cell_at (k := 0) HH.out.2.2.2.2.2.1 rfl)).mono ?_
        rintro e w6 ⟨xv, rfl, hxv, hxv0, g, lc, lg1, lg2, lg3, hb6⟩
        have HB6 := HBv.trans (hb6.mono HBv.size)
        have hE6 : w6.heap[w2.heap.size]? = _ := (hb6.block _ (lt_of_heap HH.out.2.1)).trans HH.out.2.1
        have hP6 : w6.heap[w.heap.size]? = _ := (hb6.block _ (lt_of_heap HH.out.2.2.2.1)).trans HH.out.2.2.2.1
        have hM6 : w6.heap[w.heap.size + 1]? = _ := (hb6.block _ (lt_of_heap HH.out.2.2.2.2.1)).trans HH.out.2.2.2.2.1
        have hF6 : w6.cell? ⟨w.heap.size + 1 + 1, 0, none⟩ = some (.bool false) := cell_at ((hb6.block _ (lt_of_heap HH.out.2.2.1)).trans HH.out.2.2.1) rfl
        have hxs : XsAt w6 (ve q) (mine q xs) := by
          have := (HEv.out q hq4).below hb6
          rw [show expd p xs q = mine q xs by simp [expd, hp]] at this
          exact this
        have hlen : (mine q xs).length ≤ 1024 := Nat.le_trans (mine_le q xs) (okB_len hok)
        have HQ : Hid (∀ W, Below w6.heap.size w6 W → Calls Ybaf.prog 10 #[xv, ve q] W fun e w' => e = .returned (.bool true) ∧ Below W.heap.size W w') := fun W hW => eq_any xv (ve q) (mine q xs) W hlen (hxv.below hW) (hxs.below hW) hxv0
        obtain ⟨v0, v1, v2, v3⟩ := HV.out
        have hxe := hxs.ex
        have hnd := need_le xs hok q
        have hfm := flat_mine_le xs (okB_len hok) (okB_sizes hok) q
        clear hxv0 hxs hxv HEv Cv lg3 hvs
        obtain rfl | rfl | rfl | rfl : q = 0 ∨ q = 1 ∨ q = 2 ∨ q = 3 := by omega
        · have kp := cell_at (k := 0) hP6 rfl
          have km := cell_at (k := 0) hM6 rfl
          have ke := cell_at (k := 0) hE6 rfl
          rw [hp] at kp
          rw [hm] at km
          rw [v0] at HQ hxe
          obtain ⟨gx, ax, cx, hx1, hx2, hx3⟩ := hxe
          injection hx1 with e1 e2 e3
          subst e1 e2 e3
          clear hP6 hM6 hE6 hqe v0 v1 v2 v3
          have HX2 : Hid (0 < (mine 0 xs).length → a0 = some ⟨gx, 0, none⟩) := hx2
          have HX3 : Hid (∀ i (hi : i < (mine 0 xs).length), XAt w6 gx (i * 5) (mine 0 xs)[i]) := hx3
          clear hx2 hx3
          go_wp2
          go_loopw [21, 83] (fun s i wr => ∃ k : Nat, k ≤ (mine 0 xs).length ∧ i = .int .i64 k ∧ s = .int .i64 ((k * 56 + (flat ((mine 0 xs).take k)).length : Nat) : Int) ∧ Below w6.heap.size w6 wr) (fun _ i _ => (mine 0 xs).length - (intOf i).toNat)
          case atStart => exact ⟨0, by omega, rfl, by simp [flat], Below.refl _ _⟩
          case round =>
            obtain ⟨k, hk, rfl, rfl, hbel⟩ := hrel
            by_cases hlt : k < (mine 0 xs).length
            · have hia := run_at26 (HX2.out (by omega)) (mine 0 xs).length c0 k (k : Int) rfl hlt
              obtain ⟨b0, b1, b2, b3, b4⟩ := (HX3.out k hlt).below hbel
              have hst := flat_take_succ (mine 0 xs) k hlt
              have hfl := flat_take_le (mine 0 xs) (k + 1)
              have hkl : (mine 0 xs)[k].klen = (mine 0 xs)[k].key.size := rfl
              have hdl : (mine 0 xs)[k].dlen = (mine 0 xs)[k].delay.size := rfl
              generalize (mine 0 xs)[k] = Y at *
              have hlb := World.block_lt_of_cell? wr _ b0
              go_wp2
              go_roundw
              case rel => exact ⟨k + 1, by omega, by go_num, by congr 1; omega, hbel.alloc hbel.size _⟩
              case measure => simp [intOf]; omega
            · have hke : k = (mine 0 xs).length := by omega
              subst hke
              rw [List.take_length, ← need_eq]
              have g1 := (hbel.cell (World.block_lt_of_cell? w6 _ lg1)).trans lg1
              have g2 := (hbel.cell (World.block_lt_of_cell? w6 _ lg2)).trans lg2
              have g3 := (hbel.cell (World.block_lt_of_cell? w6 _ hF6)).trans hF6
              have g4 := (hbel.cell (World.block_lt_of_cell? w6 _ ke)).trans ke
              clear lg1 lg2 hF6 ke
              go_wp2_with fail
              refine (HQ.out _ hbel).mono ?_
              rintro e w7 ⟨rfl, hb7⟩
              have HB7 := HB6.trans ((hbel.trans (hb7.mono hbel.size)).mono HB6.size)
              go_wp2
              go_ret
              exact ⟨rfl, HB7⟩
        · have kp := cell_at (k := 1) hP6 rfl
          have km := cell_at (k := 1) hM6 rfl
          have ke := cell_at (k := 1) hE6 rfl
          rw [hp] at kp
          rw [hm] at km
          rw [v1] at HQ hxe
          obtain ⟨gx, ax, cx, hx1, hx2, hx3⟩ := hxe
          injection hx1 with e1 e2 e3
          subst e1 e2 e3
          clear hP6 hM6 hE6 hqe v0 v1 v2 v3
          have HX2 : Hid (0 < (mine 1 xs).length → a1 = some ⟨gx, 0, none⟩) := hx2
          have HX3 : Hid (∀ i (hi : i < (mine 1 xs).length), XAt w6 gx (i * 5) (mine 1 xs)[i]) := hx3
          clear hx2 hx3
          go_wp2
          go_loopw [21, 83] (fun s i wr => ∃ k : Nat, k ≤ (mine 1 xs).length ∧ i = .int .i64 k ∧ s = .int .i64 ((k * 56 + (flat ((mine 1 xs).take k)).length : Nat) : Int) ∧ Below w6.heap.size w6 wr) (fun _ i _ => (mine 1 xs).length - (intOf i).toNat)
          case atStart => exact ⟨0, by omega, rfl, by simp [flat], Below.refl _ _⟩
          case round =>
            obtain ⟨k, hk, rfl, rfl, hbel⟩ := hrel
            by_cases hlt : k < (mine 1 xs).length
            · have hia := run_at26 (HX2.out (by omega)) (mine 1 xs).length c1 k (k : Int) rfl hlt
              obtain ⟨b0, b1, b2, b3, b4⟩ := (HX3.out k hlt).below hbel
              have hst := flat_take_succ (mine 1 xs) k hlt
              have hfl := flat_take_le (mine 1 xs) (k + 1)
              have hkl : (mine 1 xs)[k].klen = (mine 1 xs)[k].key.size := rfl
              have hdl : (mine 1 xs)[k].dlen = (mine 1 xs)[k].delay.size := rfl
              generalize (mine 1 xs)[k] = Y at *
              have hlb := World.block_lt_of_cell? wr _ b0
              go_wp2
              go_roundw
              case rel => exact ⟨k + 1, by omega, by go_num, by congr 1; omega, hbel.alloc hbel.size _⟩
              case measure => simp [intOf]; omega
            · have hke : k = (mine 1 xs).length := by omega
              subst hke
              rw [List.take_length, ← need_eq]
              have g1 := (hbel.cell (World.block_lt_of_cell? w6 _ lg1)).trans lg1
              have g2 := (hbel.cell (World.block_lt_of_cell? w6 _ lg2)).trans lg2
              have g3 := (hbel.cell (World.block_lt_of_cell? w6 _ hF6)).trans hF6
              have g4 := (hbel.cell (World.block_lt_of_cell? w6 _ ke)).trans ke
              clear lg1 lg2 hF6 ke
              go_wp2_with fail
              refine (HQ.out _ hbel).mono ?_
              rintro e w7 ⟨rfl, hb7⟩
              have HB7 := HB6.trans ((hbel.trans (hb7.mono hbel.size)).mono HB6.size)
              go_wp2
              go_ret
              exact ⟨rfl, HB7⟩
        · have kp := cell_at (k := 2) hP6 rfl
          have km := cell_at (k := 2) hM6 rfl
          have ke := cell_at (k := 2) hE6 rfl
          rw [hp] at kp
          rw [hm] at km
          rw [v2] at HQ hxe
          obtain ⟨gx, ax, cx, hx1, hx2, hx3⟩ := hxe
          injection hx1 with e1 e2 e3
          subst e1 e2 e3
          clear hP6 hM6 hE6 hqe v0 v1 v2 v3
          have HX2 : Hid (0 < (mine 2 xs).length → a2 = some ⟨gx, 0, none⟩) := hx2
          have HX3 : Hid (∀ i (hi : i < (mine 2 xs).length), XAt w6 gx (i * 5) (mine 2 xs)[i]) := hx3
          clear hx2 hx3
          go_wp2
          go_loopw [21, 83] (fun s i wr => ∃ k : Nat, k ≤ (mine 2 xs).length ∧ i = .int .i64 k ∧ s = .int .i64 ((k * 56 + (flat ((mine 2 xs).take k)).length : Nat) : Int) ∧ Below w6.heap.size w6 wr) (fun _ i _ => (mine 2 xs).length - (intOf i).toNat)
          case atStart => exact ⟨0, by omega, rfl, by simp [flat], Below.refl _ _⟩
          case round =>
            obtain ⟨k, hk, rfl, rfl, hbel⟩ := hrel
            by_cases hlt : k < (mine 2 xs).length
            · have hia := run_at26 (HX2.out (by omega)) (mine 2 xs).length c2 k (k : Int) rfl hlt
              obtain ⟨b0, b1, b2, b3, b4⟩ := (HX3.out k hlt).below hbel
              have hst := flat_take_succ (mine 2 xs) k hlt
              have hfl := flat_take_le (mine 2 xs) (k + 1)
              have hkl : (mine 2 xs)[k].klen = (mine 2 xs)[k].key.size := rfl
              have hdl : (mine 2 xs)[k].dlen = (mine 2 xs)[k].delay.size := rfl
              generalize (mine 2 xs)[k] = Y at *
              have hlb := World.block_lt_of_cell? wr _ b0
              go_wp2
              go_roundw
              case rel => exact ⟨k + 1, by omega, by go_num, by congr 1; omega, hbel.alloc hbel.size _⟩
              case measure => simp [intOf]; omega
            · have hke : k = (mine 2 xs).length := by omega
              subst hke
              rw [List.take_length, ← need_eq]
              have g1 := (hbel.cell (World.block_lt_of_cell? w6 _ lg1)).trans lg1
              have g2 := (hbel.cell (World.block_lt_of_cell? w6 _ lg2)).trans lg2
              have g3 := (hbel.cell (World.block_lt_of_cell? w6 _ hF6)).trans hF6
              have g4 := (hbel.cell (World.block_lt_of_cell? w6 _ ke)).trans ke
              clear lg1 lg2 hF6 ke
              go_wp2_with fail
              refine (HQ.out _ hbel).mono ?_
              rintro e w7 ⟨rfl, hb7⟩
              have HB7 := HB6.trans ((hbel.trans (hb7.mono hbel.size)).mono HB6.size)
              go_wp2
              go_ret
              exact ⟨rfl, HB7⟩
        · have kp := cell_at (k := 3) hP6 rfl
          have km := cell_at (k := 3) hM6 rfl
          have ke := cell_at (k := 3) hE6 rfl
          rw [hp] at kp
          rw [hm] at km
          rw [v3] at HQ hxe
          obtain ⟨gx, ax, cx, hx1, hx2, hx3⟩ := hxe
          injection hx1 with e1 e2 e3
          subst e1 e2 e3
          clear hP6 hM6 hE6 hqe v0 v1 v2 v3
          have HX2 : Hid (0 < (mine 3 xs).length → a3 = some ⟨gx, 0, none⟩) := hx2
          have HX3 : Hid (∀ i (hi : i < (mine 3 xs).length), XAt w6 gx (i * 5) (mine 3 xs)[i]) := hx3
          clear hx2 hx3
          go_wp2
          go_loopw [21, 83] (fun s i wr => ∃ k : Nat, k ≤ (mine 3 xs).length ∧ i = .int .i64 k ∧ s = .int .i64 ((k * 56 + (flat ((mine 3 xs).take k)).length : Nat) : Int) ∧ Below w6.heap.size w6 wr) (fun _ i _ => (mine 3 xs).length - (intOf i).toNat)
          case atStart => exact ⟨0, by omega, rfl, by simp [flat], Below.refl _ _⟩
          case round =>
            obtain ⟨k, hk, rfl, rfl, hbel⟩ := hrel
            by_cases hlt : k < (mine 3 xs).length
            · have hia := run_at26 (HX2.out (by omega)) (mine 3 xs).length c3 k (k : Int) rfl hlt
              obtain ⟨b0, b1, b2, b3, b4⟩ := (HX3.out k hlt).below hbel
              have hst := flat_take_succ (mine 3 xs) k hlt
              have hfl := flat_take_le (mine 3 xs) (k + 1)
              have hkl : (mine 3 xs)[k].klen = (mine 3 xs)[k].key.size := rfl
              have hdl : (mine 3 xs)[k].dlen = (mine 3 xs)[k].delay.size := rfl
              generalize (mine 3 xs)[k] = Y at *
              have hlb := World.block_lt_of_cell? wr _ b0
              go_wp2
              go_roundw
              case rel => exact ⟨k + 1, by omega, by go_num, by congr 1; omega, hbel.alloc hbel.size _⟩
              case measure => simp [intOf]; omega
            · have hke : k = (mine 3 xs).length := by omega
              subst hke
              rw [List.take_length, ← need_eq]
              have g1 := (hbel.cell (World.block_lt_of_cell? w6 _ lg1)).trans lg1
              have g2 := (hbel.cell (World.block_lt_of_cell? w6 _ lg2)).trans lg2
              have g3 := (hbel.cell (World.block_lt_of_cell? w6 _ hF6)).trans hF6
              have g4 := (hbel.cell (World.block_lt_of_cell? w6 _ ke)).trans ke
              clear lg1 lg2 hF6 ke
              go_wp2_with fail
              refine (HQ.out _ hbel).mono ?_
              rintro e w7 ⟨rfl, hb7⟩
              have HB7 := HB6.trans ((hbel.trans (hb7.mono hbel.size)).mono HB6.size)
              go_wp2
              go_ret
              exact ⟨rfl, HB7⟩
      · refine (checks_no (w2.heap.size + 1) c gh gc ah ac ch cc p m xs q hq4 hok v w5 Cv hp hm (cell_at (k := 3) HH.out.1 rfl) _ _ _ HC.out hbw (cell_at (k := 0) HH.out.2.2.2.2.2.2 rfl) (frozen_at HH.out.2.2.2.2.2.2) (w.heap.size + 1 + 1) (w4.heap.size + 1) ⟨w4.heap.size, 0, none⟩ (cell_at (k := 0) HH.out.2.2.1 rfl) (cell_at (k := 0) HH.out.2.2.2.2.2.1 rfl)).mono ?_
        rintro e w6 ⟨rfl, g, lc, lg1, lg2, lg3, hb6⟩
        have HB6 := HBv.trans (hb6.mono HBv.size)
        have hE6 : w6.heap[w2.heap.size]? = _ := (hb6.block _ (lt_of_heap HH.out.2.1)).trans HH.out.2.1
        have hP6 : w6.heap[w.heap.size]? = _ := (hb6.block _ (lt_of_heap HH.out.2.2.2.1)).trans HH.out.2.2.2.1
        have hM6 : w6.heap[w.heap.size + 1]? = _ := (hb6.block _ (lt_of_heap HH.out.2.2.2.2.1)).trans HH.out.2.2.2.2.1
        have hF6 : w6.cell? ⟨w.heap.size + 1 + 1, 0, none⟩ = some (.bool true) := cell_at ((hb6.block _ (lt_of_heap HH.out.2.2.1)).trans HH.out.2.2.1) rfl
        have hxs : XsAt w6 (ve q) (mine q xs) := by
          have := (HEv.out q hq4).below hb6
          rw [show expd p xs q = mine q xs by simp [expd, hp]] at this
          exact this
        have hlen : (mine q xs).length ≤ 1024 := Nat.le_trans (mine_le q xs) (okB_len hok)
        have hY6 : w6.cell? ⟨w4.heap.size + 1, 0, none⟩ = some (.iface 82 (.pointer (some ⟨w4.heap.size, 0, none⟩))) := cell_at ((hb6.block _ (lt_of_heap HH.out.2.2.2.2.2.1)).trans HH.out.2.2.2.2.2.1) rfl
        have heq := fun (W : World) => run_eql_iface_ptr_same (P := Ybaf.prog) W (ti := 51) (tp := 82) (te := 84) ⟨w4.heap.size, 0, none⟩ Ybaf.underlying51 Ybaf.underlying82 rfl (by kernel_rfl) rfl
        have hnil := fun (w : World) => Lib.run_eql_slice_nil (P := Ybaf.prog) w 26 64 none 0 0 0 0 Ybaf.underlying26
        obtain ⟨v0, v1, v2, v3⟩ := HV.out
        have hxe := hxs.ex
        have hnd := need_le xs hok q
        have hfm := flat_mine_le xs (okB_len hok) (okB_sizes hok) q
        clear hxs HEv Cv lg3 hvs
        obtain rfl | rfl | rfl | rfl : q = 0 ∨ q = 1 ∨ q = 2 ∨ q = 3 := by omega
        · have kp := cell_at (k := 0) hP6 rfl
          have km := cell_at (k := 0) hM6 rfl
          have ke := cell_at (k := 0) hE6 rfl
          rw [hp] at kp
          rw [hm] at km
          rw [v0] at hxe
          obtain ⟨gx, ax, cx, hx1, hx2, hx3⟩ := hxe
          injection hx1 with e1 e2 e3
          subst e1 e2 e3
          clear hP6 hM6 hE6 hqe v0 v1 v2 v3
          have HX2 : Hid (0 < (mine 0 xs).length → a0 = some ⟨gx, 0, none⟩) := hx2
          have HX3 : Hid (∀ i (hi : i < (mine 0 xs).length), XAt w6 gx (i * 5) (mine 0 xs)[i]) := hx3
          clear hx2 hx3
          go_wp2
          go_loopw [21, 83] (fun s i wr => ∃ k : Nat, k ≤ (mine 0 xs).length ∧ i = .int .i64 k ∧ s = .int .i64 ((k * 56 + (flat ((mine 0 xs).take k)).length : Nat) : Int) ∧ Below w6.heap.size w6 wr) (fun _ i _ => (mine 0 xs).length - (intOf i).toNat)
          case atStart => exact ⟨0, by omega, rfl, by simp [flat], Below.refl _ _⟩
          case round =>
            obtain ⟨k, hk, rfl, rfl, hbel⟩ := hrel
            by_cases hlt : k < (mine 0 xs).length
            · have hia := run_at26 (HX2.out (by omega)) (mine 0 xs).length c0 k (k : Int) rfl hlt
              obtain ⟨b0, b1, b2, b3, b4⟩ := (HX3.out k hlt).below hbel
              have hst := flat_take_succ (mine 0 xs) k hlt
              have hfl := flat_take_le (mine 0 xs) (k + 1)
              have hkl : (mine 0 xs)[k].klen = (mine 0 xs)[k].key.size := rfl
              have hdl : (mine 0 xs)[k].dlen = (mine 0 xs)[k].delay.size := rfl
              generalize (mine 0 xs)[k] = Y at *
              have hlb := World.block_lt_of_cell? wr _ b0
              go_wp2
              go_roundw
              case rel => exact ⟨k + 1, by omega, by go_num, by congr 1; omega, hbel.alloc hbel.size _⟩
              case measure => simp [intOf]; omega
            · have hke : k = (mine 0 xs).length := by omega
              subst hke
              rw [List.take_length, ← need_eq]
              have g1 := (hbel.cell (World.block_lt_of_cell? w6 _ lg1)).trans lg1
              have g2 := (hbel.cell (World.block_lt_of_cell? w6 _ lg2)).trans lg2
              have g3 := (hbel.cell (World.block_lt_of_cell? w6 _ hF6)).trans hF6
              have g4 := (hbel.cell (World.block_lt_of_cell? w6 _ ke)).trans ke
              clear lg1 lg2 hF6 ke
              have g5 := (hbel.cell (World.block_lt_of_cell? w6 _ hY6)).trans hY6
              clear hY6
              have HB7 := HB6.trans (hbel.mono HB6.size)
              go_wp2
              go_ret
              exact ⟨rfl, HB7⟩
        · have kp := cell_at (k := 1) hP6 rfl
          have km := cell_at (k := 1) hM6 rfl
          have ke := cell_at (k := 1) hE6 rfl
          rw [hp] at kp
          rw [hm] at km
          rw [v1] at hxe
          obtain ⟨gx, ax, cx, hx1, hx2, hx3⟩ := hxe
          injection hx1 with e1 e2 e3
          subst e1 e2 e3
          clear hP6 hM6 hE6 hqe v0 v1 v2 v3
          have HX2 : Hid (0 < (mine 1 xs).length → a1 = some ⟨gx, 0, none⟩) := hx2
          have HX3 : Hid (∀ i (hi : i < (mine 1 xs).length), XAt w6 gx (i * 5) (mine 1 xs)[i]) := hx3
          clear hx2 hx3
          go_wp2
          go_loopw [21, 83] (fun s i wr => ∃ k : Nat, k ≤ (mine 1 xs).length ∧ i = .int .i64 k ∧ s = .int .i64 ((k * 56 + (flat ((mine 1 xs).take k)).length : Nat) : Int) ∧ Below w6.heap.size w6 wr) (fun _ i _ => (mine 1 xs).length - (intOf i).toNat)
          case atStart => exact ⟨0, by omega, rfl, by simp [flat], Below.refl _ _⟩
          case round =>
            obtain ⟨k, hk, rfl, rfl, hbel⟩ := hrel
            by_cases hlt : k < (mine 1 xs).length
            · have hia := run_at26 (HX2.out (by omega)) (mine 1 xs).length c1 k (k : Int) rfl hlt
              obtain ⟨b0, b1, b2, b3, b4⟩ := (HX3.out k hlt).below hbel
              have hst := flat_take_succ (mine 1 xs) k hlt
              have hfl := flat_take_le (mine 1 xs) (k + 1)
              have hkl : (mine 1 xs)[k].klen = (mine 1 xs)[k].key.size := rfl
              have hdl : (mine 1 xs)[k].dlen = (mine 1 xs)[k].delay.size := rfl
              generalize (mine 1 xs)[k] = Y at *
              have hlb := World.block_lt_of_cell? wr _ b0
              go_wp2
              go_roundw
              case rel => exact ⟨k + 1, by omega, by go_num, by congr 1; omega, hbel.alloc hbel.size _⟩
              case measure => simp [intOf]; omega
            · have hke : k = (mine 1 xs).length := by omega
              subst hke
              rw [List.take_length, ← need_eq]
              have g1 := (hbel.cell (World.block_lt_of_cell? w6 _ lg1)).trans lg1
              have g2 := (hbel.cell (World.block_lt_of_cell? w6 _ lg2)).trans lg2
              have g3 := (hbel.cell (World.block_lt_of_cell? w6 _ hF6)).trans hF6
              have g4 := (hbel.cell (World.block_lt_of_cell? w6 _ ke)).trans ke
              clear lg1 lg2 hF6 ke
              have g5 := (hbel.cell (World.block_lt_of_cell? w6 _ hY6)).trans hY6
              clear hY6
              have HB7 := HB6.trans (hbel.mono HB6.size)
              go_wp2
              go_ret
              exact ⟨rfl, HB7⟩
        · have kp := cell_at (k := 2) hP6 rfl
          have km := cell_at (k := 2) hM6 rfl
          have ke := cell_at (k := 2) hE6 rfl
          rw [hp] at kp
          rw [hm] at km
          rw [v2] at hxe
          obtain ⟨gx, ax, cx, hx1, hx2, hx3⟩ := hxe
          injection hx1 with e1 e2 e3
          subst e1 e2 e3
          clear hP6 hM6 hE6 hqe v0 v1 v2 v3
          have HX2 : Hid (0 < (mine 2 xs).length → a2 = some ⟨gx, 0, none⟩) := hx2
          have HX3 : Hid (∀ i (hi : i < (mine 2 xs).length), XAt w6 gx (i * 5) (mine 2 xs)[i]) := hx3
          clear hx2 hx3
          go_wp2
          go_loopw [21, 83] (fun s i wr => ∃ k : Nat, k ≤ (mine 2 xs).length ∧ i = .int .i64 k ∧ s = .int .i64 ((k * 56 + (flat ((mine 2 xs).take k)).length : Nat) : Int) ∧ Below w6.heap.size w6 wr) (fun _ i _ => (mine 2 xs).length - (intOf i).toNat)
          case atStart => exact ⟨0, by omega, rfl, by simp [flat], Below.refl _ _⟩
          case round =>
            obtain ⟨k, hk, rfl, rfl, hbel⟩ := hrel
            by_cases hlt : k < (mine 2 xs).length
            · have hia := run_at26 (HX2.out (by omega)) (mine 2 xs).length c2 k (k : Int) rfl hlt
              obtain ⟨b0, b1, b2, b3, b4⟩ := (HX3.out k hlt).below hbel
              have hst := flat_take_succ (mine 2 xs) k hlt
              have hfl := flat_take_le (mine 2 xs) (k + 1)
              have hkl : (mine 2 xs)[k].klen = (mine 2 xs)[k].key.size := rfl
              have hdl : (mine 2 xs)[k].dlen = (mine 2 xs)[k].delay.size := rfl
              generalize (mine 2 xs)[k] = Y at *
              have hlb := World.block_lt_of_cell? wr _ b0
              go_wp2
              go_roundw
              case rel => exact ⟨k + 1, by omega, by go_num, by congr 1; omega, hbel.alloc hbel.size _⟩
              case measure => simp [intOf]; omega
            · have hke : k = (mine 2 xs).length := by omega
              subst hke
              rw [List.take_length, ← need_eq]
              have g1 := (hbel.cell (World.block_lt_of_cell? w6 _ lg1)).trans lg1
              have g2 := (hbel.cell (World.block_lt_of_cell? w6 _ lg2)).trans lg2
              have g3 := (hbel.cell (World.block_lt_of_cell? w6 _ hF6)).trans hF6
              have g4 := (hbel.cell (World.block_lt_of_cell? w6 _ ke)).trans ke
              clear lg1 lg2 hF6 ke
              have g5 := (hbel.cell (World.block_lt_of_cell? w6 _ hY6)).trans hY6
              clear hY6
              have HB7 := HB6.trans (hbel.mono HB6.size)
              go_wp2
              go_ret
              exact ⟨rfl, HB7⟩
        · have kp := cell_at (k := 3) hP6 rfl
          have km := cell_at (k := 3) hM6 rfl
          have ke := cell_at (k := 3) hE6 rfl
          rw [hp] at kp
          rw [hm] at km
          rw [v3] at hxe
          obtain ⟨gx, ax, cx, hx1, hx2, hx3⟩ := hxe
          injection hx1 with e1 e2 e3
          subst e1 e2 e3
          clear hP6 hM6 hE6 hqe v0 v1 v2 v3
          have HX2 : Hid (0 < (mine 3 xs).length → a3 = some ⟨gx, 0, none⟩) := hx2
          have HX3 : Hid (∀ i (hi : i < (mine 3 xs).length), XAt w6 gx (i * 5) (mine 3 xs)[i]) := hx3
          clear hx2 hx3
          go_wp2
          go_loopw [21, 83] (fun s i wr => ∃ k : Nat, k ≤ (mine 3 xs).length ∧ i = .int .i64 k ∧ s = .int .i64 ((k * 56 + (flat ((mine 3 xs).take k)).length : Nat) : Int) ∧ Below w6.heap.size w6 wr) (fun _ i _ => (mine 3 xs).length - (intOf i).toNat)
          case atStart => exact ⟨0, by omega, rfl, by simp [flat], Below.refl _ _⟩
          case round =>
            obtain ⟨k, hk, rfl, rfl, hbel⟩ := hrel
            by_cases hlt : k < (mine 3 xs).length
            · have hia := run_at26 (HX2.out (by omega)) (mine 3 xs).length c3 k (k : Int) rfl hlt
              obtain ⟨b0, b1, b2, b3, b4⟩ := (HX3.out k hlt).below hbel
              have hst := flat_take_succ (mine 3 xs) k hlt
              have hfl := flat_take_le (mine 3 xs) (k + 1)
              have hkl : (mine 3 xs)[k].klen = (mine 3 xs)[k].key.size := rfl
              have hdl : (mine 3 xs)[k].dlen = (mine 3 xs)[k].delay.size := rfl
              generalize (mine 3 xs)[k] = Y at *
              have hlb := World.block_lt_of_cell? wr _ b0
              go_wp2
              go_roundw
              case rel => exact ⟨k + 1, by omega, by go_num, by congr 1; omega, hbel.alloc hbel.size _⟩
              case measure => simp [intOf]; omega
            · have hke : k = (mine 3 xs).length := by omega
              subst hke
              rw [List.take_length, ← need_eq]
              have g1 := (hbel.cell (World.block_lt_of_cell? w6 _ lg1)).trans lg1
              have g2 := (hbel.cell (World.block_lt_of_cell? w6 _ lg2)).trans lg2
              have g3 := (hbel.cell (World.block_lt_of_cell? w6 _ hF6)).trans hF6
              have g4 := (hbel.cell (World.block_lt_of_cell? w6 _ ke)).trans ke
              clear lg1 lg2 hF6 ke
              have g5 := (hbel.cell (World.block_lt_of_cell? w6 _ hY6)).trans hY6
              clear hY6
              have HB7 := HB6.trans (hbel.mono HB6.size)
              go_wp2
              go_ret
              exact ⟨rfl, HB7⟩
    · have hMon : Calls Ybaf.prog 15 #[.pointer (some ⟨c, 0, none⟩), .string (nameB q)] w5 (MonErr w5) := by
        have hF5 : F.answers w5.tape := by rw [hbw.tape, HBv.tape]; exact hF
        by_cases hpq : q < 4 ∧ p q = true
        · exact mon_off F c gh gc ah ac ch cc p m xs q hpq.1 w5 hF5 (Cv.below hbw) hpq.2 (Bool.eq_false_iff.2 fun h => hf ⟨hpq.1, hpq.2, h⟩)
        · exact mon_no F c gh gc ah ac ch cc p m xs q hq w5 hF5 (Cv.below hbw) hpq
      refine (checks_err (w2.heap.size + 1) c q _ w5 ((hbw.cell (p := ⟨w2.heap.size + 1, 3, none⟩) (lt_of_heap HH.out.1)).trans (cell_at (k := 3) HH.out.1 rfl)) (shape_at ((hbw.block _ (lt_of_heap HC.out)).trans HC.out)) hMon).mono ?_
      rintro e w6 ⟨ea, rfl, hb6⟩
      have hbe := hbw.trans (hb6.mono hbw.size)
      have HB6 := HBv.trans (hbe.mono HBv.size)
      have hP6 : w6.heap[w.heap.size]? = _ := (hbe.block _ (lt_of_heap HH.out.2.2.2.1)).trans HH.out.2.2.2.1
      have hM6 : w6.heap[w.heap.size + 1]? = _ := (hbe.block _ (lt_of_heap HH.out.2.2.2.2.1)).trans HH.out.2.2.2.2.1
      have hL6 : w6.cell? ⟨v.heap.size, 0, none⟩ = some (.slice none 0 0) := cell_at ((hb6.block _ (lt_of_heap HH.out.2.2.2.2.2.2)).trans HH.out.2.2.2.2.2.2) rfl
      have hnil := fun (w : World) => Lib.run_eql_slice_nil (P := Ybaf.prog) w 26 64 none 0 0 0 0 Ybaf.underlying26
      clear hMon HEv Cv hvs
      obtain rfl | rfl | rfl | rfl | rfl : q = 0 ∨ q = 1 ∨ q = 2 ∨ q = 3 ∨ q = 4 := by omega
      · have kp := cell_at (k := 0) hP6 rfl
        have km := cell_at (k := 0) hM6 rfl
        clear hP6 hM6
        cases hpq : p 0
        · rw [hpq] at kp
          clear hf hqe
          go_wp2
          go_ret
          exact ⟨rfl, HB6⟩
        · have hmq : m 0 = false := Bool.eq_false_iff.2 fun h => hf ⟨by omega, hpq, h⟩
          rw [hpq] at kp
          rw [hmq] at km
          clear hf hqe
          go_wp2
          go_ret
          exact ⟨rfl, HB6⟩
      · have kp := cell_at (k := 1) hP6 rfl
        have km := cell_at (k := 1) hM6 rfl
        clear hP6 hM6
        cases hpq : p 1
        · rw [hpq] at kp
          clear hf hqe
          go_wp2
          go_ret
          exact ⟨rfl, HB6⟩
        · have hmq : m 1 = false := Bool.eq_false_iff.2 fun h => hf ⟨by omega, hpq, h⟩
          rw [hpq] at kp
          rw [hmq] at km
          clear hf hqe
          go_wp2
          go_ret
          exact ⟨rfl, HB6⟩
      · have kp := cell_at (k := 2) hP6 rfl
        have km := cell_at (k := 2) hM6 rfl
        clear hP6 hM6
        cases hpq : p 2
        · rw [hpq] at kp
          clear hf hqe
          go_wp2
          go_ret
          exact ⟨rfl, HB6⟩
        · have hmq : m 2 = false := Bool.eq_false_iff.2 fun h => hf ⟨by omega, hpq, h⟩
          rw [hpq] at kp
          rw [hmq] at km
          clear hf hqe
          go_wp2
          go_ret
          exact ⟨rfl, HB6⟩
      · have kp := cell_at (k := 3) hP6 rfl
        have km := cell_at (k := 3) hM6 rfl
        clear hP6 hM6
        cases hpq : p 3
        · rw [hpq] at kp
          clear hf hqe
          go_wp2
          go_ret
          exact ⟨rfl, HB6⟩
        · have hmq : m 3 = false := Bool.eq_false_iff.2 fun h => hf ⟨by omega, hpq, h⟩
          rw [hpq] at kp
          rw [hmq] at km
          clear hf hqe
          go_wp2
          go_ret
          exact ⟨rfl, HB6⟩
      · clear hP6 hM6 hf hqe
        go_wp2
        go_ret
        exact ⟨rfl, HB6⟩
  · rw [Bool.eq_false_iff.2 hok]
    go_wp2
    go_ret
    exact ⟨rfl, HB1⟩
end Go.Proofs.YbulkxmaFmt
