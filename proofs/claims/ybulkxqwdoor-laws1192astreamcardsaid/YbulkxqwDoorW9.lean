/-
  The law walked.
-/
import Derived.Test.YbulkxqwDoorW8
set_option linter.unusedSimpArgs false
namespace Go.Proofs.YbulkxqwDoor
open Go.RowKit

theorem row_bytes {w : World} {base : Nat} {v : Value} {l : List UInt8} (ho : w.ownsRow base 5 1 v l.length (bvl l)) :
    ∃ a c, v = .slice a l.length c ∧ (l ≠ [] → ∃ g, a = some ⟨g, 0, none⟩ ∧ ∀ i (h : i < l.length), w.cell? ⟨g, i, none⟩ = some (.int .u8 l[i].toNat)) := by
  rcases ho.2 with ⟨rfl, h0⟩ | ⟨g, cap, cur, rfl, _, hg, h1, h2, h3, h4⟩
  · have : l = [] := List.length_eq_zero_iff.1 h0
    subst this
    exact ⟨none, 0, rfl, fun h => absurd rfl h⟩
  · refine ⟨_, cap, rfl, fun _ => ⟨g, rfl, fun i hi => ?_⟩⟩
    refine cell_at hg ?_
    have hb : (bvl l)[i]? = some (.int .u8 l[i].toNat) := by simp [bvl, List.getElem?_eq_getElem hi]
    rw [← h4, List.getElem?_take, if_pos (by omega), Array.getElem?_toList] at hb
    exact hb

theorem at_w {P : Program} {c : Code} {Q : Exit → Act → World → Prop} {a : Act} {w : World} (F : World → Prop) (hF : F w) (h : ∀ W, F W → Code.wp P c Q a W) : Code.wp P c Q a w := h w hF

set_option maxRecDepth 100000 in
set_option maxHeartbeats 4000000 in
theorem law_any (a : Option Addr) (b o capd : Nat) (L : List UInt8) (a2 : Option Addr) (b2 o2 cap2 : Nat) (Ch : List UInt8) (c : Nat) (hc : c < 256) (ew ut : Bool) (w : World) (hB : Bts w a b o capd L) (hN : Bts w a2 b2 o2 cap2 Ch) (ea : Addr)
    (hE : w.cell? ⟨0, 0, none⟩ = some (.iface 44 (.pointer (some ea)))) :
    Calls Ybad.prog 3 #[.slice a L.length capd, .slice a2 Ch.length cap2, .int .u8 c, .bool ew, .bool ut] w fun e w' => e = .returned (.bool true) ∧ Below w.heap.size w w' := by
  by_cases h1 : 1024 < L.length
  · have h1' : (1024 : Int) < (L.length : Int) := by omega
    go_enter Ybad.func3, Ybad.ntmps3
    go_wp2_with fail
    go_ret
    exact ⟨rfl, Below.refl _ _⟩
  by_cases h2 : 1024 < Ch.length
  · have h1' : (L.length : Int) ≤ 1024 := by omega
    have h2' : (1024 : Int) < (Ch.length : Int) := by omega
    go_enter Ybad.func3, Ybad.ntmps3
    go_wp2_with fail
    go_ret
    exact ⟨rfl, Below.refl _ _⟩
  have h1' : (L.length : Int) ≤ 1024 := by omega
  have h2' : (Ch.length : Int) ≤ 1024 := by omega
  obtain ⟨bs, hbs⟩ : ∃ bs, bs = 1 + c % 16 := ⟨_, rfl⟩
  have hbsI : 1 + (c : Int) % 16 = (bs : Int) := by omega
  have hbs1 : 1 ≤ bs := by omega
  have hbs2 : bs ≤ 16 := by omega
  obtain ⟨i0, hi, hz0, hz1, hz2⟩ := info_parts Ybad.info5
  have hmk : ∀ W : World, (Instr.makeSlice 22 (.int .i64 (bs : Int)) (.int .i64 (bs : Int))).run Ybad.prog W = .ok (.slice (some ⟨W.heap.size, 0, none⟩) bs bs) (W.alloc (.cells (bvl (List.replicate bs 0)).toArray 5)) := fun W => by
    have h := run_make (P := Ybad.prog) W 22 5 i0 _ Ybad.underlying22 hi hz0 .i64 .i64 (bs : Int) (bs : Int) (by omega) (by omega) (by rw [hz2]; omega) (by omega)
    rw [hz1] at h
    rw [← made_zero]
    simpa using h
  clear hi hz0 hz1 hz2 hbs
  have h0 : 0 < w.heap.size := World.block_lt_of_cell? w _ hE
  obtain ⟨F, hF⟩ : ∃ F : Fx, F = ⟨w.heap.size, L, b, o, Ch, a2, b2, o2, cap2, ew, ut, bs, ea⟩ := ⟨_, rfl⟩
  obtain ⟨Z, hZ⟩ : ∃ Z, Z = bvl (List.replicate bs 0) := ⟨_, rfl⟩
  rw [← hZ] at hmk
  have hA0 : ∀ tv, tv = (if ut then .iface 26 (.pointer (some ⟨w.heap.size + 1, 0, none⟩)) else .nilIface) → At F (lw w.heap.size w a a2 L.length Ch.length capd cap2 ew Z.toArray bs tv) (sd0 a capd bs) := fun tv htv => by
    rw [hF, hZ]
    exact lw_at ⟨w.heap.size, L, b, o, Ch, a2, b2, o2, cap2, ew, ut, bs, ea⟩ w rfl a capd hB hN tv htv hE h0
  have HA0 : Hid (∀ tv, tv = (if ut then .iface 26 (.pointer (some ⟨w.heap.size + 1, 0, none⟩)) else .nilIface) → At F (lw w.heap.size w a a2 L.length Ch.length capd cap2 ew Z.toArray bs tv) (sd0 a capd bs)) := hA0
  have HBL : Hid (∀ tv, Below w.heap.size w (lw w.heap.size w a a2 L.length Ch.length capd cap2 ew Z.toArray bs tv)) := fun tv => lw_below _ w rfl _ _ _ _ _ _ _ _ _ tv
  obtain ⟨n, hn⟩ : ∃ n, n = L.length := ⟨_, rfl⟩
  have HN : Hid (n = F.L.length) := by rw [hF]; exact hn
  have HAD : Hid (0 < n → a = some ⟨F.bd, F.od, none⟩) := fun h => by rw [hF]; exact hB.ad (by intro e; rw [hn, e] at h; simp at h)
  have hn1024 : n ≤ 1024 := by omega
  have hcl : F.Ch.length ≤ 1024 := by rw [hF]; show Ch.length ≤ 1024; omega
  have hFs : F.s = w.heap.size := by rw [hF]
  have hFb : F.bs = bs := by rw [hF]
  have hFu : F.ut = ut := by rw [hF]
  have HFU : Hid (F.ut = ut) := hFu
  have HFS : Hid (F.s = w.heap.size) := hFs
  rw [← hFb] at hbs1 hbs2
  have HFb : Hid (F.bs = bs) := hFb
  rw [← hn] at h1' ⊢
  have HNL : Hid (n = L.length) := hn
  clear hB hN hF hZ hE hA0 hFb hFu h1 h2 hn
  clear hFs
  cases ut
  · have HUT : Hid (F.ut = false) := HFU.out
    go_enter Ybad.func3, Ybad.ntmps3
    go_wp2_with fail
    refine at_w (fun W => ∃ x, At F W x ∧ Inv F x ∧ x.con = 0 ∧ Below F.s w W) ⟨sd0 a capd bs, by rw [HNL.out]; exact HA0.out .nilIface rfl, inv0 F a capd bs, rfl, by rw [HFS.out, HNL.out]; exact HBL.out .nilIface⟩ ?_
    rintro w1 hst
    rw [← HFS.out]
    clear hmk HA0 HBL
    have HAT : Hid (∃ x, At F w1 x ∧ Inv F x ∧ x.con = 0 ∧ Below F.s w w1) := hst
    clear hst
    go_wp2_with fail
    go_loopw [14] (fun i wr => ∃ (k : Nat) (x : Sd), k ≤ n ∧ i = .int .i64 k ∧ At F wr x ∧ Inv F x ∧ x.con = k ∧ Below F.s w wr) (fun i _ => n - (intOf i).toNat)
    case atStart =>
      obtain ⟨x, h1, h2, h3, h4⟩ := HAT.out
      exact ⟨0, x, by omega, rfl, h1, h2, h3, h4⟩
    case round =>
      obtain ⟨k, x, hk, rfl, A, I, hcon, B⟩ := hrel
      obtain ⟨w8, rfl⟩ : ∃ w8, w8 = wr := ⟨_, rfl⟩
      by_cases hlt : k < n
      · have hltI : (k : Int) < (n : Int) := by omega
        have HM : Hid (Calls Ybad.prog 4 #[.pointer (some ⟨F.s + 3, 0, none⟩)] w8 (More F x w8)) := byte_more F w8 x A I (by rw [hcon, ← HN.out]; exact hlt) (by rw [← HN.out]; exact hn1024) hcl hbs1 hbs2
        have HB : Hid (Below F.s w w8) := B
        have HC : Hid (x.con = k) := hcon
        have hix : ∀ W : World, (Instr.indexAt 22 (.slice a n capd) (.int .i64 (k : Int))).run Ybad.prog W = .ok (.pointer (some ⟨F.bd, F.od + k, none⟩)) W := by rw [HAD.out (by omega)]; exact run_at22b F.bd F.od n capd k k rfl hlt
        have hwk : IntKind.i64.wrap ((k : Int) + 1) = ((k + 1 : Nat) : Int) := by rw [IntKind.wrap_i64]; omega
        clear A I B hcon HAT
        go_wp2_with fail
        refine HM.out.mono ?_
        rintro e w2 ⟨b, y, hb, rfl, A2, I2, hyc, B2⟩
        have hkL : k < F.L.length := by rw [← HN.out]; exact hlt
        have hbk : F.L[k] = b := by
          rw [HC.out, List.getElem?_eq_getElem hkL] at hb
          exact Option.some.inj hb
        have hcl8 : w2.cell? ⟨F.bd, F.od + k, none⟩ = some (.int .u8 b.toNat) := by rw [← hbk]; exact A2.dl k hkL
        have hc7 : w2.cell? ⟨F.s + 3, 7, none⟩ = some (.int .i64 ((k + 1 : Nat) : Int)) := by have h := A2.c7; rw [hyc, HC.out] at h; exact h
        have HA2 : Hid (At F w2 y ∧ Inv F y ∧ y.con = k + 1 ∧ Below F.s w w2) := ⟨A2, I2, by rw [hyc, HC.out], HB.out.trans B2⟩
        clear A2 I2 hyc B2 hb hbk HM
        go_wp2_with fail
        go_roundw
        case rel => exact ⟨k + 1, y, by omega, rfl, HA2.out.1, HA2.out.2.1, HA2.out.2.2.1, HA2.out.2.2.2⟩
        case measure => simp [intOf]; omega
      · have hltI : (n : Int) ≤ (k : Int) := by omega
        have HST : Hid (At F w8 x ∧ Inv F x ∧ x.con = F.L.length ∧ Below F.s w w8) := ⟨A, I, by have := HN.out; omega, B⟩
        clear A I B hcon HAT
        go_wp2_with fail
        go_loopw [17] (fun j wr => ∃ (q : Nat) (x : Sd), q ≤ 2 ∧ j = .int .i64 q ∧ At F wr x ∧ Inv F x ∧ x.con = F.L.length ∧ (0 < q → x.tf = x.ps) ∧ Below F.s w wr) (fun j _ => 2 - (intOf j).toNat)
        case atStart => exact ⟨0, x, by omega, rfl, HST.out.1, HST.out.2.1, HST.out.2.2.1, fun h => by omega, HST.out.2.2.2⟩
        case round =>
          obtain ⟨q, x, hq, rfl, A, I, hcon, htf, B⟩ := hrel
          obtain ⟨w7, rfl⟩ : ∃ w7, w7 = wr := ⟨_, rfl⟩
          by_cases hq2 : q < 2
          · have hqI : (q : Int) < 2 := by omega
            have HM : Hid (Calls Ybad.prog 4 #[.pointer (some ⟨F.s + 3, 0, none⟩)] w7 (Over F x w7)) := byte_over F w7 x A I hcon (by rw [← HN.out]; exact hn1024) hcl hbs1 hbs2
            have HB : Hid (Below F.s w w7) := B
            have HC : Hid (x.con = F.L.length) := hcon
            have hwq : IntKind.i64.wrap ((q : Int) + 1) = ((q + 1 : Nat) : Int) := by rw [IntKind.wrap_i64]; omega
            clear A I B hcon htf HST
            go_wp2_with fail
            refine HM.out.mono ?_
            rintro e w2 ⟨y, rfl, A2, I2, hyc, hyt, B2⟩
            have he0 : w2.cell? ⟨0, 0, none⟩ = some (.iface 44 (.pointer (some F.ea))) := A2.eof
            have hnq := fun W : World => neq_same F.ea W
            have HA2 : Hid (At F w2 y ∧ Inv F y ∧ y.con = F.L.length ∧ y.tf = y.ps ∧ Below F.s w w2) := ⟨A2, I2, by rw [hyc, HC.out], hyt, HB.out.trans B2⟩
            clear A2 I2 hyc hyt B2 HM
            unfold eofV
            go_wp2_with fail
            go_roundw
            case rel => exact ⟨q + 1, y, by omega, rfl, HA2.out.1, HA2.out.2.1, HA2.out.2.2.1, fun _ => HA2.out.2.2.2.1, HA2.out.2.2.2.2⟩
            case measure => simp [intOf]; omega
          · have hqI : (2 : Int) ≤ (q : Int) := by omega
            have hc7 : w7.cell? ⟨F.s + 3, 7, none⟩ = some (.int .i64 (n : Int)) := by have h := A.c7; rw [hcon, ← HN.out] at h; exact h
            have ht0 : w7.cell? ⟨F.s + 1, 0, none⟩ = some x.tv := cell_at A.tee rfl
            have HST2 : Hid (At F w7 x ∧ Inv F x ∧ x.con = F.L.length ∧ x.tf = x.ps ∧ Below F.s w w7) := ⟨A, I, hcon, htf (by omega), B⟩
            clear A I B hcon htf HST
            go_wp2_with fail
            go_ret
            exact ⟨rfl, by rw [← HFS.out]; exact HST2.out.2.2.2.2⟩
  · have HUT : Hid (F.ut = true) := HFU.out
    go_enter Ybad.func3, Ybad.ntmps3
    go_wp2_with fail
    refine at_w (fun W => ∃ x, At F W x ∧ Inv F x ∧ x.con = 0 ∧ Below F.s w W) ⟨sd0 a capd bs, by rw [HNL.out]; exact HA0.out _ rfl, inv0 F a capd bs, rfl, by rw [HFS.out, HNL.out]; exact HBL.out (.iface 26 (.pointer (some ⟨w.heap.size + 1, 0, none⟩)))⟩ ?_
    rintro w1 hst
    rw [← HFS.out]
    clear hmk HA0 HBL
    have HAT : Hid (∃ x, At F w1 x ∧ Inv F x ∧ x.con = 0 ∧ Below F.s w w1) := hst
    clear hst
    go_wp2_with fail
    go_loopw [14] (fun i wr => ∃ (k : Nat) (x : Sd), k ≤ n ∧ i = .int .i64 k ∧ At F wr x ∧ Inv F x ∧ x.con = k ∧ Below F.s w wr) (fun i _ => n - (intOf i).toNat)
    case atStart =>
      obtain ⟨x, h1, h2, h3, h4⟩ := HAT.out
      exact ⟨0, x, by omega, rfl, h1, h2, h3, h4⟩
    case round =>
      obtain ⟨k, x, hk, rfl, A, I, hcon, B⟩ := hrel
      obtain ⟨w8, rfl⟩ : ∃ w8, w8 = wr := ⟨_, rfl⟩
      by_cases hlt : k < n
      · have hltI : (k : Int) < (n : Int) := by omega
        have HM : Hid (Calls Ybad.prog 4 #[.pointer (some ⟨F.s + 3, 0, none⟩)] w8 (More F x w8)) := byte_more F w8 x A I (by rw [hcon, ← HN.out]; exact hlt) (by rw [← HN.out]; exact hn1024) hcl hbs1 hbs2
        have HB : Hid (Below F.s w w8) := B
        have HC : Hid (x.con = k) := hcon
        have hix : ∀ W : World, (Instr.indexAt 22 (.slice a n capd) (.int .i64 (k : Int))).run Ybad.prog W = .ok (.pointer (some ⟨F.bd, F.od + k, none⟩)) W := by rw [HAD.out (by omega)]; exact run_at22b F.bd F.od n capd k k rfl hlt
        have hwk : IntKind.i64.wrap ((k : Int) + 1) = ((k + 1 : Nat) : Int) := by rw [IntKind.wrap_i64]; omega
        clear A I B hcon HAT
        go_wp2_with fail
        refine HM.out.mono ?_
        rintro e w2 ⟨b, y, hb, rfl, A2, I2, hyc, B2⟩
        have hkL : k < F.L.length := by rw [← HN.out]; exact hlt
        have hbk : F.L[k] = b := by
          rw [HC.out, List.getElem?_eq_getElem hkL] at hb
          exact Option.some.inj hb
        have hcl8 : w2.cell? ⟨F.bd, F.od + k, none⟩ = some (.int .u8 b.toNat) := by rw [← hbk]; exact A2.dl k hkL
        have hc7 : w2.cell? ⟨F.s + 3, 7, none⟩ = some (.int .i64 ((k + 1 : Nat) : Int)) := by have h := A2.c7; rw [hyc, HC.out] at h; exact h
        have HA2 : Hid (At F w2 y ∧ Inv F y ∧ y.con = k + 1 ∧ Below F.s w w2) := ⟨A2, I2, by rw [hyc, HC.out], HB.out.trans B2⟩
        clear A2 I2 hyc B2 hb hbk HM
        go_wp2_with fail
        go_roundw
        case rel => exact ⟨k + 1, y, by omega, rfl, HA2.out.1, HA2.out.2.1, HA2.out.2.2.1, HA2.out.2.2.2⟩
        case measure => simp [intOf]; omega
      · have hltI : (n : Int) ≤ (k : Int) := by omega
        have HST : Hid (At F w8 x ∧ Inv F x ∧ x.con = F.L.length ∧ Below F.s w w8) := ⟨A, I, by have := HN.out; omega, B⟩
        clear A I B hcon HAT
        go_wp2_with fail
        go_loopw [17] (fun j wr => ∃ (q : Nat) (x : Sd), q ≤ 2 ∧ j = .int .i64 q ∧ At F wr x ∧ Inv F x ∧ x.con = F.L.length ∧ (0 < q → x.tf = x.ps) ∧ Below F.s w wr) (fun j _ => 2 - (intOf j).toNat)
        case atStart => exact ⟨0, x, by omega, rfl, HST.out.1, HST.out.2.1, HST.out.2.2.1, fun h => by omega, HST.out.2.2.2⟩
        case round =>
          obtain ⟨q, x, hq, rfl, A, I, hcon, htf, B⟩ := hrel
          obtain ⟨w7, rfl⟩ : ∃ w7, w7 = wr := ⟨_, rfl⟩
          by_cases hq2 : q < 2
          · have hqI : (q : Int) < 2 := by omega
            have HM : Hid (Calls Ybad.prog 4 #[.pointer (some ⟨F.s + 3, 0, none⟩)] w7 (Over F x w7)) := byte_over F w7 x A I hcon (by rw [← HN.out]; exact hn1024) hcl hbs1 hbs2
            have HB : Hid (Below F.s w w7) := B
            have HC : Hid (x.con = F.L.length) := hcon
            have hwq : IntKind.i64.wrap ((q : Int) + 1) = ((q + 1 : Nat) : Int) := by rw [IntKind.wrap_i64]; omega
            clear A I B hcon htf HST
            go_wp2_with fail
            refine HM.out.mono ?_
            rintro e w2 ⟨y, rfl, A2, I2, hyc, hyt, B2⟩
            have he0 : w2.cell? ⟨0, 0, none⟩ = some (.iface 44 (.pointer (some F.ea))) := A2.eof
            have hnq := fun W : World => neq_same F.ea W
            have HA2 : Hid (At F w2 y ∧ Inv F y ∧ y.con = F.L.length ∧ y.tf = y.ps ∧ Below F.s w w2) := ⟨A2, I2, by rw [hyc, HC.out], hyt, HB.out.trans B2⟩
            clear A2 I2 hyc hyt B2 HM
            unfold eofV
            go_wp2_with fail
            go_roundw
            case rel => exact ⟨q + 1, y, by omega, rfl, HA2.out.1, HA2.out.2.1, HA2.out.2.2.1, fun _ => HA2.out.2.2.2.1, HA2.out.2.2.2.2⟩
            case measure => simp [intOf]; omega
          · have hqI : (2 : Int) ≤ (q : Int) := by omega
            have hc7 : w7.cell? ⟨F.s + 3, 7, none⟩ = some (.int .i64 (n : Int)) := by have h := A.c7; rw [hcon, ← HN.out] at h; exact h
            have ht0 : w7.cell? ⟨F.s + 1, 0, none⟩ = some x.tv := cell_at A.tee rfl
            have HST2 : Hid (At F w7 x ∧ Inv F x ∧ x.con = F.L.length ∧ x.tf = x.ps ∧ Below F.s w w7) := ⟨A, I, hcon, htf (by omega), B⟩
            clear A I B hcon htf HST
            have hTL : x.T = F.L := by
              rw [HST2.out.2.1.T HUT.out, HST2.out.2.2.1, HST2.out.2.2.2.1, Nat.sub_self, Nat.sub_zero, List.take_length]
            have hrow := HST2.out.1.row
            rw [hTL] at hrow
            obtain ⟨at_, ct, htv, hrt⟩ := row_bytes hrow
            rw [htv, ← HN.out] at ht0
            have HRT : Hid (F.L ≠ [] → ∃ g, at_ = some ⟨g, 0, none⟩ ∧ ∀ i (h : i < F.L.length), w7.cell? ⟨g, i, none⟩ = some (.int .u8 F.L[i].toNat)) := hrt
            clear hTL hrow htv hrt
            go_wp2_with fail
            go_loopw [20] (fun i wr => ∃ (k : Nat), k ≤ n ∧ i = .int .i64 k ∧ ∃ m, wr = w7.drewN m) (fun i _ => n - (intOf i).toNat)
            case atStart => exact ⟨0, by omega, rfl, 0, rfl⟩
            case round =>
              obtain ⟨k, hk, rfl, m, rfl⟩ := hrel
              by_cases hlt3 : k < n
              · have hltI3 : (k : Int) < (n : Int) := by omega
                have hkL : k < F.L.length := by rw [← HN.out]; exact hlt3
                obtain ⟨g, hag, hcg⟩ := HRT.out (by intro e; rw [e] at hkL; simp at hkL)
                obtain ⟨b, hb⟩ : ∃ b, b = F.L[k] := ⟨_, rfl⟩
                have d1 := hcg k hkL
                have d2 := HST2.out.1.dl k hkL
                rw [← hb] at d1 d2
                have hix1 : ∀ W : World, (Instr.indexAt 22 (.slice a n capd) (.int .i64 (k : Int))).run Ybad.prog W = .ok (.pointer (some ⟨F.bd, F.od + k, none⟩)) W := by rw [HAD.out (by omega)]; exact run_at22b F.bd F.od n capd k k rfl hlt3
                have hix2 := run_at22b g 0 n ct k k rfl hlt3
                simp only [Nat.zero_add] at hix2
                have hwk : IntKind.i64.wrap ((k : Int) + 1) = ((k + 1 : Nat) : Int) := by rw [IntKind.wrap_i64]; omega
                rw [hag] at ht0
                clear hcg hb hag
                go_wp2_with fail
                go_quiet (fail)
                go_wp2_with fail
                refine ⟨⟨k + 1, by omega, rfl, _, rfl⟩, ?_⟩
                simp [intOf]
                omega
              · have hltI3 : (n : Int) ≤ (k : Int) := by omega
                go_wp2_with fail
                go_ret
                have B := HST2.out.2.2.2.2
                rw [HFS.out] at B
                exact ⟨rfl, B.os, B.tape, B.output, B.size, B.block⟩
end Go.Proofs.YbulkxqwDoor
