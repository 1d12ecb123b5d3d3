/-
  The law with a reserve: what it calls.
-/
import Derived.Test.YbulkxmaFmtWNil
import Derived.LaidEql
namespace Go.Proofs.YbulkxmaFmt
open Go.RowKit Go.Stop

set_option maxRecDepth 100000 in
theorem new_any (s : ByteArray) (w : World) :
    Calls Ybaf.prog 11 #[.string s] w fun e w' => e = .returned (.iface 82 (.pointer (some ⟨w.heap.size, 0, none⟩))) ∧ w' = w.alloc (.cells #[.string s] 84) := by
  go_enter Ybaf.func11, Ybaf.ntmps11
  go_wp2
  go_ret
  exact ⟨rfl, rfl⟩

/-- the reserve was called once, with n -/
def Logged (L : Nat) (n : Int) (w w' : World) : Prop :=
  ∃ g cap, w'.cell? ⟨L, 0, none⟩ = some (.slice (some ⟨g, 0, none⟩) 1 cap) ∧ w'.cell? ⟨g, 0, none⟩ = some (.int .i64 n) ∧ w'.frozen? ⟨L, 0, none⟩ = false ∧ Below L w w'

theorem logged_mk (L : Nat) (n : Int) (cap k : Nat) (w : World) (hL : w.cell? ⟨L, 0, none⟩ = some (.slice none 0 0)) (hz : w.frozen? ⟨L, 0, none⟩ = false) (hlL : L < w.heap.size) :
    Logged L n w (((w.setCell ⟨L, 0, none⟩ (.slice (some ⟨w.heap.size + 1, 0, none⟩) 1 cap)).alloc (.cells #[.int .i64 n] 3)).alloc (.cells (#[.int .i64 n] ++ Builtin.zeroCells #[.int .i64 0] k) 3)).drew := by
  refine ⟨w.heap.size + 1, cap, ?_, ?_, ?_, ?_⟩
  · go_simp
  · refine new_cell_drew _ _ _ _ 0 _ ?_ ?_
    · show _ = Array.size _
      simp
    · rw [Array.getElem?_append_left (by simp)]; rfl
  · go_simp
  · exact ((((Below.refl _ _).setCell (p := ⟨L, 0, none⟩) (Nat.le_refl _) _).alloc (by simp; omega) _).alloc (by simp; omega) _).drew

set_option maxRecDepth 100000 in
theorem res_any (L Fb Fe : Nat) (n : Int) (fail : Bool) (E : Addr) (w : World) (hL : w.cell? ⟨L, 0, none⟩ = some (.slice none 0 0)) (hz : w.frozen? ⟨L, 0, none⟩ = false)
    (hB : w.cell? ⟨Fb, 0, none⟩ = some (.bool fail)) (hE : w.cell? ⟨Fe, 0, none⟩ = some (.iface 82 (.pointer (some E)))) (hFb : Fb < L) (hFe : Fe < L) :
    Calls Ybaf.prog 12 #[.int .i64 n, .pointer (some ⟨L, 0, none⟩), .pointer (some ⟨Fb, 0, none⟩), .pointer (some ⟨Fe, 0, none⟩)] w fun e w' =>
      e = .returned (if fail then .iface 82 (.pointer (some E)) else .nilIface) ∧ Logged L n w w' := by
  have hlL := World.block_lt_of_cell? w _ hL
  have hn1 : Fb ≠ L := by omega
  have hn2 : Fe ≠ L := by omega
  have hn3 : w.heap.size ≠ L := by have : L < w.heap.size := hlL; omega
  have hn4 : w.heap.size + 1 ≠ L := by have : L < w.heap.size := hlL; omega
  have hlb := World.block_lt_of_cell? w _ hB
  have hle := World.block_lt_of_cell? w _ hE
  cases fail
  · go_enter Ybaf.func12, Ybaf.ntmps12
    go_wp2
    go_ret
    exact ⟨rfl, logged_mk L n _ _ w hL hz hlL⟩
  · go_enter Ybaf.func12, Ybaf.ntmps12
    go_wp2
    go_ret
    exact ⟨rfl, logged_mk L n _ _ w hL hz hlL⟩

theorem Logged.from_ {L : Nat} {n : Int} {v w w' : World} (h : Logged L n w w') (hb : Below L v w) : Logged L n v w' := by
  obtain ⟨g, cap, h1, h2, h3, h4⟩ := h
  exact ⟨g, cap, h1, h2, h3, hb.trans h4⟩
theorem Logged.to {L : Nat} {n : Int} {v w w' : World} (h : Logged L n v w) (hb : Below w.heap.size w w') : Logged L n v w' := by
  obtain ⟨g, cap, h1, h2, h3, h4⟩ := h
  have l1 := World.block_lt_of_cell? w _ h1
  have l2 := World.block_lt_of_cell? w _ h2
  exact ⟨g, cap, (hb.cell l1).trans h1, (hb.cell l2).trans h2, (hb.frozen l1).trans h3, h4.trans (hb.mono (Nat.le_of_lt l1))⟩

theorem need_le (xs : List Chk) (hok : okB xs = true) (q : Nat) : need (mine q xs) ≤ 1000000000000 := by
  have h1 := flat_mine_le xs (okB_len hok) (okB_sizes hok) q
  have h2 := mine_le q xs
  have h3 := okB_len hok
  unfold need
  split <;> omega

/-- what Checks with a reserve comes to: the checks -/
def ResOk (L : Nat) (n : Int) (l : List Chk) (v : World) (e : Ending) (w' : World) : Prop :=
  ∃ x, e = .returned (.tuple #[x, .nilIface]) ∧ XsAt w' x l ∧ (l.length = 0 → x = .slice none 0 0) ∧ Logged L n v w'

/-- what Checks with a reserve that fails comes to -/
def ResNo (L : Nat) (n : Int) (E : Addr) (v : World) (e : Ending) (w' : World) : Prop :=
  e = .returned (.tuple #[.slice none 0 0, .iface 82 (.pointer (some E))]) ∧ Logged L n v w'

set_option maxRecDepth 100000 in
theorem checks_no (S c gh gc : Nat) (ah ac : Option Addr) (ch cc : Nat) (p m : Nat → Bool) (xs : List Chk) (q : Nat) (hq : q < 4) (hok : okB xs = true) (v w : World) (C : CfgAt v c gh gc ah ac ch cc (St.build p m xs 4)) (hp : p q = true) (hm : m q = true)
    (hS : v.cell? ⟨S, 3, none⟩ = some (.pointer (some ⟨c, 0, none⟩))) (x y z : Value) (hc : v.heap[c]? = some (.cells #[x, y, z] 49 (0, 0))) (hvw : Below v.heap.size v w) (hL : w.cell? ⟨v.heap.size, 0, none⟩ = some (.slice none 0 0)) (hz : w.frozen? ⟨v.heap.size, 0, none⟩ = false) (Fb Fe : Nat) (E : Addr)
    (hB : v.cell? ⟨Fb, 0, none⟩ = some (.bool true)) (hE : v.cell? ⟨Fe, 0, none⟩ = some (.iface 82 (.pointer (some E)))) :
    Calls Ybaf.prog 8 #[.pointer (some ⟨S, 0, none⟩), .string (nameB q), .func (.func 12) #[] #[.pointer (some ⟨v.heap.size, 0, none⟩), .pointer (some ⟨Fb, 0, none⟩), .pointer (some ⟨Fe, 0, none⟩)]] w (ResNo v.heap.size (need (mine q xs)) E v) := by
  have hlc : c < v.heap.size := lt_of_heap hc
  have hlS : S < v.heap.size := World.block_lt_of_cell? v _ hS
  have hlb : Fb < v.heap.size := World.block_lt_of_cell? v _ hB
  have hle : Fe < v.heap.size := World.block_lt_of_cell? v _ hE
  have hlL : v.heap.size < w.heap.size := World.block_lt_of_cell? w _ hL
  have hn := need_le xs hok q
  have HSc : Hid (v.cell? ⟨S, 3, none⟩ = some (.pointer (some ⟨c, 0, none⟩)) ∧ v.heap[c]? = some (.cells #[x, y, z] 49 (0, 0)) ∧ v.cell? ⟨Fb, 0, none⟩ = some (.bool true) ∧ v.cell? ⟨Fe, 0, none⟩ = some (.iface 82 (.pointer (some E)))) := ⟨hS, hc, hB, hE⟩
  have HL : Hid (w.cell? ⟨v.heap.size, 0, none⟩ = some (.slice none 0 0) ∧ w.frozen? ⟨v.heap.size, 0, none⟩ = false) := ⟨hL, hz⟩
  clear hS hc hB hE hL hz
  go_enter Ybaf.func8, Ybaf.ntmps8
  go_wp2_with fail
  refine wp_loop_rounds 1 ?_
  rw [rounds_succ]
  go_wp2_with fail
  refine (current_some S c _ ((hvw.cell (p := ⟨S, 3, none⟩) hlS).trans HSc.out.1) (shape_at ((hvw.block _ hlc).trans HSc.out.2.1))).mono ?_
  rintro e w1 ⟨rfl, rfl⟩
  go_wp2_with fail
  refine (mon_yes c gh gc ah ac ch cc p m xs q hq _ (C.below hvw) hp hm).mono ?_
  rintro e w2 ⟨rfl, hb⟩
  have hz2 := hb.size
  have HB2 := hvw.trans (hb.mono hvw.size)
  have hcs := copySize_any c gh gc ah ac ch cc p m xs q hq hp hok _ ((C.below HB2).below ((Below.refl _ _).alloc (Nat.le_refl _) (.cells #[.int .u32 (recOf p m xs q).ns, .int .u32 (recOf p m xs q).ne, .int .u32 (recOf p m xs q).cs, .int .u32 (recOf p m xs q).ce, .bool (recOf p m xs q).mon] 71)))
  generalize (recOf p m xs q).ns = n0 at *
  generalize (recOf p m xs q).ne = n1 at *
  generalize (recOf p m xs q).cs = n2 at *
  generalize (recOf p m xs q).ce = n3 at *
  generalize (recOf p m xs q).mon = n4 at *
  generalize need (mine q xs) = N at *
  go_wp2_with fail
  refine hcs.mono ?_
  rintro e w3 ⟨rfl, hb3⟩
  have h13 := (hb.alloc hz2 _).trans (hb3.mono (by simp; omega))
  have HB3 := hvw.trans (h13.mono hvw.size)
  clear hcs hb3
  go_wp2_with fail
  refine (res_any v.heap.size Fb Fe N true E w3 ((h13.cell (p := ⟨v.heap.size, 0, none⟩) hlL).trans HL.out.1) ?_ ((HB3.cell (p := ⟨Fb, 0, none⟩) hlb).trans HSc.out.2.2.1) ((HB3.cell (p := ⟨Fe, 0, none⟩) hle).trans HSc.out.2.2.2) hlb hle).mono ?_
  · exact (h13.frozen (p := ⟨v.heap.size, 0, none⟩) hlL).trans HL.out.2
  rintro e w4 ⟨rfl, hlog⟩
  have hlog' := hlog.from_ HB3
  clear hlog
  go_wp2
  go_ret2
  exact ⟨rfl, hlog'⟩

set_option maxRecDepth 100000 in
theorem checks_yes (S c gh gc : Nat) (ah ac : Option Addr) (ch cc : Nat) (p m : Nat → Bool) (xs : List Chk) (q : Nat) (hq : q < 4) (hok : okB xs = true) (v w : World) (C : CfgAt v c gh gc ah ac ch cc (St.build p m xs 4)) (hp : p q = true) (hm : m q = true)
    (hS : v.cell? ⟨S, 3, none⟩ = some (.pointer (some ⟨c, 0, none⟩))) (x y z : Value) (hc : v.heap[c]? = some (.cells #[x, y, z] 49 (0, 0))) (hvw : Below v.heap.size v w) (hL : w.cell? ⟨v.heap.size, 0, none⟩ = some (.slice none 0 0)) (hz : w.frozen? ⟨v.heap.size, 0, none⟩ = false) (Fb Fe : Nat) (E : Addr)
    (hB : v.cell? ⟨Fb, 0, none⟩ = some (.bool false)) (hE : v.cell? ⟨Fe, 0, none⟩ = some (.iface 82 (.pointer (some E)))) :
    Calls Ybaf.prog 8 #[.pointer (some ⟨S, 0, none⟩), .string (nameB q), .func (.func 12) #[] #[.pointer (some ⟨v.heap.size, 0, none⟩), .pointer (some ⟨Fb, 0, none⟩), .pointer (some ⟨Fe, 0, none⟩)]] w (ResOk v.heap.size (need (mine q xs)) (mine q xs) v) := by
  have hlc : c < v.heap.size := lt_of_heap hc
  have hlS : S < v.heap.size := World.block_lt_of_cell? v _ hS
  have hlb : Fb < v.heap.size := World.block_lt_of_cell? v _ hB
  have hle : Fe < v.heap.size := World.block_lt_of_cell? v _ hE
  have hlL : v.heap.size < w.heap.size := World.block_lt_of_cell? w _ hL
  have hn := need_le xs hok q
  have HSc : Hid (v.cell? ⟨S, 3, none⟩ = some (.pointer (some ⟨c, 0, none⟩)) ∧ v.heap[c]? = some (.cells #[x, y, z] 49 (0, 0)) ∧ v.cell? ⟨Fb, 0, none⟩ = some (.bool false) ∧ v.cell? ⟨Fe, 0, none⟩ = some (.iface 82 (.pointer (some E)))) := ⟨hS, hc, hB, hE⟩
  have HL : Hid (w.cell? ⟨v.heap.size, 0, none⟩ = some (.slice none 0 0) ∧ w.frozen? ⟨v.heap.size, 0, none⟩ = false) := ⟨hL, hz⟩
  clear hS hc hB hE hL hz
  go_enter Ybaf.func8, Ybaf.ntmps8
  go_wp2_with fail
  refine wp_loop_rounds 2 ?_
  rw [rounds_succ]
  go_wp2_with fail
  refine (current_some S c _ ((hvw.cell (p := ⟨S, 3, none⟩) hlS).trans HSc.out.1) (shape_at ((hvw.block _ hlc).trans HSc.out.2.1))).mono ?_
  rintro e w1 ⟨rfl, rfl⟩
  go_wp2_with fail
  refine (mon_yes c gh gc ah ac ch cc p m xs q hq _ (C.below hvw) hp hm).mono ?_
  rintro e w2 ⟨rfl, hb⟩
  have hz2 := hb.size
  have HB2 := hvw.trans (hb.mono hvw.size)
  have hcs := copySize_any c gh gc ah ac ch cc p m xs q hq hp hok _ ((C.below HB2).below ((Below.refl _ _).alloc (Nat.le_refl _) (.cells #[.int .u32 (recOf p m xs q).ns, .int .u32 (recOf p m xs q).ne, .int .u32 (recOf p m xs q).cs, .int .u32 (recOf p m xs q).ce, .bool (recOf p m xs q).mon] 71)))
  have hcs2 := fun W C' => copySize_any c gh gc ah ac ch cc p m xs q hq hp hok W C'
  have hcc := fun W C' => copyChecks_any c gh gc ah ac ch cc p m xs q hq hp hok W C'
  have hmy := fun W C' => mon_yes c gh gc ah ac ch cc p m xs q hq W C' hp hm
  unfold MonOk at hmy
  generalize (recOf p m xs q).ns = n0 at *
  generalize (recOf p m xs q).ne = n1 at *
  generalize (recOf p m xs q).cs = n2 at *
  generalize (recOf p m xs q).ce = n3 at *
  generalize (recOf p m xs q).mon = n4 at *
  generalize need (mine q xs) = N at *
  have HCC : Hid (∀ W, CfgAt W c gh gc ah ac ch cc (St.build p m xs 4) → Calls Ybaf.prog 17 #[.pointer (some ⟨c, 0, none⟩), .agg #[.int .u32 n0, .int .u32 n1, .int .u32 n2, .int .u32 n3, .bool n4]] W (Copied (mine q xs) W)) := hcc
  have HCS : Hid (∀ W, CfgAt W c gh gc ah ac ch cc (St.build p m xs 4) → Calls Ybaf.prog 16 #[.pointer (some ⟨c, 0, none⟩), .agg #[.int .u32 n0, .int .u32 n1, .int .u32 n2, .int .u32 n3, .bool n4]] W fun e w' => e = .returned (.int .i64 N) ∧ Below W.heap.size W w') := hcs2
  have HMY : Hid (∀ W, CfgAt W c gh gc ah ac ch cc (St.build p m xs 4) → Calls Ybaf.prog 15 #[.pointer (some ⟨c, 0, none⟩), .string (nameB q)] W fun e w' => e = .returned (.tuple #[.agg #[.int .u32 n0, .int .u32 n1, .int .u32 n2, .int .u32 n3, .bool n4], .nilIface]) ∧ Below W.heap.size W w') := fun W C' => hmy W C'
  clear hcc hcs2 hmy
  go_wp2_with fail
  refine hcs.mono ?_
  rintro e w3 ⟨rfl, hb3⟩
  have h13 := (hb.alloc hz2 _).trans (hb3.mono (by simp; omega))
  have HB3 := hvw.trans (h13.mono hvw.size)
  clear hcs hb3
  go_wp2_with fail
  refine (res_any v.heap.size Fb Fe N false E w3 ((h13.cell (p := ⟨v.heap.size, 0, none⟩) hlL).trans HL.out.1) ?_ ((HB3.cell (p := ⟨Fb, 0, none⟩) hlb).trans HSc.out.2.2.1) ((HB3.cell (p := ⟨Fe, 0, none⟩) hle).trans HSc.out.2.2.2) hlb hle).mono ?_
  · exact (h13.frozen (p := ⟨v.heap.size, 0, none⟩) hlL).trans HL.out.2
  rintro e w4 ⟨rfl, hlog⟩
  have hlog' := hlog.from_ HB3
  have HB4 : Below v.heap.size v w4 := by
    obtain ⟨_, _, _, _, _, h⟩ := hlog'
    exact h
  have HLG : Hid (Logged v.heap.size N v w4) := hlog'
  clear hlog hlog'
  go_wp2_with fail
  rw [rounds_succ]
  go_wp2_with fail
  refine (current_some S c _ ((HB4.cell (p := ⟨S, 3, none⟩) hlS).trans HSc.out.1) (shape_at ((HB4.block _ hlc).trans HSc.out.2.1))).mono ?_
  rintro e w5 ⟨rfl, rfl⟩
  go_wp2_with fail
  refine (HMY.out _ (C.below HB4)).mono ?_
  rintro e w6 ⟨rfl, hb6⟩
  have hz6 := hb6.size
  have HB6 := HB4.trans (hb6.mono HB4.size)
  go_wp2_with fail
  refine (HCS.out _ ((C.below HB6).below ((Below.refl _ _).alloc (Nat.le_refl _) _))).mono ?_
  rintro e w7 ⟨rfl, hb7⟩
  have hnew : w7.heap[w6.heap.size]? = some (.cells #[.int .u32 n0, .int .u32 n1, .int .u32 n2, .int .u32 n3, .bool n4] 71 (0, 0)) := by
    rw [hb7.block _ (by simp)]
    exact heap_new _ _ _ rfl
  have h57 := (hb6.alloc hz6 _).trans (hb7.mono (by simp; omega))
  have HB7 := HB4.trans (h57.mono HB4.size)
  have k0 := cell_at (k := 0) hnew rfl
  have k1 := cell_at (k := 1) hnew rfl
  have k2 := cell_at (k := 2) hnew rfl
  have k3 := cell_at (k := 3) hnew rfl
  have k4 := cell_at (k := 4) hnew rfl
  clear hnew hb7
  go_wp2_with fail
  refine (HCC.out _ (C.below HB7)).mono ?_
  rintro e w8 ⟨x8, rfl, hx8, h80, hb8⟩
  have HV : Hid ((mine q xs).length = 0 → x8 = .slice none 0 0) := h80
  clear h80
  go_wp2
  go_ret2
  exact ⟨_, rfl, hx8, HV.out, HLG.out.to (h57.trans (hb8.mono h57.size))⟩

end Go.Proofs.YbulkxmaFmt
