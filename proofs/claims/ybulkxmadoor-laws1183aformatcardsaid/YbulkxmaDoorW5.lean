/-
  LawS1183AFormat walked.
-/
import Derived.Test.YbulkxmaDoorW4
import Derived.Test.YbulkxmaDoorFmtPlain
import Derived.Lib.ConvBytes
import Derived.Lib.AtoiErrMem
namespace Go.Proofs.YbulkxmaDoor
open Go.RowKit

theorem conv_str (l : List UInt8) (W : World) : ∃ C W', (convert 9 22 (.string ⟨l.toArray⟩)).run Ybad.prog W = .ok (.slice (some ⟨W.heap.size, 0, none⟩) l.length C) W' ∧ Bts W' (some ⟨W.heap.size, 0, none⟩) W.heap.size 0 C l ∧ Below W.heap.size W W' := by
  have hs : (⟨l.toArray⟩ : ByteArray).size = l.length := by simp [ByteArray.size]
  have h := Lib.run_convert_string_bytes (P := Ybad.prog) W 9 22 5 ⟨l.toArray⟩ Ybad.underlying9 Ybad.underlying22 Ybad.underlying5
  refine ⟨grownCap W (⟨l.toArray⟩ : ByteArray).size 0 5, _, by rw [h, hs], ⟨fun _ => rfl, fun i hi => ?_, ?_⟩, Lib.bytesWorld_below _ _ _⟩
  · rw [Nat.zero_add, Lib.bytesWorld_cell W 5 ⟨l.toArray⟩ i (by omega)]
    simp [List.getD, List.getElem?_eq_getElem hi]
  · have := grownCap_ge W (⟨l.toArray⟩ : ByteArray).size 0 5
    omega

theorem Ybad.gT : Ybad.prog.globalNamed tabName = some 1 := by kernel_rfl

theorem tab_below {w w' : World} (h : Lib.TabIs Ybad.prog w tabName .u64 Lib.pow10Tab) (hb : Below w.heap.size w w') : Lib.TabIs Ybad.prog w' tabName .u64 Lib.pow10Tab := Joins.tab_stays Ybad.gT h hb (Nat.le_refl _)

set_option maxRecDepth 100000 in
set_option maxHeartbeats 4000000 in
theorem fmt_walk (n : Int) (u : Nat) (h0 : -9223372036854775808 ≤ n) (h1 : n ≤ 9223372036854775807) (hu : u ≤ 18446744073709551615) (w : World) (hE : Errs w) (htab : Lib.TabIs Ybad.prog w tabName .u64 Lib.pow10Tab) :
    Calls Ybad.prog 5 #[.int .i64 n, .int .u64 u] w fun e w' => e = .returned (.bool true) ∧ Below w.heap.size w w' := by
  have hT : Hid (Lib.TabIs Ybad.prog w tabName .u64 Lib.pow10Tab) := htab
  clear htab
  obtain ⟨i1, i0, i3, i2⟩ := holds_itoa n h0 h1
  obtain ⟨d2, d0, d3, d1⟩ := holds_dec u hu
  have il : (Lib.itoa n).length ≤ 4096 := by
    by_cases hn : n < 0
    · obtain ⟨k, rfl⟩ : ∃ k : Nat, n = -(k : Int) := ⟨n.natAbs, by omega⟩
      rw [Lib.itoa_neg k (by omega)]
      have := dec_len 18 k (by omega)
      simp
      omega
    · obtain ⟨k, rfl⟩ : ∃ k : Nat, n = (k : Int) := ⟨n.toNat, by omega⟩
      rw [Lib.itoa_nonneg k]
      have := dec_len 19 k (by omega)
      omega
  have dl : (Lib.decDigits u).length ≤ 4096 := by have := dec_len 19 u (by omega); omega
  go_enter Ybad.func5, Ybad.ntmps5
  go_wp2_with fail
  refine (formatInt_any n h0 h1 w hT.out).mono ?_
  rintro e w1 ⟨rfl, hb1⟩
  obtain ⟨C1, W1, hc1, hB1, hbc1⟩ := conv_str (Lib.itoa n) w1
  generalize Lib.itoa n = I at *
  have HB1 := hb1.trans (hbc1.mono hb1.size)
  go_wp2_with fail
  refine (holds_any 1 _ _ _ _ I W1 hB1 il (hE.below HB1)).mono ?_
  rintro e w2 ⟨rfl, hb2⟩
  rw [i1]
  have HB2 := HB1.trans (hb2.mono HB1.size)
  have hB2 := hB1.below hb2
  clear hc1 hb1 hbc1
  go_wp2_with fail
  refine (holds_any 0 _ _ _ _ I w2 hB2 il (hE.below HB2)).mono ?_
  rintro e w3 ⟨rfl, hb3⟩
  rw [i0]
  have HB3 := HB2.trans (hb3.mono HB2.size)
  have hB3 := hB2.below hb3
  go_wp2_with fail
  refine (holds_any 3 _ _ _ _ I w3 hB3 il (hE.below HB3)).mono ?_
  rintro e w4 ⟨rfl, hb4⟩
  rw [i3]
  have HB4 := HB3.trans (hb4.mono HB3.size)
  have hB4 := hB3.below hb4
  go_wp2_with fail
  refine (holds_any 2 _ _ _ _ I w4 hB4 il (hE.below HB4)).mono ?_
  rintro e w5 ⟨rfl, hb5⟩
  rw [i2]
  have HB5 := HB4.trans (hb5.mono HB4.size)
  clear hb2 hb3 hb4 hb5 HB1 HB2 HB3 HB4 hB1 hB2 hB3 hB4 i0 i1 i2 i3
  go_wp2_with fail
  refine (formatUint_any u (by omega) w5 (tab_below hT.out HB5)).mono ?_
  rintro e w6 ⟨rfl, hb6⟩
  obtain ⟨C2, W6, hc6, hB6, hbc6⟩ := conv_str (Lib.decDigits u) w6
  generalize Lib.decDigits u = D at *
  have HB6 := (HB5.trans (hb6.mono HB5.size)).trans (hbc6.mono (HB5.trans (hb6.mono HB5.size)).size)
  clear hb6 hbc6
  go_wp2_with fail
  refine (holds_any 2 _ _ _ _ D W6 hB6 dl (hE.below HB6)).mono ?_
  rintro e w7 ⟨rfl, hb7⟩
  rw [d2]
  have HB7 := HB6.trans (hb7.mono HB6.size)
  have hB7 := hB6.below hb7
  clear hc6
  go_wp2_with fail
  refine (holds_any 0 _ _ _ _ D w7 hB7 dl (hE.below HB7)).mono ?_
  rintro e w8 ⟨rfl, hb8⟩
  rw [d0]
  have HB8 := HB7.trans (hb8.mono HB7.size)
  have hB8 := hB7.below hb8
  go_wp2_with fail
  refine (holds_any 3 _ _ _ _ D w8 hB8 dl (hE.below HB8)).mono ?_
  rintro e w9 ⟨rfl, hb9⟩
  rw [d3]
  have HB9 := HB8.trans (hb9.mono HB8.size)
  have hB9 := hB8.below hb9
  go_wp2_with fail
  refine (holds_any 1 _ _ _ _ D w9 hB9 dl (hE.below HB9)).mono ?_
  rintro e wa ⟨rfl, hba⟩
  rw [d1]
  have HBa := HB9.trans (hba.mono HB9.size)
  go_wp2
  go_ret
  exact ⟨by simp; omega, HBa⟩
end Go.Proofs.YbulkxmaDoor
