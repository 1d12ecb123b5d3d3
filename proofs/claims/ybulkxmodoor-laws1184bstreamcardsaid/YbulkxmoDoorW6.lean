/-
  take and the law's own bit.
-/
import Derived.Test.YbulkxmoDoorBits2
import Derived.Test.YbulkxmoDoorW5
set_option linter.unusedSimpArgs false
namespace Go.Proofs.YbulkxmoDoor
open Go.RowKit

/-- what take leaves -/
def Taken (s : Nat) (src : List UInt8) (ch con n : Nat) (b : Addr) (w : World) (e : Ending) (w' : World) : Prop :=
  (8 * src.length < con + n ∧ Below s w w' ∧ e = .returned (.tuple #[.int .u32 0, .iface 46 (.pointer (some b))])) ∨
    ∃ y, At s w' src ch y ∧ Inv src (con + n) y ∧ y.nb ≤ 64 ∧ Below s w w' ∧ e = .returned (.tuple #[.int .u32 (bitsAt src con n), .nilIface])

theorem take_at {s : Nat} {w : World} {src : List UInt8} {ch : Nat} {y : Sd} (A : At s w src ch y) (Q N : Nat) :
    At s ((w.setCell ⟨s + 3, 6, none⟩ (.int .u64 Q)).setCell ⟨s + 3, 7, none⟩ (.int .u64 N)) src ch { y with bits := Q, nb := N } ∧
      Below s w ((w.setCell ⟨s + 3, 6, none⟩ (.int .u64 Q)).setCell ⟨s + 3, 7, none⟩ (.int .u64 N)) := by
  obtain ⟨A1, B1⟩ := A.put 6 (.int .u64 Q) { y with bits := Q } rfl rfl rfl
  obtain ⟨A2, B2⟩ := A1.put 7 (.int .u64 N) { y with bits := Q, nb := N } rfl rfl rfl
  exact ⟨A2, B1.trans B2⟩

theorem Inv.taken {src : List UInt8} {con n : Nat} {y : Sd} (I : Inv src con y) (hb : Buf src (con + n) (y.rp - (y.n - y.dp)) y.pd (y.nb - n) (y.bits / 2 ^ n)) :
    Inv src (con + n) { y with bits := y.bits / 2 ^ n, nb := y.nb - n } :=
  ⟨hb, I.dn, I.n23, I.nr, I.rl, I.bl, I.bytes, I.eof, I.pad⟩

set_option maxRecDepth 100000 in
set_option maxHeartbeats 2000000 in
theorem take_any (s : Nat) (src : List UInt8) (ch con n : Nat) (x : Sd) (w : World) (A : At s w src ch x) (I : Inv src con x) (hl : src.length ≤ 1024) (hch0 : 1 ≤ ch) (hch : ch ≤ 16) (hnb : x.nb ≤ 64) (hcon : con ≤ 100000) (hn : n ≤ 32) (a b : Addr) (hE : Env s w a b) :
    Calls Ybad.prog 5 #[.pointer (some ⟨s + 3, 0, none⟩), .int .u64 n] w (Taken s src ch con n b w) := by
  have hp32 : (2 : Nat) ^ n ≤ 2 ^ 32 := Nat.pow_le_pow_right (by omega) hn
  have hp0 : 0 < (2 : Nat) ^ n := Nat.pow_pos (by omega)
  have d7 := A.d7
  by_cases hlt : x.nb < n
  · have hlt' : decide ((x.nb : Int) < (n : Int)) = true := decide_eq_true (by omega)
    go_enter Ybad.func5, Ybad.ntmps5
    go_wp2_with fail
    refine (refill_any s src ch con x w A I hl hch0 hch hnb hcon a b hE).mono ?_
    rintro e w1 ⟨y, A1, I1, h56, hy64, B1, rfl⟩
    have hny : n ≤ y.nb := by omega
    have hs := I1.buf.sum
    have hpad := I1.buf.pad
    clear d7
    by_cases hp : y.nb < 8 * y.pd
    · rw [if_pos hp]
      go_wp2_with fail
      go_ret2
      exact .inl ⟨by have := hpad (by omega); omega, B1, rfl⟩
    rw [if_neg hp]
    have d6 := A1.d6
    have d7 := A1.d7
    have z6 := A1.z 6
    have z7 := A1.z 7
    have hlt64 : y.bits < 2 ^ 64 := Nat.lt_of_lt_of_le I1.buf.lt (Nat.pow_le_pow_right (by omega) hy64)
    obtain ⟨hbv, hbt⟩ := I1.buf.take n hny
    obtain ⟨V, hV⟩ : ∃ V, V = bitsAt src con n := ⟨_, rfl⟩
    obtain ⟨Q, hQ⟩ : ∃ Q, Q = y.bits / 2 ^ n := ⟨_, rfl⟩
    have hsh : IntKind.u64.wrap (2 ^ n : Int) = ((2 ^ n : Nat) : Int) := by
      rw [IntKind.wrap_u64, show ((2 : Int) ^ n) = ((2 ^ n : Nat) : Int) by push_cast; rfl]
      omega
    have hV64 : V < 2 ^ n := by rw [hV]; exact bitsAt_lt _ _ _
    have hand := and_u64 y.bits n hlt64 hn
    rw [hbv, ← hV] at hand
    have hcv : IntKind.u32.wrap (V : Int) = (V : Int) := by rw [IntKind.wrap_u32]; omega
    have hsb : IntKind.u64.wrap ((y.nb : Int) - n) = ((y.nb - n : Nat) : Int) := by rw [IntKind.wrap_u64]; omega
    have hshr : ((y.bits : Int) / 2 ^ n) = (Q : Int) := by rw [hQ]; push_cast; rfl
    have hnI : (n : Int) ≤ 64 := by omega
    have hs1 : IntKind.u64.wrap ((2 : Int) ^ n - 1) = ((2 ^ n - 1 : Nat) : Int) := by
      rw [IntKind.wrap_u64, show ((2 : Int) ^ n) = ((2 ^ n : Nat) : Int) by push_cast; rfl]
      omega
    have hm32 : (V : Int) % 4294967296 = (V : Int) := by omega
    have HF := take_at A1 Q (y.nb - n)
    have hI := I1.taken hbt
    rw [← hQ] at hI
    clear hbv hbt hQ hV64 hp32 hp0
    go_wp2_with fail
    go_ret2
    refine .inr ⟨_, HF.1, hI, by show y.nb - n ≤ 64; omega, B1.trans HF.2, ?_⟩
    rfl
  · have hlt' : decide ((x.nb : Int) < (n : Int)) = false := decide_eq_false (by omega)
    obtain ⟨y, hy⟩ : ∃ y, y = x := ⟨_, rfl⟩
    have A1 := A
    have I1 := I
    have hy64 : y.nb ≤ 64 := by rw [hy]; exact hnb
    have hny : n ≤ y.nb := by rw [hy]; omega
    have B1 : Below s w w := Below.refl _ _
    rw [← hy] at A1 I1
    subst hy
    clear A I
    have d6 := A1.d6
    have d7 := A1.d7
    have z6 := A1.z 6
    have z7 := A1.z 7
    have hlt64 : y.bits < 2 ^ 64 := Nat.lt_of_lt_of_le I1.buf.lt (Nat.pow_le_pow_right (by omega) hy64)
    obtain ⟨hbv, hbt⟩ := I1.buf.take n hny
    obtain ⟨V, hV⟩ : ∃ V, V = bitsAt src con n := ⟨_, rfl⟩
    obtain ⟨Q, hQ⟩ : ∃ Q, Q = y.bits / 2 ^ n := ⟨_, rfl⟩
    have hsh : IntKind.u64.wrap (2 ^ n : Int) = ((2 ^ n : Nat) : Int) := by
      rw [IntKind.wrap_u64, show ((2 : Int) ^ n) = ((2 ^ n : Nat) : Int) by push_cast; rfl]
      omega
    have hV64 : V < 2 ^ n := by rw [hV]; exact bitsAt_lt _ _ _
    have hand := and_u64 y.bits n hlt64 hn
    rw [hbv, ← hV] at hand
    have hcv : IntKind.u32.wrap (V : Int) = (V : Int) := by rw [IntKind.wrap_u32]; omega
    have hsb : IntKind.u64.wrap ((y.nb : Int) - n) = ((y.nb - n : Nat) : Int) := by rw [IntKind.wrap_u64]; omega
    have hshr : ((y.bits : Int) / 2 ^ n) = (Q : Int) := by rw [hQ]; push_cast; rfl
    have hnI : (n : Int) ≤ 64 := by omega
    have hs1 : IntKind.u64.wrap ((2 : Int) ^ n - 1) = ((2 ^ n - 1 : Nat) : Int) := by
      rw [IntKind.wrap_u64, show ((2 : Int) ^ n) = ((2 ^ n : Nat) : Int) by push_cast; rfl]
      omega
    have hm32 : (V : Int) % 4294967296 = (V : Int) := by omega
    have HF := take_at A1 Q (y.nb - n)
    have hI := I1.taken hbt
    rw [← hQ] at hI
    clear hbv hbt hQ hV64 hp32 hp0
    go_enter Ybad.func5, Ybad.ntmps5
    go_wp2_with fail
    go_ret2
    refine .inr ⟨_, HF.1, hI, by show y.nb - n ≤ 64; omega, B1.trans HF.2, ?_⟩
    rfl

set_option maxRecDepth 100000 in
theorem bit_any (s : Nat) (src : List UInt8) (ch : Nat) (x : Sd) (w : World) (A : At s w src ch x) (hl : src.length ≤ 1024) (i : Nat) (hi : i ≤ 1000000) :
    Calls Ybad.prog 6 #[.slice (some ⟨s, 0, none⟩) src.length src.length, .int .u64 i] w fun e w' => e = .returned (.bool (decide (bitN src i = 1))) ∧ w' = w := by
  obtain ⟨q, hq⟩ : ∃ q, q = i / 8 := ⟨_, rfl⟩
  obtain ⟨r, hr⟩ : ∃ r, r = i % 8 := ⟨_, rfl⟩
  have hqI : (i : Int) / 8 = (q : Int) := by omega
  have hrI : (i : Int) % 8 = (r : Int) := by omega
  have hr8 : r < 8 := by omega
  by_cases hge : src.length ≤ q
  · have hgeI : decide ((src.length : Int) ≤ (q : Int)) = true := decide_eq_true (by omega)
    have hb := bit_out src i (by rw [← hq]; exact hge)
    have hbd : decide (bitN src i = 1) = false := by rw [hb]; rfl
    rw [hbd]
    clear hb hbd hq hr
    go_enter Ybad.func6, Ybad.ntmps6
    go_wp2_with fail
    go_ret
    exact ⟨rfl, rfl⟩
  · have hgeI : decide ((src.length : Int) ≤ (q : Int)) = false := decide_eq_false (by omega)
    have hlt : (q : Int) < (src.length : Int) := by omega
    obtain ⟨Y, hY⟩ : ∃ Y, src[q]? = some Y := ⟨src[q]'(by omega), List.getElem?_eq_getElem _⟩
    have hby : w.cell? ⟨s, q, none⟩ = some (.int .u8 Y.toNat) := cell_at A.sb (by simp [bvl, List.getElem?_map, hY])
    have hYl := Y.toNat_lt
    have hb := bit_in src i (by omega)
    have hY2 : src[i / 8]'(by omega) = Y := by
      rw [hq, List.getElem?_eq_getElem (by omega)] at hY
      exact Option.some.inj hY
    rw [hY2, ← hr] at hb
    obtain ⟨Z, hZ⟩ : ∃ Z, Z = Y.toNat / 2 ^ r := ⟨_, rfl⟩
    have hZl : Z < 256 := by rw [hZ]; exact Nat.lt_of_le_of_lt (Nat.div_le_self _ _) hYl
    have hsh : (Y.toNat : Int) / 2 ^ r = (Z : Int) := by rw [hZ]; push_cast; rfl
    have hand := and_u8 Z hZl
    rw [← hZ] at hb
    have hbd : decide (bitN src i = 1) = (((Z % 2 : Nat) : Int) == 1) := by
      rw [hb, Bool.eq_iff_iff]
      simp only [decide_eq_true_eq, beq_iff_eq]
      omega
    obtain ⟨T, hT⟩ : ∃ T, T = Z % 2 := ⟨_, rfl⟩
    rw [← hT] at hand hbd
    rw [hbd]
    have hr8I : (r : Int) ≤ 8 := by omega
    clear hb hbd hq hr hY hY2 hZ hT
    go_enter Ybad.func6, Ybad.ntmps6
    go_wp2_with fail
    go_ret
    exact ⟨rfl, rfl⟩
end Go.Proofs.YbulkxmoDoor
