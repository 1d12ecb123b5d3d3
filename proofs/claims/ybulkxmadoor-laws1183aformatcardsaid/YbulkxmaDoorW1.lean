/-
  A SLICE OF BYTES IN MEMORY; the decimal model walked: zzs1183adigits, zzs1183asigned, zzs1183aunsigned, zzs1183amodel.
-/
import Derived.Test.YbulkxmaDoorRows
import Derived.Test.YbulkxmaDoorPlain
import Derived.WalkKit
import Derived.ProofKit
import Derived.Deep.Slices
import Derived.Laws.IdiomArrays
import Derived.WalkSpells
import Derived.WalkLawsBesides
namespace Go.Proofs.YbulkxmaDoor
open Go.RowKit

/-- the bytes l, behind a slice's address -/
structure Bts (w : World) (a : Option Addr) (b o cap : Nat) (l : List UInt8) : Prop where
  ad : l ≠ [] → a = some ⟨b, o, none⟩
  cells : ∀ i (hi : i < l.length), w.cell? ⟨b, o + i, none⟩ = some (.int .u8 (l[i].toNat : Int))
  lc : l.length ≤ cap

theorem Bts.below {w w' : World} {a : Option Addr} {b o cap : Nat} {l : List UInt8} (h : Bts w a b o cap l) (hb : Below w.heap.size w w') : Bts w' a b o cap l :=
  ⟨h.ad, fun i hi => (hb.cell (World.block_lt_of_cell? w _ (h.cells i hi))).trans (h.cells i hi), h.lc⟩

theorem Bts.tail {w : World} {a : Option Addr} {b o cap : Nat} {c : UInt8} {r : List UInt8} (h : Bts w a b o cap (c :: r)) : Bts w (some ⟨b, o + 1, none⟩) b (o + 1) (cap - 1) r :=
  ⟨fun _ => rfl, fun i hi => by
    have := h.cells (i + 1) (by simpa using hi)
    rw [show o + 1 + i = o + (i + 1) by omega, this]
    simp, by have := h.lc; simp at this; omega⟩

theorem run_at22 {a : Option Addr} {b o : Nat} (ha : a = some ⟨b, o, none⟩) (len cap k : Nat) (i : Int) (hi : i = k) (hk : k < len) (w : World) :
    (Instr.indexAt 22 (.slice a len cap) (.int .i64 i)).run Ybad.prog w = .ok (.pointer (some ⟨b, o + k, none⟩)) w := by
  subst ha hi
  have hk' : (0 : Int) ≤ (k : Int) ∧ (k : Int) < (len : Int) := ⟨by omega, by omega⟩
  rw [run_indexAt_slice _ _ _ _ _ _ _ (by rw [Ybad.underlying22]; rfl), if_pos hk']
  have : (sizeOf (Ybad.prog.elem 22)).run Ybad.prog w = .ok 1 w := by kernel_rfl
  rw [this]
  simp [Result.andThen, Addr.add]

theorem byte_le (c : UInt8) : c.toNat ≤ 255 := by have := c.toNat_lt; omega

/-- what zzs1183adigits returns -/
def digV (o : Option Nat) : Value :=
  match o with
  | some n => .tuple #[.int .u64 n, .bool true]
  | none => .tuple #[.int .u64 0, .bool false]

theorem dig_le : ∀ (l : List UInt8) (acc n : Nat), acc ≤ 18446744073709551615 → dig acc l = some n → n ≤ 18446744073709551615
  | [], acc, n, ha, h => by unfold dig at h; injection h with h; omega
  | c :: r, acc, n, ha, h => by
    unfold dig at h
    split at h
    · cases h
    · split at h
      · cases h
      · exact dig_le r _ n (by omega) h

set_option maxRecDepth 100000 in
theorem digits_any (a : Option Addr) (b o cap : Nat) (l : List UInt8) (w : World) (h : Bts w a b o cap l) (hl : l.length ≤ 4096) :
    Calls Ybad.prog 30 #[.slice a l.length cap] w fun e w' => e = .returned (digV (digits l)) ∧ w' = w := by
  by_cases h0 : l = []
  · subst h0
    go_enter Ybad.func30, Ybad.ntmps30
    go_wp2
    go_ret2
    exact ⟨rfl, rfl⟩
  · have hA : Hid (a = some ⟨b, o, none⟩) := h.ad h0
    have hpos : 0 < l.length := List.length_pos_iff.2 h0
    have hn0 : ((l.length : Int) == 0) = false := by rw [beq_eq_false_iff_ne]; omega
    have HC : Hid (Bts w a b o cap l) := h
    clear h
    go_enter Ybad.func30, Ybad.ntmps30
    go_wp2
    go_loopw [4, 5] (fun n i wr => ∃ k m : Nat, k ≤ l.length ∧ i = .int .i64 k ∧ n = .int .u64 m ∧ m ≤ 18446744073709551615 ∧ Hid (dig 0 l = dig m (l.drop k)) ∧ wr = w) (fun _ i _ => l.length - (intOf i).toNat)
    case atStart => exact ⟨0, 0, by omega, rfl, rfl, by omega, rfl, rfl⟩
    case round =>
      obtain ⟨k, m, hk, rfl, rfl, hm, hd, rfl⟩ := hrel
      by_cases hlt : k < l.length
      · have hix := run_at22 hA.out l.length cap k (k : Int) rfl hlt
        have hc := HC.out.cells k hlt
        have hdk : Hid (dig m (l.drop k) = if l[k].toNat < 48 ∨ 57 < l[k].toNat then none else if (18446744073709551615 - (l[k].toNat - 48)) / 10 < m then none else dig (m * 10 + (l[k].toNat - 48)) (l.drop (k + 1))) := by
          rw [List.drop_eq_getElem_cons hlt]
          rfl
        have hb := byte_le l[k]
        generalize l[k] = c at *
        go_wp2
        all_goals first
          | (go_ret2
             refine ⟨?_, rfl⟩
             rw [digits, if_neg h0, hd.out, hdk.out]
             first | (rw [if_pos (by omega)]; rfl) | (rw [if_neg (by omega), if_pos (by omega)]; rfl))
          | (go_roundw
             case rel => exact ⟨k + 1, m * 10 + (c.toNat - 48), by omega, by go_num, by congr 1; omega, by omega, (by rw [hd.out, hdk.out, if_neg (by omega), if_neg (by omega)] : dig 0 l = _), trivial⟩
             case measure => simp [intOf]; omega)
      · go_wp2
        go_ret2
        refine ⟨?_, rfl⟩
        have : k = l.length := by omega
        subst this
        rw [digits, if_neg h0, hd.out, List.drop_length]
        rfl

set_option maxRecDepth 100000 in
theorem uns_any (a : Option Addr) (b o cap : Nat) (l : List UInt8) (w : World) (h : Bts w a b o cap l) (hl : l.length ≤ 4096) :
    Calls Ybad.prog 21 #[.slice a l.length cap] w fun e w' => e = .returned (.bool (unsB l)) ∧ w' = w := by
  go_enter Ybad.func21, Ybad.ntmps21
  go_wp2_with fail
  refine (digits_any a b o cap l _ h hl).mono ?_
  rintro e w1 ⟨rfl, rfl⟩
  cases hd : digits l with
  | none =>
    unfold digV
    dsimp only
    go_wp2
    go_ret
    exact ⟨by simp [unsB, hd], rfl⟩
  | some n =>
    unfold digV
    dsimp only
    go_wp2
    go_ret
    exact ⟨by simp [unsB, hd], rfl⟩

set_option maxRecDepth 100000 in
set_option maxHeartbeats 1000000 in
theorem sgn_any (a : Option Addr) (b o cap : Nat) (l : List UInt8) (w : World) (h : Bts w a b o cap l) (hl : l.length ≤ 4096) :
    Calls Ybad.prog 20 #[.slice a l.length cap] w fun e w' => e = .returned (.bool (sgnB l)) ∧ w' = w := by
  cases l with
  | nil =>
    have hd := digits_any a b o cap [] w h hl
    go_enter Ybad.func20, Ybad.ntmps20
    go_wp2_with fail
    refine hd.mono ?_
    rintro e w1 ⟨rfl, rfl⟩
    rw [show digV (digits ([] : List UInt8)) = .tuple #[.int .u64 0, .bool false] from rfl]
    go_wp2
    go_ret
    exact ⟨rfl, rfl⟩
  | cons c r =>
    have hlc := h.lc
    have hc0 := h.cells 0 (by simp)
    simp only [List.getElem_cons_zero, Nat.add_zero] at hc0
    have hD := digits_any a b o cap (c :: r) w h hl
    have hD2 := digits_any _ b (o + 1) (cap - 1) r w h.tail (by simp at hl; omega)
    obtain rfl : a = some ⟨b, o, none⟩ := h.ad (by simp)
    simp only [List.length_cons] at hlc hD hl ⊢
    have hbb := byte_le c
    have hs2 : ∀ n : Nat, digits (c :: r) = some n → n ≤ 18446744073709551615 := fun n hn => dig_le _ 0 n (by omega) (by simpa [digits] using hn)
    have hs3 : ∀ n : Nat, digits r = some n → n ≤ 18446744073709551615 := fun n hn => by
      unfold digits at hn
      split at hn
      · cases hn
      · exact dig_le _ 0 n (by omega) hn
    by_cases hcap : cap = 1
    · have hr : r = [] := List.length_eq_zero_iff.1 (by omega)
      subst hr hcap
      have hD1 : Calls Ybad.prog 30 #[.slice (some ⟨b, o, none⟩) 0 0] w fun e w' => e = .returned (.tuple #[.int .u64 0, .bool false]) ∧ w' = w := digits_any (some ⟨b, o, none⟩) b o 0 [] w ⟨fun _ => rfl, fun i hi => by simp at hi, by simp⟩ (by simp)
      clear hD2
      by_cases hp : c.toNat = 43
      · rw [hp] at hc0
        go_enter Ybad.func20, Ybad.ntmps20
        go_wp2_with fail
        refine hD1.mono ?_
        rintro e w1 ⟨rfl, rfl⟩
        go_wp2
        go_ret
        exact ⟨by simp [sgnB, hp, digits, within], rfl⟩
      · by_cases hq : c.toNat = 45
        · rw [hq] at hc0
          go_enter Ybad.func20, Ybad.ntmps20
          go_wp2_with fail
          refine hD1.mono ?_
          rintro e w1 ⟨rfl, rfl⟩
          go_wp2
          go_ret
          exact ⟨by simp [sgnB, hq, digits, within], rfl⟩
        · have n1 : ((c.toNat : Int) == 43) = false := by rw [beq_eq_false_iff_ne]; omega
          have n2 : ((c.toNat : Int) == 45) = false := by rw [beq_eq_false_iff_ne]; omega
          go_enter Ybad.func20, Ybad.ntmps20
          go_wp2_with fail
          refine hD.mono ?_
          rintro e w1 ⟨rfl, rfl⟩
          cases hd : digits [c] with
          | none =>
            unfold digV
            dsimp only
            go_wp2
            go_ret
            exact ⟨by simp [sgnB, hp, hq, hd, within], rfl⟩
          | some n =>
            have hn := hs2 n hd
            unfold digV
            dsimp only
            go_wp2
            go_ret
            exact ⟨by simp [sgnB, hp, hq, hd, within]; try omega, rfl⟩
    · have hcn : cap - 1 ≠ 0 := by omega
      by_cases hp : c.toNat = 43
      · rw [hp] at hc0
        go_enter Ybad.func20, Ybad.ntmps20
        go_wp2_with fail
        refine hD2.mono ?_
        rintro e w1 ⟨rfl, rfl⟩
        cases hd : digits r with
        | none =>
          unfold digV
          dsimp only
          go_wp2
          go_ret
          exact ⟨by simp [sgnB, hp, hd, within], rfl⟩
        | some n =>
          have hn := hs3 n hd
          unfold digV
          dsimp only
          go_wp2
          go_ret
          exact ⟨by simp [sgnB, hp, hd, within]; try omega, rfl⟩
      · by_cases hq : c.toNat = 45
        · rw [hq] at hc0
          go_enter Ybad.func20, Ybad.ntmps20
          go_wp2_with fail
          refine hD2.mono ?_
          rintro e w1 ⟨rfl, rfl⟩
          cases hd : digits r with
          | none =>
            unfold digV
            dsimp only
            go_wp2
            go_ret
            exact ⟨by simp [sgnB, hq, hd, within], rfl⟩
          | some n =>
            have hn := hs3 n hd
            unfold digV
            dsimp only
            go_wp2
            go_ret
            exact ⟨by simp [sgnB, hq, hd, within]; try omega, rfl⟩
        · have n1 : ((c.toNat : Int) == 43) = false := by rw [beq_eq_false_iff_ne]; omega
          have n2 : ((c.toNat : Int) == 45) = false := by rw [beq_eq_false_iff_ne]; omega
          go_enter Ybad.func20, Ybad.ntmps20
          go_wp2_with fail
          refine hD.mono ?_
          rintro e w1 ⟨rfl, rfl⟩
          cases hd : digits (c :: r) with
          | none =>
            unfold digV
            dsimp only
            go_wp2
            go_ret
            exact ⟨by simp [sgnB, hp, hq, hd, within], rfl⟩
          | some n =>
            have hn := hs2 n hd
            unfold digV
            dsimp only
            go_wp2
            go_ret
            exact ⟨by simp [sgnB, hp, hq, hd, within]; try omega, rfl⟩
end Go.Proofs.YbulkxmaDoor
