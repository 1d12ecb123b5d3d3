/-
  The model and holds.
-/
import Derived.Test.YbulkxmaDoorW1
import Derived.Test.YbulkxmaDoorShelf
import Derived.Laws.BytesArg
namespace Go.Proofs.YbulkxmaDoor
open Go.RowKit

theorem t_ne {t k : Int} (h : t ≠ k) : (t == k) = false := by rw [beq_eq_false_iff_ne]; exact h

theorem beq34 (n : Nat) : ((n : Int) == 34) = decide (n = 34) := by
  rw [Bool.eq_iff_iff]
  simp
  omega

set_option maxRecDepth 100000 in
set_option maxHeartbeats 1000000 in
theorem model_any (t : Int) (a : Option Addr) (b o cap : Nat) (l : List UInt8) (w : World) (h : Bts w a b o cap l) (hl : l.length ≤ 4096) :
    Calls Ybad.prog 9 #[.int .i64 t, .slice a l.length cap] w fun e w' => e = .returned (.bool (modelB t l)) ∧ w' = w := by
  have HS := sgn_any a b o cap l w h hl
  have HU := uns_any a b o cap l w h hl
  by_cases h3 : t = 3
  · subst h3
    cases l with
    | nil =>
      go_enter Ybad.func9, Ybad.ntmps9
      go_wp2
      go_ret
      exact ⟨rfl, rfl⟩
    | cons c r =>
      have hc0 := h.cells 0 (by simp)
      simp only [List.getElem_cons_zero, Nat.add_zero] at hc0
      obtain rfl : a = some ⟨b, o, none⟩ := h.ad (by simp)
      simp only [List.length_cons] at hl ⊢
      clear HS HU
      go_enter Ybad.func9, Ybad.ntmps9
      go_wp2
      go_ret
      exact ⟨by simp [modelB, beq34], rfl⟩
  · by_cases hlen : 20 < l.length
    · clear HS HU
      have := t_ne h3
      go_enter Ybad.func9, Ybad.ntmps9
      go_wp2
      go_ret
      exact ⟨by simp [modelB, h3, hlen], rfl⟩
    · have n3 := t_ne h3
      by_cases h0 : t = 0
      · subst h0
        go_enter Ybad.func9, Ybad.ntmps9
        go_wp2_with fail
        refine HS.mono ?_
        rintro e w1 ⟨rfl, rfl⟩
        cases hs : sgnB l
        · go_wp2_with fail
          refine HU.mono ?_
          rintro e w1 ⟨rfl, rfl⟩
          go_wp2
          go_ret
          exact ⟨by simp [modelB, hlen, hs], rfl⟩
        · go_wp2
          go_ret
          exact ⟨by simp [modelB, hlen, hs], rfl⟩
      · have n0 := t_ne h0
        by_cases h1 : t = 1
        · subst h1
          go_enter Ybad.func9, Ybad.ntmps9
          go_wp2_with fail
          refine HS.mono ?_
          rintro e w1 ⟨rfl, rfl⟩
          go_wp2
          go_ret
          exact ⟨by simp [modelB, hlen], rfl⟩
        · have n1 := t_ne h1
          by_cases h2 : t = 2
          · subst h2
            go_enter Ybad.func9, Ybad.ntmps9
            go_wp2_with fail
            refine HU.mono ?_
            rintro e w1 ⟨rfl, rfl⟩
            go_wp2
            go_ret
            exact ⟨by simp [modelB, hlen], rfl⟩
          · have n2 := t_ne h2
            clear HS HU
            go_enter Ybad.func9, Ybad.ntmps9
            go_wp2
            go_ret
            exact ⟨by simp [modelB, h0, h1, h2, h3, hlen], rfl⟩

/-- the two errors of strconv lie where the program's text lays them -/
structure Errs (w : World) : Prop where
  syn : ∃ t p, w.cell? ⟨2, 0, none⟩ = some (.iface t p)
  ran : ∃ t p, w.cell? ⟨3, 0, none⟩ = some (.iface t p)

theorem Errs.below {w w' : World} (h : Errs w) (b : Below w.heap.size w w') : Errs w' := by
  obtain ⟨t, p, h1⟩ := h.syn
  obtain ⟨u, q, h2⟩ := h.ran
  exact ⟨⟨t, p, (b.cell (World.block_lt_of_cell? w _ h1)).trans h1⟩, ⟨u, q, (b.cell (World.block_lt_of_cell? w _ h2)).trans h2⟩⟩

theorem conv_bts {w : World} {a : Option Addr} {b o cap : Nat} {l : List UInt8} (h : Bts w a b o cap l) : (convert 22 9 (.slice a l.length cap)).run Ybad.prog w = .ok (.string ⟨l.toArray⟩) w := by
  have he : Ybad.prog.underlying 5 = some (.int .u8) := Ybad.underlying5
  cases l with
  | nil =>
    cases a with
    | none => exact run_convert_bytes_nil w 22 5 Ybad.underlying22 he _ _ 9 Ybad.underlying9
    | some x =>
      rw [run_convert_bytes_string w 22 9 5 _ _ _ Ybad.underlying22 he Ybad.underlying9, run_bytesToString w _ _ _ [] (by rfl)]
      rfl
  | cons c r =>
    obtain rfl := h.ad (by simp)
    have := run_convert_bytes_arg w 22 5 Ybad.underlying22 he b o (c :: r).length cap ((c :: r).map fun x => (x.toNat : Int)) (by simp) (fun i hi => by
      rw [h.cells i hi, List.getD, List.getElem?_map, List.getElem?_eq_getElem hi]
      rfl) 9 Ybad.underlying9
    rw [this]
    have e : strOfNums ((c :: r).map fun x => (x.toNat : Int)) = ⟨(c :: r).toArray⟩ := by
      unfold strOfNums
      congr 1
      rw [List.map_map]
      congr 1
      rw [show ((fun n : Int => UInt8.ofNat n.toNat) ∘ fun x : UInt8 => (x.toNat : Int)) = id by funext x; simp]
      simp
    rw [e]

/-- what a parse comes to: whether there is an error -/
def Parsed (ok : Bool) (w : World) (e : Ending) (w' : World) : Prop :=
  ∃ v x, e = .returned (.tuple #[v, x]) ∧ (if ok then x = .nilIface else ∃ N, x = .iface 67 (.pointer (some N))) ∧ Below w.heap.size w w'

theorem parseInt_any (l : List UInt8) (hl : l.length ≤ 4096) (w : World) (hE : Errs w) : Calls Ybad.prog 18 #[.string ⟨l.toArray⟩, .int .i64 10, .int .i64 64] w (Parsed (isOk (Lib.parseIntB 64 l)) w) := by
  have hs : (⟨l.toArray⟩ : ByteArray).size = l.length := by simp [ByteArray.size]
  have hd : (⟨l.toArray⟩ : ByteArray).data.toList = l := rfl
  obtain ⟨t, p, h1⟩ := hE.syn
  obtain ⟨u, q, h2⟩ := hE.ran
  cases hp : Lib.parseIntB 64 l with
  | ok v =>
    refine (Ybad.strconv_ParseInt_10_at64_ok ⟨l.toArray⟩ (by omega) v (by rw [hd]; exact hp) w).mono ?_
    rintro e w' ⟨rfl, hw⟩
    refine ⟨_, _, rfl, rfl, ?_⟩
    rcases hw with rfl | ⟨s, rfl⟩
    · exact Below.refl _ _
    · exact Lib.bytesWorld_below _ _ _
  | range =>
    refine (Go.Proofs.Any.strconv_ParseInt_10_at64_range Ybad.laysC174 ⟨l.toArray⟩ (by omega) (by rw [hd]; exact hp) _ w h2 (Or.inr ⟨u, q, rfl⟩)).mono ?_
    rintro e w' ⟨N, rfl, _, _, hb⟩
    exact ⟨_, _, rfl, ⟨_, rfl⟩, hb⟩
  | _ =>
    refine (Go.Proofs.Any.strconv_ParseInt_10_at64_syntax Ybad.laysC174 ⟨l.toArray⟩ (by omega) (by rw [hd]; exact hp) _ w h1 (Or.inr ⟨t, p, rfl⟩)).mono ?_
    rintro e w' ⟨N, rfl, _, _, hb⟩
    exact ⟨_, _, rfl, ⟨_, rfl⟩, hb⟩

theorem parseUint_any (l : List UInt8) (hl : l.length ≤ 4096) (w : World) (hE : Errs w) : Calls Ybad.prog 19 #[.string ⟨l.toArray⟩, .int .i64 10, .int .i64 64] w (Parsed (isOk (Lib.parseUintB 64 l)) w) := by
  have hs : (⟨l.toArray⟩ : ByteArray).size = l.length := by simp [ByteArray.size]
  have hd : (⟨l.toArray⟩ : ByteArray).data.toList = l := rfl
  obtain ⟨t, p, h1⟩ := hE.syn
  obtain ⟨u, q, h2⟩ := hE.ran
  cases hp : Lib.parseUintB 64 l with
  | ok v =>
    refine (Ybad.strconv_ParseUint_10_at64_ok ⟨l.toArray⟩ (by omega) v (by rw [hd]; exact hp) w).mono ?_
    rintro e w' ⟨rfl, hw⟩
    refine ⟨_, _, rfl, rfl, ?_⟩
    rcases hw with rfl | rfl
    · exact Below.refl _ _
    · exact Lib.bytesWorld_below _ _ _
  | range =>
    refine (Go.Proofs.Any.strconv_ParseUint_10_at64_range Ybad.laysPu14 ⟨l.toArray⟩ (by omega) (by rw [hd]; exact hp) _ w h2 (Or.inr ⟨u, q, rfl⟩)).mono ?_
    rintro e w' ⟨N, rfl, _, _, hb⟩
    exact ⟨_, _, rfl, ⟨_, rfl⟩, hb⟩
  | _ =>
    refine (Go.Proofs.Any.strconv_ParseUint_10_at64_syntax Ybad.laysPu14 ⟨l.toArray⟩ (by omega) (by rw [hd]; exact hp) _ w h1 (Or.inr ⟨t, p, rfl⟩)).mono ?_
    rintro e w' ⟨N, rfl, _, _, hb⟩
    exact ⟨_, _, rfl, ⟨_, rfl⟩, hb⟩

set_option maxRecDepth 100000 in
theorem holds_two (a : Option Addr) (b o cap : Nat) (l : List UInt8) (w : World) (h : Bts w a b o cap l) (hl : l.length ≤ 4096) (hE : Errs w) :
    Calls Ybad.prog 8 #[.int .i64 2, .slice a l.length cap] w fun e w' => e = .returned (.bool (holdsB 2 l)) ∧ Below w.heap.size w w' := by
  have hcv := conv_bts h
  have HP := parseUint_any l hl w hE
  by_cases hlen : 20 < l.length
  · clear HP
    go_enter Ybad.func8, Ybad.ntmps8
    go_wp2
    go_ret
    exact ⟨by simp [holdsB, hlen], Below.refl _ _⟩
  · go_enter Ybad.func8, Ybad.ntmps8
    go_wp2_with fail
    refine HP.mono ?_
    rintro e w1 ⟨v, x, rfl, hx, hb⟩
    cases hk : isOk (Lib.parseUintB 64 l)
    · rw [hk] at hx
      obtain ⟨N, rfl⟩ := hx
      go_wp2
      go_ret
      exact ⟨by simp [holdsB, hlen, hk], hb⟩
    · rw [hk] at hx
      have hx' : x = .nilIface := hx
      subst hx'
      clear hx
      go_wp2
      go_ret
      exact ⟨by simp [holdsB, hlen, hk], hb⟩

set_option maxRecDepth 100000 in
set_option maxHeartbeats 1000000 in
theorem holds_any (t : Int) (a : Option Addr) (b o cap : Nat) (l : List UInt8) (w : World) (h : Bts w a b o cap l) (hl : l.length ≤ 4096) (hE : Errs w) :
    Calls Ybad.prog 8 #[.int .i64 t, .slice a l.length cap] w fun e w' => e = .returned (.bool (holdsB t l)) ∧ Below w.heap.size w w' := by
  by_cases h3 : t = 3
  · subst h3
    cases l with
    | nil =>
      go_enter Ybad.func8, Ybad.ntmps8
      go_wp2
      go_ret
      exact ⟨rfl, Below.refl _ _⟩
    | cons c r =>
      have hc0 := h.cells 0 (by simp)
      simp only [List.getElem_cons_zero, Nat.add_zero] at hc0
      obtain rfl : a = some ⟨b, o, none⟩ := h.ad (by simp)
      simp only [List.length_cons] at hl ⊢
      go_enter Ybad.func8, Ybad.ntmps8
      go_wp2
      go_ret
      exact ⟨by simp [holdsB, beq34], Below.refl _ _⟩
  · by_cases h2 : t = 2
    · subst h2
      exact holds_two a b o cap l w h hl hE
    · have n3 := t_ne h3
      have n2 := t_ne h2
      by_cases hlen : 20 < l.length
      · go_enter Ybad.func8, Ybad.ntmps8
        go_wp2
        go_ret
        exact ⟨by simp [holdsB, h3, hlen], Below.refl _ _⟩
      · have hcv := conv_bts h
        have HP := parseInt_any l hl w hE
        have HT : Hid (∀ W, Below w.heap.size w W → Calls Ybad.prog 8 #[.int .i64 2, .slice a l.length cap] W fun e w' => e = .returned (.bool (holdsB 2 l)) ∧ Below W.heap.size W w') := fun W hW => holds_two a b o cap l W (h.below hW) hl (hE.below hW)
        by_cases h0 : t = 0
        · subst h0
          go_enter Ybad.func8, Ybad.ntmps8
          go_wp2_with fail
          refine HP.mono ?_
          rintro e w1 ⟨v, x, rfl, hx, hb⟩
          cases hk : isOk (Lib.parseIntB 64 l)
          · rw [hk] at hx
            obtain ⟨N, rfl⟩ := hx
            go_wp2_with fail
            refine (HT.out _ hb).mono ?_
            rintro e w2 ⟨rfl, hb2⟩
            have HB := hb.trans (hb2.mono hb.size)
            go_wp2
            go_ret
            exact ⟨by simp [holdsB, hlen, hk], HB⟩
          · rw [hk] at hx
            have hx' : x = .nilIface := hx
            subst hx'
            clear hx
            go_wp2
            go_ret
            exact ⟨by simp [holdsB, hlen, hk], hb⟩
        · have n0 := t_ne h0
          by_cases h1 : t = 1
          · subst h1
            go_enter Ybad.func8, Ybad.ntmps8
            go_wp2_with fail
            refine HP.mono ?_
            rintro e w1 ⟨v, x, rfl, hx, hb⟩
            cases hk : isOk (Lib.parseIntB 64 l)
            · rw [hk] at hx
              obtain ⟨N, rfl⟩ := hx
              go_wp2
              go_ret
              exact ⟨by simp [holdsB, hlen, hk], hb⟩
            · rw [hk] at hx
              have hx' : x = .nilIface := hx
              subst hx'
              clear hx
              go_wp2
              go_ret
              exact ⟨by simp [holdsB, hlen, hk], hb⟩
          · have n1 := t_ne h1
            go_enter Ybad.func8, Ybad.ntmps8
            go_wp2
            go_ret
            exact ⟨by simp [holdsB, h0, h1, h2, h3, hlen], Below.refl _ _⟩

set_option maxRecDepth 100000 in
theorem law_any (k : Int) (a : Option Addr) (b o cap : Nat) (l : List UInt8) (w : World) (h : Bts w a b o cap l) (hm : l.length ≤ maxLen) (hE : Errs w) :
    Calls Ybad.prog 3 #[.int .i64 k, .slice a l.length cap] w fun e w' => e = .returned (.bool true) ∧ Below w.heap.size w w' := by
  unfold maxLen at hm
  by_cases hl : l.length ≤ 1024
  · go_enter Ybad.func3, Ybad.ntmps3
    go_wp2_with fail
    refine (holds_any k a b o cap l w h (by omega) hE).mono ?_
    rintro e w1 ⟨rfl, hb⟩
    rw [holds_model]
    go_wp2_with fail
    refine (model_any k a b o cap l w1 (h.below hb) (by omega)).mono ?_
    rintro e w2 ⟨rfl, rfl⟩
    go_wp2
    go_ret
    exact ⟨by simp, hb⟩
  · go_enter Ybad.func3, Ybad.ntmps3
    go_wp2
    go_ret
    exact ⟨rfl, Below.refl _ _⟩
end Go.Proofs.YbulkxmaDoor
