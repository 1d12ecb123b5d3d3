/-
  A DECIMAL NUMERAL IS HELD. No Go in sight.
-/
import Derived.Test.YbulkxmaDoorPlain
import Derived.Lib.ItoaMem
namespace Go.Proofs.YbulkxmaDoor
open Go Go.Lib

theorem dig_snoc (c : UInt8) (hc : 48 ≤ c.toNat ∧ c.toNat ≤ 57) : ∀ (l : List UInt8) (acc m : Nat), dig acc l = some m → m * 10 + (c.toNat - 48) ≤ 18446744073709551615 → dig acc (l ++ [c]) = some (m * 10 + (c.toNat - 48))
  | [], acc, m, h, hm => by
    unfold dig at h
    injection h with h
    subst h
    show dig acc [c] = _
    unfold dig
    rw [if_neg (by omega), if_neg (by omega)]
    rfl
  | d :: r, acc, m, h, hm => by
    unfold dig at h
    rw [List.cons_append]
    unfold dig
    split at h
    · cases h
    · rename_i h1
      rw [if_neg h1]
      split at h
      · cases h
      · rename_i h2
        rw [if_neg h2]
        exact dig_snoc c hc r _ m h hm

theorem digit_nat (k : Nat) (h : k < 10) : (UInt8.ofNat (48 + k)).toNat = 48 + k := by
  rw [UInt8.toNat_ofNat_of_lt' (by show 48 + k < 256; omega)]

theorem dec_ne (u : Nat) : decDigits u ≠ [] := by
  rw [decDigits]
  split
  · simp
  · simp

theorem dig_dec : ∀ (n u : Nat), u < n → u ≤ 18446744073709551615 → dig 0 (decDigits u) = some u := by
  intro n
  induction n with
  | zero => intro u h; omega
  | succ n ih =>
    intro u h hu
    rw [decDigits]
    split
    · rename_i h10
      have := digit_nat u h10
      unfold dig
      rw [this, if_neg (by omega), if_neg (by omega)]
      show some _ = _
      congr 1
      omega
    · rename_i h10
      have hd := digit_nat (u % 10) (by omega)
      have := dig_snoc (UInt8.ofNat (48 + u % 10)) (by rw [hd]; omega) (decDigits (u / 10)) 0 (u / 10) (ih (u / 10) (by omega) (by omega)) (by rw [hd]; omega)
      rw [this, hd]
      congr 1
      omega

theorem digits_dec (u : Nat) (hu : u ≤ 18446744073709551615) : digits (decDigits u) = some u := by
  unfold digits
  rw [if_neg (dec_ne u)]
  exact dig_dec (u + 1) u (by omega) hu

/-- a numeral's first byte is a digit -/
theorem dec_head : ∀ (n u : Nat), u < n → ∃ c r, decDigits u = c :: r ∧ 48 ≤ c.toNat ∧ c.toNat ≤ 57 := by
  intro n
  induction n with
  | zero => intro u h; omega
  | succ n ih =>
    intro u h
    rw [decDigits]
    split
    · rename_i h10
      exact ⟨_, [], rfl, by rw [digit_nat u h10]; omega, by rw [digit_nat u h10]; omega⟩
    · obtain ⟨c, r, hc, h1, h2⟩ := ih (u / 10) (by omega)
      exact ⟨c, r ++ [UInt8.ofNat (48 + u % 10)], by rw [hc]; rfl, h1, h2⟩

theorem dec_len : ∀ (k u : Nat), u < 10 ^ (k + 1) → (decDigits u).length ≤ k + 1 := by
  intro k
  induction k with
  | zero =>
    intro u h
    rw [decDigits, dif_pos (by simpa using h)]
    simp
  | succ k ih =>
    intro u h
    rw [decDigits]
    split
    · simp
    · have := ih (u / 10) (by rw [Nat.pow_succ] at h; omega)
      simp
      omega

theorem sgn_dec (u : Nat) (hu : u ≤ 18446744073709551615) : sgnB (decDigits u) = decide (u ≤ 9223372036854775807) := by
  obtain ⟨c, r, hc, h1, h2⟩ := dec_head (u + 1) u (by omega)
  have hd := digits_dec u hu
  rw [hc] at hd ⊢
  show (if c.toNat = 43 ∨ c.toNat = 45 then within (decide (c.toNat = 45)) (digits r) else within false (digits (c :: r))) = _
  rw [if_neg (by omega), hd]
  rfl

theorem sgn_neg (u : Nat) (hu : u ≤ 9223372036854775808) : sgnB (45 :: decDigits u) = true := by
  have hd := digits_dec u (by omega)
  show (if (45 : UInt8).toNat = 43 ∨ (45 : UInt8).toNat = 45 then within (decide ((45 : UInt8).toNat = 45)) (digits (decDigits u)) else within false (digits (45 :: decDigits u))) = _
  rw [hd, if_pos (show (45 : UInt8).toNat = 43 ∨ (45 : UInt8).toNat = 45 from Or.inr rfl)]
  show (if decide ((45 : UInt8).toNat = 45) then decide (u ≤ 9223372036854775808) else decide (u ≤ 9223372036854775807)) = _
  rw [if_pos (by decide), decide_eq_true hu]

theorem uns_neg (l : List UInt8) : unsB (45 :: l) = false := by
  unfold unsB digits
  rw [if_neg (by simp)]
  unfold dig
  rw [if_pos (Or.inl (by decide))]
  rfl

theorem uns_dec (u : Nat) (hu : u ≤ 18446744073709551615) : unsB (decDigits u) = true := by
  unfold unsB
  rw [digits_dec u hu]
  rfl

theorem holds_dec (u : Nat) (hu : u ≤ 18446744073709551615) : holdsB 2 (decDigits u) = true ∧ holdsB 0 (decDigits u) = true ∧ holdsB 3 (decDigits u) = false ∧ holdsB 1 (decDigits u) = decide (u ≤ 9223372036854775807) := by
  have hl : ¬ 20 < (decDigits u).length := by have := dec_len 19 u (by omega); omega
  obtain ⟨c, r, hc, h1, h2⟩ := dec_head (u + 1) u (by omega)
  refine ⟨?_, ?_, ?_, ?_⟩
  · rw [holds_model]; unfold modelB; rw [if_neg (by omega), if_neg hl, if_neg (by omega), if_neg (by omega), if_pos rfl]; exact uns_dec u hu
  · rw [holds_model]; unfold modelB; rw [if_neg (by omega), if_neg hl, if_pos rfl, uns_dec u hu]; simp
  · unfold holdsB; rw [if_pos rfl, hc]; simp; omega
  · rw [holds_model]; unfold modelB; rw [if_neg (by omega), if_neg hl, if_neg (by omega), if_pos rfl]; exact sgn_dec u hu

theorem holds_itoa (n : Int) (h0 : -9223372036854775808 ≤ n) (h1 : n ≤ 9223372036854775807) : holdsB 1 (itoa n) = true ∧ holdsB 0 (itoa n) = true ∧ holdsB 3 (itoa n) = false ∧ holdsB 2 (itoa n) = decide (0 ≤ n) := by
  by_cases hn : n < 0
  · obtain ⟨u, rfl⟩ : ∃ u : Nat, n = -(u : Int) := ⟨n.natAbs, by omega⟩
    rw [itoa_neg u (by omega)]
    have hl : ¬ 20 < (45 :: decDigits u).length := by have := dec_len 18 u (by omega); simp; omega
    refine ⟨?_, ?_, ?_, ?_⟩
    · rw [holds_model]; unfold modelB; rw [if_neg (by omega), if_neg hl, if_neg (by omega), if_pos rfl]; exact sgn_neg u (by omega)
    · rw [holds_model]; unfold modelB; rw [if_neg (by omega), if_neg hl, if_pos rfl, sgn_neg u (by omega)]; rfl
    · unfold holdsB; rw [if_pos rfl]; rfl
    · rw [holds_model]; unfold modelB; rw [if_neg (by omega), if_neg hl, if_neg (by omega), if_neg (by omega), if_pos rfl, uns_neg, decide_eq_false (by omega)]
  · obtain ⟨u, rfl⟩ : ∃ u : Nat, n = (u : Int) := ⟨n.toNat, by omega⟩
    rw [itoa_nonneg u]
    obtain ⟨a, b, c, d⟩ := holds_dec u (by omega)
    exact ⟨by rw [d, decide_eq_true (by omega)], b, c, by rw [a, decide_eq_true (by omega)]⟩
end Go.Proofs.YbulkxmaDoor
