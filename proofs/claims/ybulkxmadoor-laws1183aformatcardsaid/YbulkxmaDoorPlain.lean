/-
  PLAIN LISTS OF BYTES: the decimal model, and strconv's two parsers at base 10, 64 bits. No Go in sight.
-/
import Derived.Lib.ParseIntB
namespace Go.Proofs.YbulkxmaDoor
open Go Go.Lib

/-- the digits' number, digit by digit -/
def dig (acc : Nat) : List UInt8 → Option Nat
  | [] => some acc
  | c :: r => if c.toNat < 48 ∨ 57 < c.toNat then none else if (18446744073709551615 - (c.toNat - 48)) / 10 < acc then none else dig (acc * 10 + (c.toNat - 48)) r

def digits (l : List UInt8) : Option Nat := if l = [] then none else dig 0 l

def unsB (l : List UInt8) : Bool := (digits l).isSome

def within (neg : Bool) : Option Nat → Bool
  | none => false
  | some m => if neg then decide (m ≤ 9223372036854775808) else decide (m ≤ 9223372036854775807)

def sgnB : List UInt8 → Bool
  | [] => false
  | c :: r => if c.toNat = 43 ∨ c.toNat = 45 then within (decide (c.toNat = 45)) (digits r) else within false (digits (c :: r))

/-- the model -/
def modelB (t : Int) (l : List UInt8) : Bool :=
  if t = 3 then decide (l.head?.map (·.toNat) = some 34)
  else if 20 < l.length then false
  else if t = 0 then sgnB l || unsB l
  else if t = 1 then sgnB l
  else if t = 2 then unsB l
  else false

/-- a parse that went well -/
def isOk {α : Type} (x : NumEnd α) : Bool :=
  match x with
  | .ok _ => true
  | _ => false

theorem dig_parse : ∀ (l : List UInt8) (acc : Nat), isOk (parseUintM 18446744073709551615 acc l) = (dig acc l).isSome
  | [], acc => rfl
  | c :: r, acc => by
    unfold parseUintM dig
    by_cases hd : 48 ≤ c.toNat ∧ c.toNat ≤ 57
    · rw [if_pos hd, if_neg (show ¬ (c.toNat < 48 ∨ 57 < c.toNat) by omega)]
      by_cases h : (18446744073709551615 - (c.toNat - 48)) / 10 < acc
      · rw [if_pos h]
        by_cases h1 : 1844674407370955162 ≤ acc
        · rw [if_pos h1]; rfl
        · rw [if_neg h1, if_pos (by omega)]; rfl
      · rw [if_neg h, if_neg (by omega), if_neg (by omega)]
        exact dig_parse r _
    · rw [if_neg hd, if_pos (show c.toNat < 48 ∨ 57 < c.toNat by omega)]
      rfl

theorem dig_val : ∀ (l : List UInt8) (acc u : Nat), parseUintM 18446744073709551615 acc l = .ok u → dig acc l = some u
  | [], acc, u, h => by
    unfold parseUintM at h
    unfold dig
    injection h with h
    rw [h]
  | c :: r, acc, u, h => by
    unfold parseUintM at h
    unfold dig
    by_cases hd : 48 ≤ c.toNat ∧ c.toNat ≤ 57
    · rw [if_pos hd] at h
      rw [if_neg (show ¬ (c.toNat < 48 ∨ 57 < c.toNat) by omega)]
      by_cases h1 : 1844674407370955162 ≤ acc
      · rw [if_pos h1] at h; cases h
      · rw [if_neg h1] at h
        by_cases h2 : 18446744073709551615 < acc * 10 + (c.toNat - 48)
        · rw [if_pos h2] at h; cases h
        · rw [if_neg h2] at h
          rw [if_neg (by omega)]
          exact dig_val r _ u h
    · rw [if_neg hd] at h; cases h

theorem uint_ok (l : List UInt8) : isOk (parseUintB 64 l) = unsB l := by
  unfold parseUintB unsB digits
  by_cases h : l = []
  · rw [if_pos h, if_pos h]; rfl
  · rw [if_neg h, if_neg h]
    exact dig_parse l 0

theorem uint_val (l : List UInt8) (u : Nat) (h : parseUintB 64 l = .ok u) : digits l = some u := by
  unfold parseUintB at h
  unfold digits
  by_cases h0 : l = []
  · rw [if_pos h0] at h; cases h
  · rw [if_neg h0] at h
    rw [if_neg h0]
    exact dig_val l 0 u h

theorem isOk_of {α : Type} {x : NumEnd α} (h : isOk x = true) : ∃ u, x = .ok u := by
  cases x with
  | ok u => exact ⟨u, rfl⟩
  | _ => cases h

theorem none_of {l : List UInt8} (h : isOk (parseUintB 64 l) = false) : digits l = none := by
  rw [uint_ok] at h
  unfold unsB at h
  cases hd : digits l with
  | none => rfl
  | some u => rw [hd] at h; cases h

/-- the sign taken off: what is left decides -/
theorem int_key (neg : Prop) [Decidable neg] (l : List UInt8) (f : NumEnd Nat → NumEnd Int) (hf : ∀ u, f (.ok u) = if ¬ neg ∧ 2 ^ (64 - 1) ≤ u then .range else if neg ∧ 2 ^ (64 - 1) < u then .range else .ok (if neg then -(u : Int) else u))
    (hn : ∀ x, isOk x = false → isOk (f x) = false) : isOk (f (parseUintB 64 l)) = within (decide neg) (digits l) := by
  cases hb : isOk (parseUintB 64 l) with
  | false =>
    rw [hn _ hb, none_of hb]
    rfl
  | true =>
    obtain ⟨u, hu⟩ := isOk_of hb
    rw [hu, uint_val l u hu, hf]
    show _ = (if decide neg then decide (u ≤ 9223372036854775808) else decide (u ≤ 9223372036854775807))
    by_cases h : neg
    · rw [if_neg (fun hh : ¬ neg ∧ 2 ^ (64 - 1) ≤ u => hh.1 h), decide_eq_true h, if_pos rfl]
      by_cases h2 : u ≤ 9223372036854775808
      · rw [if_neg (fun hh : neg ∧ 2 ^ (64 - 1) < u => by have := hh.2; omega), decide_eq_true h2]; rfl
      · rw [if_pos ⟨h, by omega⟩, decide_eq_false h2]; rfl
    · rw [decide_eq_false h, if_neg (show ¬ (false = true) by decide)]
      by_cases h2 : u ≤ 9223372036854775807
      · rw [if_neg (fun hh : ¬ neg ∧ 2 ^ (64 - 1) ≤ u => by have := hh.2; omega), if_neg (fun hh : neg ∧ 2 ^ (64 - 1) < u => h hh.1), decide_eq_true h2]; rfl
      · rw [if_pos ⟨h, by omega⟩, decide_eq_false h2]; rfl

theorem int_ok (l : List UInt8) : isOk (parseIntB 64 l) = sgnB l := by
  cases l with
  | nil => rfl
  | cons c r =>
    have hk := fun l' => int_key (c.toNat = 45) l' (fun x => parseIntB 64 (c :: r) |> fun _ => match x with
      | .ok u => if ¬ (c.toNat = 45) ∧ 2 ^ (64 - 1) ≤ u then .range else if c.toNat = 45 ∧ 2 ^ (64 - 1) < u then .range else .ok (if c.toNat = 45 then -(u : Int) else u)
      | .range => .range
      | _ => .range) (fun u => rfl) (fun x hx => by cases x with | ok u => cases hx | _ => rfl)
    have h2 : ∀ l', isOk (match parseUintB 64 l' with
      | .ok u => if ¬ (c.toNat = 45) ∧ 2 ^ (64 - 1) ≤ u then (NumEnd.range : NumEnd Int) else if c.toNat = 45 ∧ 2 ^ (64 - 1) < u then .range else .ok (if c.toNat = 45 then -(u : Int) else u)
      | .range => .range
      | _ => .range) = within (decide (c.toNat = 45)) (digits l') := hk
    have h3 : isOk (parseIntB 64 (c :: r)) = within (decide (c.toNat = 45)) (digits (if c.toNat = 43 ∨ c.toNat = 45 then r else c :: r)) := by
      rw [← h2]
      unfold parseIntB
      dsimp only
      cases parseUintB 64 (if c.toNat = 43 ∨ c.toNat = 45 then r else c :: r) with
      | ok u => rfl
      | _ => rfl
    rw [h3]
    show _ = (if c.toNat = 43 ∨ c.toNat = 45 then within (decide (c.toNat = 45)) (digits r) else within false (digits (c :: r)))
    by_cases hs : c.toNat = 43 ∨ c.toNat = 45
    · rw [if_pos hs, if_pos hs]
    · rw [if_neg hs, if_neg hs, decide_eq_false (fun h => hs (Or.inr h))]

/-- holds -/
def holdsB (t : Int) (l : List UInt8) : Bool :=
  if t = 3 then decide (l.head?.map (·.toNat) = some 34)
  else if 20 < l.length then false
  else if t = 0 then isOk (parseIntB 64 l) || isOk (parseUintB 64 l)
  else if t = 1 then isOk (parseIntB 64 l)
  else if t = 2 then isOk (parseUintB 64 l)
  else false

theorem holds_model (t : Int) (l : List UInt8) : holdsB t l = modelB t l := by
  unfold holdsB modelB
  rw [int_ok, uint_ok]
end Go.Proofs.YbulkxmaDoor
