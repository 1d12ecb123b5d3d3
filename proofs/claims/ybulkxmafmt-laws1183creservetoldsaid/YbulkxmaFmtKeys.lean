/-
  THE PLAIN LAW OF THE SEARCH: which host of the table is found by a name.
-/
import Derived.Test.YbulkxmaFmtPlain
import Derived.Lib.Bytealg
namespace Go.Proofs.YbulkxmaFmt

def cmpN (a b : Nat) : Int := if a < b then -1 else if a = b then 0 else 1

theorem cmp_name : ∀ a b : Fin 5, Lib.compareBytes (nameOf (a.val : Int)) (nameOf (b.val : Int)) = cmpN a.val b.val := by decide

theorem cmp_names {a b : Nat} (ha : a ≤ 4) (hb : b ≤ 4) : Lib.compareBytes (nameOf a) (nameOf b) = cmpN a b := cmp_name ⟨a, by omega⟩ ⟨b, by omega⟩

/-- how the host at place i compares with host number q -/
def keyAt (p : Nat → Bool) (q i : Nat) : Int := cmpN ((ids p 4).getD i 9) q

section
variable (p m : Nat → Bool) (xs : List Chk)

theorem hosts_len : (St.build p m xs 4).hosts.length = (ids p 4).length := by rw [hosts_eq]; simp

theorem host_get (i : Nat) (hi : i < (St.build p m xs 4).hosts.length) : (St.build p m xs 4).hosts[i] = recOf p m xs ((ids p 4).getD i 9) := by
  have hi' : i < (ids p 4).length := by rw [hosts_len] at hi; exact hi
  have e : (St.build p m xs 4).hosts[i]? = some (recOf p m xs ((ids p 4).getD i 9)) := by
    rw [hosts_eq, List.getElem?_map, List.getElem?_eq_getElem hi']
    simp [List.getD, List.getElem?_eq_getElem hi']
  rw [List.getElem?_eq_getElem hi] at e
  exact Option.some.inj e

theorem id_mem (i : Nat) (hi : i < (ids p 4).length) : (ids p 4).getD i 9 ∈ ids p 4 := by
  simp [List.getD, List.getElem?_eq_getElem hi]

theorem name_span (h : Nat) (hh : h < 4) (hp : p h = true) : (recOf p m xs h).ns ≤ (recOf p m xs h).ne ∧ (recOf p m xs h).ne ≤ (St.build p m xs 4).b.length ∧
    ((St.build p m xs 4).b.drop (recOf p m xs h).ns).take ((recOf p m xs h).ne - (recOf p m xs h).ns) = nameOf h := by
  obtain ⟨r1, r3, e1, _⟩ := around p m xs 4 h hh hp
  have hl := nameOf_len (h : Int)
  refine ⟨by simp [recOf], ?_, ?_⟩
  · rw [e1]
    simp [recOf, hl]
  · rw [e1]
    simp only [recOf, List.append_assoc]
    rw [List.drop_left]
    have : (St.build p m xs h).b.length + 1 - (St.build p m xs h).b.length = (nameOf (h : Int)).length := by omega
    rw [this, List.take_left]

theorem spans (i : Nat) (hi : i < (St.build p m xs 4).hosts.length) : (St.build p m xs 4).hosts[i].ns ≤ (St.build p m xs 4).hosts[i].ne ∧ (St.build p m xs 4).hosts[i].ne ≤ (St.build p m xs 4).b.length := by
  have hi' : i < (ids p 4).length := by rw [hosts_len] at hi; exact hi
  obtain ⟨h1, h2⟩ := ids_lt p 4 _ (id_mem p i hi')
  rw [host_get p m xs i hi]
  have := name_span p m xs _ h1 h2
  exact ⟨this.1, this.2.1⟩

theorem keys (q : Nat) (hq : q ≤ 4) (i : Nat) (hi : i < (St.build p m xs 4).hosts.length) :
    keyAt p q i = Lib.compareBytes (((St.build p m xs 4).b.drop (St.build p m xs 4).hosts[i].ns).take ((St.build p m xs 4).hosts[i].ne - (St.build p m xs 4).hosts[i].ns)) (nameOf q) := by
  have hi' : i < (ids p 4).length := by rw [hosts_len] at hi; exact hi
  obtain ⟨h1, h2⟩ := ids_lt p 4 _ (id_mem p i hi')
  rw [host_get p m xs i hi, (name_span p m xs _ h1 h2).2.2, cmp_names (by omega) hq]
  rfl

theorem ids_lt_of (i j : Nat) (hij : i < j) (hj : j < (ids p 4).length) : (ids p 4).getD i 9 < (ids p 4).getD j 9 := by
  have := List.pairwise_iff_getElem.1 (ids_sorted p 4) i j (by omega) hj hij
  simpa [List.getD, List.getElem?_eq_getElem hj, List.getElem?_eq_getElem (show i < (ids p 4).length by omega)] using this

theorem keys_mono (q : Nat) (i j : Nat) (hij : i ≤ j) (hj : j < (St.build p m xs 4).hosts.length) (hk : keyAt p q j < 0) : keyAt p q i < 0 := by
  rw [hosts_len] at hj
  rcases Nat.lt_or_eq_of_le hij with h | rfl
  · have := ids_lt_of p i j h hj
    unfold keyAt cmpN at hk ⊢
    split at hk
    · rw [if_pos (by omega)]; omega
    · split at hk <;> omega
  · exact hk

theorem found_yes (q i : Nat) (hq : q < 4) (hp : p q = true) (hi : i ≤ (St.build p m xs 4).hosts.length) (h1 : ∀ j, j < i → keyAt p q j < 0) (h2 : ∀ j, i ≤ j → j < (St.build p m xs 4).hosts.length → 0 ≤ keyAt p q j) :
    ∃ hi' : i < (St.build p m xs 4).hosts.length, (decide (i < (St.build p m xs 4).hosts.length) && (keyAt p q i == 0)) = true ∧ (St.build p m xs 4).hosts[i] = recOf p m xs q := by
  obtain ⟨k, hk, hkq⟩ := List.getElem_of_mem (ids_mem p 4 q hq hp)
  have hkd : (ids p 4).getD k 9 = q := by simp [List.getD, List.getElem?_eq_getElem hk, hkq]
  have hk0 : keyAt p q k = 0 := by unfold keyAt cmpN; rw [hkd]; simp
  rw [hosts_len] at hi h2
  have hik : i = k := by
    rcases Nat.lt_trichotomy i k with h | h | h
    · have hl := ids_lt_of p i k h hk
      rw [hkd] at hl
      have := h2 i (Nat.le_refl _) (by omega)
      unfold keyAt cmpN at this
      rw [if_pos hl] at this
      omega
    · exact h
    · have := h1 k h
      omega
  subst hik
  have hlt : i < (St.build p m xs 4).hosts.length := by rw [hosts_len]; exact hk
  refine ⟨hlt, by simp [hlt, hk0], ?_⟩
  rw [host_get p m xs i hlt, hkd]

theorem found_no (q i : Nat) (hq : ¬ (q < 4 ∧ p q = true)) : (decide (i < (St.build p m xs 4).hosts.length) && (keyAt p q i == 0)) = false := by
  by_cases hi : i < (St.build p m xs 4).hosts.length
  · have hi' : i < (ids p 4).length := by rw [hosts_len] at hi; exact hi
    obtain ⟨h1, h2⟩ := ids_lt p 4 _ (id_mem p i hi')
    have hne : (ids p 4).getD i 9 ≠ q := fun e => hq ⟨by omega, by rw [← e]; exact h2⟩
    have : keyAt p q i ≠ 0 := by
      unfold keyAt cmpN
      rw [if_neg hne]
      split <;> omega
    simp [this]
  · simp [hi]
end
end Go.Proofs.YbulkxmaFmt
