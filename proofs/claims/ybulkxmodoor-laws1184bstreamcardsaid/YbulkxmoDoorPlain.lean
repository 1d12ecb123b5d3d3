/-
  A STREAM OF BITS, LEAST SIGNIFICANT FIRST: plain numbers. No Go in sight.
-/
import Derived.Lib.ParseIntB
namespace Go.Proofs.YbulkxmoDoor

/-- the bytes as one number, the first byte the lowest -/
def num : List UInt8 → Nat
  | [] => 0
  | b :: r => b.toNat + 256 * num r

theorem pow8 (k : Nat) : 2 ^ (8 * (k + 1)) = 256 * 2 ^ (8 * k) := by
  rw [show 8 * (k + 1) = 8 + 8 * k by omega, Nat.pow_add]

theorem num_append : ∀ (a b : List UInt8), num (a ++ b) = num a + 2 ^ (8 * a.length) * num b
  | [], b => by simp [num]
  | x :: r, b => by
    show x.toNat + 256 * num (r ++ b) = x.toNat + 256 * num r + 2 ^ (8 * (r.length + 1)) * num b
    rw [num_append r b, pow8, Nat.mul_add, Nat.mul_assoc, Nat.add_assoc]

theorem num_lt : ∀ l : List UInt8, num l < 2 ^ (8 * l.length)
  | [] => by simp [num]
  | x :: r => by
    have h1 := num_lt r
    have h2 := x.toNat_lt
    show x.toNat + 256 * num r < 2 ^ (8 * (r.length + 1))
    rw [pow8]
    generalize 2 ^ (8 * r.length) = K at *
    omega

theorem num_take (l : List UInt8) (c : Nat) (hc : c ≤ l.length) : num (l.take c) = num l % 2 ^ (8 * c) := by
  have h := num_append (l.take c) (l.drop c)
  rw [List.take_append_drop] at h
  have hl : (l.take c).length = c := by simp; omega
  rw [hl] at h
  have hlt := num_lt (l.take c)
  rw [hl] at hlt
  rw [h, Nat.add_mul_mod_self_left, Nat.mod_eq_of_lt hlt]

theorem num_drop (l : List UInt8) (c : Nat) (hc : c ≤ l.length) : num l / 2 ^ (8 * c) = num (l.drop c) := by
  have h := num_append (l.take c) (l.drop c)
  rw [List.take_append_drop] at h
  have hl : (l.take c).length = c := by simp; omega
  rw [hl] at h
  have hlt := num_lt (l.take c)
  rw [hl] at hlt
  rw [h, Nat.add_mul_div_left _ _ (Nat.pow_pos (by omega)), Nat.div_eq_of_lt hlt, Nat.zero_add]

/-- a bit of the stream -/
def bitN (l : List UInt8) (i : Nat) : Nat := num l / 2 ^ i % 2

theorem byte_bit (x t r : Nat) (hr : r < 8) : (x + 256 * t) / 2 ^ r % 2 = x / 2 ^ r % 2 := by
  have : r = 0 ∨ r = 1 ∨ r = 2 ∨ r = 3 ∨ r = 4 ∨ r = 5 ∨ r = 6 ∨ r = 7 := by omega
  rcases this with rfl | rfl | rfl | rfl | rfl | rfl | rfl | rfl <;> simp <;> omega

theorem bit_in (l : List UInt8) (i : Nat) (h : i / 8 < l.length) : bitN l i = l[i / 8].toNat / 2 ^ (i % 8) % 2 := by
  unfold bitN
  have e : i = 8 * (i / 8) + i % 8 := by omega
  have h1 : num l / 2 ^ i = num (l.drop (i / 8)) / 2 ^ (i % 8) := by
    rw [← num_drop l (i / 8) (by omega), Nat.div_div_eq_div_mul, ← Nat.pow_add, ← e]
  rw [h1, List.drop_eq_getElem_cons h]
  exact byte_bit _ _ _ (by omega)

theorem bit_out (l : List UInt8) (i : Nat) (h : l.length ≤ i / 8) : bitN l i = 0 := by
  unfold bitN
  rw [Nat.div_eq_of_lt]
  exact Nat.lt_of_lt_of_le (num_lt l) (Nat.pow_le_pow_right (by omega) (by omega))

/-- the next n bits, from place c on -/
def bitsAt (l : List UInt8) (c n : Nat) : Nat := num l / 2 ^ c % 2 ^ n

theorem bitsAt_zero (l : List UInt8) (c : Nat) : bitsAt l c 0 = 0 := by simp [bitsAt, Nat.mod_one]

theorem bitsAt_lt (l : List UInt8) (c n : Nat) : bitsAt l c n < 2 ^ n := Nat.mod_lt _ (Nat.pow_pos (by omega))

theorem bitsAt_succ (l : List UInt8) (c n : Nat) : bitsAt l c (n + 1) = bitsAt l c n + 2 ^ n * bitN l (c + n) := by
  unfold bitsAt bitN
  rw [Nat.mod_pow_succ, Nat.div_div_eq_div_mul, ← Nat.pow_add]

/-- The bit buffer: c bytes of the input have gone in, then p bytes of nought; nb bits of them are left. -/
structure Buf (src : List UInt8) (con c p nb bits : Nat) : Prop where
  le : c ≤ src.length
  sum : con + nb = 8 * (c + p)
  pad : 0 < p → c = src.length
  val : bits = num (src.take c) / 2 ^ con

theorem Buf.start (src : List UInt8) : Buf src 0 0 0 0 0 := ⟨by omega, by omega, by omega, by simp [num]⟩

theorem Buf.lt {src : List UInt8} {con c p nb bits : Nat} (h : Buf src con c p nb bits) : bits < 2 ^ nb := by
  rw [h.val]
  have h1 := num_lt (src.take c)
  have hl : (src.take c).length = c := by have := h.le; simp; omega
  rw [hl] at h1
  rw [Nat.div_lt_iff_lt_mul (Nat.pow_pos (by omega)), ← Nat.pow_add]
  exact Nat.lt_of_lt_of_le h1 (Nat.pow_le_pow_right (by omega) (by have := h.sum; omega))

/-- a byte of the input goes in -/
theorem Buf.byte {src : List UInt8} {con c nb bits : Nat} (h : Buf src con c 0 nb bits) (hc : c < src.length) : Buf src con (c + 1) 0 (nb + 8) (bits + src[c].toNat * 2 ^ nb) := by
  refine ⟨by omega, by have := h.sum; omega, by omega, ?_⟩
  have e : src.take (c + 1) = src.take c ++ [src[c]] := by rw [List.take_add_one, List.getElem?_eq_getElem hc]; rfl
  have hl : (src.take c).length = c := by have := h.le; simp; omega
  rw [e, num_append, hl, h.val]
  have hs : 8 * c = con + nb := by have := h.sum; omega
  rw [hs, Nat.pow_add, Nat.mul_assoc, Nat.add_mul_div_left _ _ (Nat.pow_pos (by omega))]
  congr 1
  show src[c].toNat * 2 ^ nb = 2 ^ nb * (src[c].toNat + 256 * 0)
  rw [Nat.mul_zero, Nat.add_zero, Nat.mul_comm]

/-- past the end a nought goes in -/
theorem Buf.none {src : List UInt8} {con c p nb bits : Nat} (h : Buf src con c p nb bits) (hc : c = src.length) : Buf src con c (p + 1) (nb + 8) bits :=
  ⟨h.le, by have := h.sum; omega, fun _ => hc, h.val⟩

/-- n bits are taken -/
theorem Buf.take {src : List UInt8} {con c p nb bits : Nat} (h : Buf src con c p nb bits) (n : Nat) (hn : n ≤ nb) : bits % 2 ^ n = bitsAt src con n ∧ Buf src (con + n) c p (nb - n) (bits / 2 ^ n) := by
  refine ⟨?_, h.le, by have := h.sum; omega, h.pad, by rw [h.val, Nat.div_div_eq_div_mul, ← Nat.pow_add]⟩
  unfold bitsAt
  rw [h.val, num_take src c h.le]
  by_cases hp : 0 < p
  · have hc := h.pad hp
    rw [hc, Nat.mod_eq_of_lt (num_lt src)]
  · have hs : 8 * c = con + nb := by have := h.sum; omega
    rw [hs, Nat.pow_add, Nat.mod_mul_right_div_self, Nat.mod_mod_of_dvd _ (Nat.pow_dvd_pow 2 hn)]
end Go.Proofs.YbulkxmoDoor
