/-
  The bit operations of take and of the law, as plain numbers.
-/
import Derived.Test.YbulkxmoDoorW4
namespace Go.Proofs.YbulkxmoDoor
open Go

theorem and_u64 (a n : Nat) (ha : a < 2 ^ 64) (hn : n ≤ 32) : bits .and .u64 (a : Int) ((2 ^ n - 1 : Nat) : Int) = ((a % 2 ^ n : Nat) : Int) := by
  have hp : 2 ^ n ≤ 2 ^ 32 := Nat.pow_le_pow_right (by omega) hn
  have hb : 2 ^ n - 1 < 2 ^ 64 := by omega
  show IntKind.u64.wrap ((BitVec.ofInt 64 (a : Int) &&& BitVec.ofInt 64 ((2 ^ n - 1 : Nat) : Int)).toNat : Int) = _
  rw [BitVec.ofInt_natCast, BitVec.ofInt_natCast, BitVec.toNat_and, BitVec.toNat_ofNat, BitVec.toNat_ofNat, Nat.mod_eq_of_lt ha, Nat.mod_eq_of_lt hb, Nat.and_two_pow_sub_one_eq_mod, IntKind.wrap_u64]
  have : a % 2 ^ n ≤ a := Nat.mod_le _ _
  generalize a % 2 ^ n = c at *
  omega

theorem and_u8 (a : Nat) (ha : a < 256) : bits .and .u8 (a : Int) 1 = ((a % 2 : Nat) : Int) := by
  show IntKind.u8.wrap ((BitVec.ofInt 8 (a : Int) &&& BitVec.ofInt 8 ((2 ^ 1 - 1 : Nat) : Int)).toNat : Int) = _
  rw [BitVec.ofInt_natCast, BitVec.ofInt_natCast, BitVec.toNat_and, BitVec.toNat_ofNat, BitVec.toNat_ofNat, Nat.mod_eq_of_lt ha, Nat.mod_eq_of_lt (by omega), Nat.and_two_pow_sub_one_eq_mod, IntKind.wrap_u8]
  omega

theorem or_u32 (a b : Nat) (ha : a < 2 ^ 32) (hb : b < 2 ^ 32) : bits .or .u32 (a : Int) (b : Int) = ((a ||| b : Nat) : Int) := by
  have h : a ||| b < 2 ^ 32 := Nat.or_lt_two_pow ha hb
  show IntKind.u32.wrap ((BitVec.ofInt 32 (a : Int) ||| BitVec.ofInt 32 (b : Int)).toNat : Int) = _
  rw [BitVec.ofInt_natCast, BitVec.ofInt_natCast, BitVec.toNat_or, BitVec.toNat_ofNat, BitVec.toNat_ofNat, Nat.mod_eq_of_lt ha, Nat.mod_eq_of_lt hb, IntKind.wrap_u32]
  generalize a ||| b = c at *
  omega
end Go.Proofs.YbulkxmoDoor
