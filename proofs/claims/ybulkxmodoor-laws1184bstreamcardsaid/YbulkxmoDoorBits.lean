/-
  The bit operations of the walks, as plain numbers.
-/
import Derived.Test.YbulkxmoDoorInv
namespace Go.Proofs.YbulkxmoDoor
open Go

theorem or_u64 (a b : Nat) (ha : a < 2 ^ 64) (hb : b < 2 ^ 64) : bits .or .u64 (a : Int) (b : Int) = ((a ||| b : Nat) : Int) := by
  have h : a ||| b < 2 ^ 64 := Nat.or_lt_two_pow ha hb
  show IntKind.u64.wrap ((BitVec.ofInt 64 (a : Int) ||| BitVec.ofInt 64 (b : Int)).toNat : Int) = _
  rw [BitVec.ofInt_natCast, BitVec.ofInt_natCast, BitVec.toNat_or, BitVec.toNat_ofNat, BitVec.toNat_ofNat, Nat.mod_eq_of_lt ha, Nat.mod_eq_of_lt hb, IntKind.wrap_u64]
  generalize a ||| b = c at *
  omega

theorem or_low (a y n : Nat) (h : a < 2 ^ n) : a ||| y * 2 ^ n = a + y * 2 ^ n := by
  have := Nat.shiftLeft_add_eq_or_of_lt h y
  rw [Nat.shiftLeft_eq] at this
  rw [Nat.or_comm, ← this, Nat.add_comm]
end Go.Proofs.YbulkxmoDoor
