/- The count and the hot half in one number: taken apart. For every count below 2^63. -/
import GoSem.Core.Value
import Derived.Laws.BitsLemmas
import Derived.WalkKit
namespace Go.Sx
open Go

theorem hot_wrap {m : Nat} (h : m < 9223372036854775808) : IntKind.u64.wrap ((IntKind.u64, (m : Int)).snd + (IntKind.u64, (9223372036854775808 : Int)).snd) = (m : Int) + 9223372036854775808 := by
  show IntKind.u64.wrap ((m : Int) + 9223372036854775808) = _
  rw [IntKind.wrap_u64]
  omega

theorem pow63 : ((2 : Int) ^ min (Int.toNat 63) IntKind.u64.bits) = 9223372036854775808 := by decide

theorem hot_one {m : Nat} (h : m < 9223372036854775808) : ((m : Int) + 9223372036854775808).fdiv (2 ^ min (Int.toNat 63) IntKind.u64.bits) = 1 := by
  rw [pow63, Int.fdiv_eq_ediv_of_nonneg _ (by decide)]
  omega

theorem hot_bv {m : Nat} (h : m < 9223372036854775808) : (BitVec.ofInt 64 ((m : Int) + 9223372036854775808)).toNat = m + 9223372036854775808 := by
  rw [BitVec.toNat_ofInt]
  omega

theorem hot_count {m : Nat} (h : m < 9223372036854775808) :
    IntKind.u64.wrap (↑(BitVec.ofInt IntKind.u64.bits ((m : Int) + 9223372036854775808) &&& BitVec.ofInt IntKind.u64.bits 9223372036854775807).toNat : Int) = (m : Int) := by
  show IntKind.u64.wrap (↑(BitVec.ofInt 64 ((m : Int) + 9223372036854775808) &&& BitVec.ofInt 64 9223372036854775807).toNat : Int) = (m : Int)
  have e : (BitVec.ofInt 64 9223372036854775807).toNat = 2 ^ 63 - 1 := by decide
  rw [BitVec.toNat_and, hot_bv h, e, Nat.and_two_pow_sub_one_eq_mod, IntKind.wrap_u64]
  omega

theorem hot_not {m : Nat} (h : m < 9223372036854775808) :
    (IntKind.u64.wrap (↑(BitVec.ofInt IntKind.u64.bits (if IntKind.u64.signed = true then -1 else IntKind.u64.max) ^^^ BitVec.ofInt IntKind.u64.bits ((m : Int) + 9223372036854775808)).toNat : Int)).fdiv (2 ^ min (Int.toNat 63) IntKind.u64.bits) = 0 := by
  show (IntKind.u64.wrap (↑(BitVec.ofInt 64 (if IntKind.u64.signed = true then -1 else IntKind.u64.max) ^^^ BitVec.ofInt 64 ((m : Int) + 9223372036854775808)).toNat : Int)).fdiv _ = 0
  have e : BitVec.ofInt 64 (if IntKind.u64.signed = true then -1 else IntKind.u64.max) = BitVec.allOnes 64 := by decide
  rw [e, BitVec.allOnes_xor, BitVec.toNat_not, hot_bv h, pow63, Int.fdiv_eq_ediv_of_nonneg _ (by decide), IntKind.wrap_u64]
  omega

end Go.Sx
