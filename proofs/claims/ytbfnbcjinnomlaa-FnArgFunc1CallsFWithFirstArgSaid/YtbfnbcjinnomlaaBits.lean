/- Plain facts on bit patterns of 64 bits; no program in sight. -/
import Derived.RowKit
import Derived.Laws.Entries
namespace Go.Proofs.Ytbfnbcjinnomlaa.pbits
open Go.RowKit

theorem wrap64_ofInt (n : Int) : BitVec.ofInt 64 (wrap64 n) = BitVec.ofInt 64 n := by
  apply BitVec.eq_of_toNat_eq
  simp only [BitVec.toNat_ofInt]
  unfold wrap64
  congr 1
  show ((n + 9223372036854775808) % 18446744073709551616 - 9223372036854775808) % 18446744073709551616 = n % 18446744073709551616
  omega

theorem i64_ofInt (n : Int) : BitVec.ofInt 64 (IntKind.i64.wrap n) = BitVec.ofInt 64 n := by
  apply BitVec.eq_of_toNat_eq
  simp only [BitVec.toNat_ofInt, IntKind.wrap, IntKind.bits, IntKind.signed]
  congr 1
  simp
  split <;> omega

theorem twoPow_ofInt (m : Nat) : BitVec.ofInt 64 (2 ^ m) = BitVec.twoPow 64 m := by
  have : (2 : Int) ^ m = ((2 ^ m : Nat) : Int) := by simp
  rw [this, BitVec.ofInt_natCast]
  rw [BitVec.twoPow_eq]
  apply BitVec.eq_of_toNat_eq
  simp [Nat.shiftLeft_eq]

theorem wrap_zero (n : Nat) (h : n < 18446744073709551616) : (IntKind.i64.wrap (n : Int) != 0) = (n != 0) := by
  rw [Bool.eq_iff_iff]
  simp [IntKind.wrap, IntKind.bits, IntKind.signed]
  split <;> omega

/-- 'x and (1 shifted by m) is not zero' says bit m of x's pattern -/
theorem bit_plain (i : Int) (m : Nat) : (bits .and .i64 i (wrap64 (2 ^ min m 64)) != 0) = (BitVec.ofInt 64 i).getLsbD m := by
  have h0 : bits .and .i64 i (wrap64 (2 ^ min m 64)) = IntKind.i64.wrap (((BitVec.ofInt 64 i) &&& (BitVec.twoPow 64 (min m 64))).toNat : Int) := by
    show IntKind.i64.wrap ((BitVec.ofInt 64 i &&& BitVec.ofInt 64 (wrap64 (2 ^ min m 64))).toNat : Int) = _
    rw [wrap64_ofInt, twoPow_ofInt]
  rw [h0, wrap_zero _ (BitVec.isLt _), BitVec.and_twoPow]
  by_cases hm : m < 64
  · have : min m 64 = m := by omega
    rw [this]
    by_cases hb : (BitVec.ofInt 64 i).getLsbD m = true
    · rw [if_pos hb, hb]
      simp [BitVec.toNat_twoPow, Nat.mod_eq_of_lt (Nat.pow_lt_pow_right (by decide : 1 < 2) hm)]
    · rw [if_neg hb]; simp at hb; simp [hb]
  · have : min m 64 = 64 := by omega
    rw [this]
    have hz : (BitVec.ofInt 64 i).getLsbD 64 = false := BitVec.getLsbD_of_ge _ _ (by omega)
    rw [BitVec.getLsbD_of_ge _ m (by omega), hz]
    simp

/-- the bit, by halving the unsigned pattern -/
theorem half_plain (i : Int) (m : Nat) : ((i % 18446744073709551616) / 2 ^ m % 2 == 1) = (BitVec.ofInt 64 i).getLsbD m := by
  have h0 : (i % 18446744073709551616) = (((BitVec.ofInt 64 i).toNat : Nat) : Int) := by
    simp [BitVec.toNat_ofInt]; omega
  have h1 : (2 : Int) ^ m = ((2 ^ m : Nat) : Int) := by simp
  rw [h0, h1, ← BitVec.testBit_toNat, Nat.testBit_eq_decide_div_mod_eq]
  generalize (BitVec.ofInt 64 i).toNat = a
  generalize 2 ^ m = b
  rw [Bool.eq_iff_iff, beq_iff_eq, decide_eq_true_eq, ← Int.natCast_ediv]
  omega
end Go.Proofs.Ytbfnbcjinnomlaa.pbits
