/- Plain facts on arity masks: which bits are set. No program in sight. -/
import Derived.RowKit
import Derived.Laws.Entries
set_option linter.unusedVariables false
namespace Go.Proofs.YtenkhaopiiokmaaFmt.mask
open Go Go.RowKit

/-- the mask of the arities a to b -/
def mask (a b : Nat) : Nat := 2 ^ (b + 1) - 2 ^ a
/-- bit k is set just where p holds -/
def Bits (m : Nat) (p : Nat → Prop) : Prop := m < 2147483648 ∧ ∀ k, m.testBit k = true ↔ p k
theorem mask_bits (a b : Nat) (h : a ≤ b) (hb : b ≤ 30) : Bits (mask a b) (fun k => a ≤ k ∧ k ≤ b) := by
  obtain ⟨d, rfl⟩ : ∃ d, b = a + d := ⟨b - a, by omega⟩
  have e : mask a (a + d) = 2 ^ a * (2 ^ (d + 1) - 1) := by
    unfold mask
    rw [Nat.mul_sub, ← Nat.pow_add, Nat.mul_one, Nat.add_assoc]
  refine ⟨?_, fun k => ?_⟩
  · unfold mask
    have h1 : 2 ^ (a + d + 1) ≤ 2 ^ 31 := Nat.pow_le_pow_right (by decide) (by omega)
    have h2 : 0 < 2 ^ a := Nat.pow_pos (by decide)
    omega
  · rw [e, Nat.testBit_two_pow_mul, Nat.testBit_two_pow_sub_one]
    simp
    omega
theorem mask_int (a b : Nat) (h : a ≤ b) : ((mask a b : Nat) : Int) = 2 ^ (b + 1) - 2 ^ a := by
  unfold mask
  have : 2 ^ a ≤ 2 ^ (b + 1) := Nat.pow_le_pow_right (by decide) (by omega)
  rw [Int.ofNat_sub this]
  simp
theorem wrap_in (x : Int) (h0 : 0 ≤ x) (h1 : x ≤ 4294967296) : wrap64 x = x := by
  show (x + 9223372036854775808) % 18446744073709551616 - 9223372036854775808 = x
  omega
theorem wrap_mask (a b : Nat) (h : a ≤ b) (hb : b ≤ 30) : wrap64 (wrap64 (2 ^ (b + 1)) - wrap64 (2 ^ a)) = ((mask a b : Nat) : Int) := by
  have h1 : (2 : Int) ^ (b + 1) ≤ 4294967296 := by
    have : 2 ^ (b + 1) ≤ 2 ^ 32 := Nat.pow_le_pow_right (by decide) (by omega)
    have e : (2 : Int) ^ (b + 1) = ((2 ^ (b + 1) : Nat) : Int) := by simp
    rw [e]; omega
  have h2 : (0 : Int) ≤ 2 ^ (b + 1) := Int.le_of_lt (Int.pow_pos (by decide))
  have h3 : (2 : Int) ^ a ≤ 2 ^ (b + 1) := by
    have : 2 ^ a ≤ 2 ^ (b + 1) := Nat.pow_le_pow_right (by decide) (by omega)
    have e : (2 : Int) ^ (b + 1) = ((2 ^ (b + 1) : Nat) : Int) := by simp
    have e2 : (2 : Int) ^ a = ((2 ^ a : Nat) : Int) := by simp
    rw [e, e2]; omega
  have h4 : (0 : Int) ≤ 2 ^ a := Int.le_of_lt (Int.pow_pos (by decide))
  rw [mask_int a b h, wrap_in _ h2 h1, wrap_in _ h4 (by omega), wrap_in _ (by omega) (by omega)]
theorem or_nat (a b : Nat) (ha : a < 2147483648) (hb : b < 2147483648) : bits .or .i64 (a : Int) (b : Int) = ((a ||| b : Nat) : Int) := by
  have h : a ||| b < 2 ^ 31 := Nat.or_lt_two_pow ha hb
  have e : bits .or .i64 (a : Int) (b : Int) = IntKind.i64.wrap (((BitVec.ofInt 64 (a : Int)) ||| (BitVec.ofInt 64 (b : Int))).toNat : Int) := rfl
  rw [e, BitVec.ofInt_natCast, BitVec.ofInt_natCast, BitVec.toNat_or, BitVec.toNat_ofNat, BitVec.toNat_ofNat, Nat.mod_eq_of_lt (by omega), Nat.mod_eq_of_lt (by omega)]
  simp [IntKind.wrap, IntKind.bits, IntKind.signed]
  omega
theorem Bits.or {a b : Nat} {p q : Nat → Prop} (h : Bits a p) (k : Bits b q) : Bits (a ||| b) (fun k => p k ∨ q k) :=
  ⟨Nat.or_lt_two_pow (n := 31) h.1 k.1, fun i => by rw [Nat.testBit_or, Bool.or_eq_true, h.2, k.2]⟩
theorem Bits.congr {a : Nat} {p q : Nat → Prop} (h : Bits a p) (e : ∀ k, p k ↔ q k) : Bits a q := ⟨h.1, fun k => (h.2 k).trans (e k)⟩
theorem Bits.ext {a b : Nat} {p : Nat → Prop} (h : Bits a p) (k : Bits b p) : a = b := Nat.eq_of_testBit_eq fun i => by rw [Bool.eq_iff_iff, h.2, k.2]
/-- bit k by the quotient -/
theorem bit_div (m k : Nat) : ((m : Int) / 2 ^ k % 2 == 1) = m.testBit k := by
  rw [Nat.testBit_eq_decide_div_mod_eq, Bool.eq_iff_iff, beq_iff_eq, decide_eq_true_eq]
  have : (2 : Int) ^ k = ((2 ^ k : Nat) : Int) := by simp
  rw [this, ← Int.natCast_ediv]
  omega
theorem and_one (x : Nat) (hx : x < 2147483648) : bits .and .i64 (x : Int) 1 = ((x % 2 : Nat) : Int) := by
  have e : bits .and .i64 (x : Int) 1 = IntKind.i64.wrap (((BitVec.ofInt 64 (x : Int)) &&& (BitVec.ofInt 64 ((1 : Nat) : Int))).toNat : Int) := rfl
  rw [e, BitVec.ofInt_natCast, BitVec.ofInt_natCast, BitVec.toNat_and, BitVec.toNat_ofNat, BitVec.toNat_ofNat, Nat.mod_eq_of_lt (by omega), Nat.mod_eq_of_lt (by decide), Nat.and_one_is_mod]
  simp [IntKind.wrap, IntKind.bits, IntKind.signed]
  omega
/-- how the program asks for bit k -/
theorem bit_asked (m k : Nat) (hm : m < 2147483648) : (bits .and .i64 ((m : Int) / 2 ^ k) 1 == 1) = m.testBit k := by
  have e : (m : Int) / 2 ^ k = ((m / 2 ^ k : Nat) : Int) := by simp
  rw [e, and_one _ (Nat.lt_of_le_of_lt (Nat.div_le_self _ _) hm), Nat.testBit_eq_decide_div_mod_eq, Bool.eq_iff_iff, beq_iff_eq, decide_eq_true_eq]
  omega
end Go.Proofs.YtenkhaopiiokmaaFmt.mask
