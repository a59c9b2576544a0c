/- Plain facts on float64 patterns: the sign flipped, and being no number. -/
import Derived.Test.YtiegckcmgdfjeaaTypes
import Derived.Laws.Bits64
import GoSem.Core.Float
namespace Go.Proofs.Ytiegckcmgdfjeaa.floats

/-- the pattern with its sign bit flipped -/
def flip (x : Nat) : Nat := x ^^^ 9223372036854775808

theorem flip_mod (x : Nat) : flip x % 9223372036854775808 = x % 9223372036854775808 := by
  unfold flip
  have h := Nat.xor_mod_two_pow (a := x) (b := 9223372036854775808) (n := 63)
  simpa using h
theorem flip_lt (x : Nat) (h : x < 18446744073709551616) : flip x < 18446744073709551616 := by
  unfold flip
  exact Nat.xor_lt_two_pow (n := 64) h (by decide)

/-- a pattern stands to itself as equal, or it is no number; that hangs on the bits below the sign alone -/
def nanB (x : Nat) : Bool := decide (9218868437227405312 < x % 9223372036854775808)

theorem order_self (x : Nat) : FloatKind.f64.format.order x x = if nanB x then none else some .eq := by
  have hs : Ieee.double.signWeight = 9223372036854775808 := by decide
  have hb : Ieee.double.binade = 4503599627370496 := by decide
  have hi : Ieee.double.infRung = 9218868437227405312 := by decide
  show (Ieee.double.read x).order (Ieee.double.read x) = _
  unfold Ieee.Format.read nanB
  rw [hs, hb, hi]
  dsimp only
  generalize x % 9223372036854775808 = r
  by_cases h1 : r < 4503599627370496
  · rw [if_pos h1]
    have hn : ¬ 9218868437227405312 < r := by omega
    simp [Ieee.Datum.order, hn]
  · rw [if_neg h1]
    by_cases h2 : r < 9218868437227405312
    · rw [if_pos h2]
      have hn : ¬ 9218868437227405312 < r := by omega
      simp [Ieee.Datum.order, hn]
    · rw [if_neg h2]
      by_cases h3 : r = 9218868437227405312
      · rw [if_pos h3]; subst h3
        simp [Ieee.Datum.order]
      · rw [if_neg h3]
        have hn : 9218868437227405312 < r := by omega
        simp [Ieee.Datum.order, hn]

theorem nan_flip (x : Nat) : nanB (flip x) = nanB x := by unfold nanB; rw [flip_mod]
theorem order_flip (x : Nat) : FloatKind.f64.format.order (flip x) (flip x) = FloatKind.f64.format.order x x := by
  rw [order_self, order_self, nan_flip]

/-- the pattern without its sign -/
def ab (x : Nat) : Nat := x % 9223372036854775808
theorem ab_lt (x : Nat) : ab x < 9223372036854775808 := Nat.mod_lt _ (by decide)
theorem nan_ab (x : Nat) : nanB (ab x) = nanB x := by unfold nanB ab; rw [Nat.mod_mod]
theorem ab_low (x : Nat) (h : x < 9223372036854775808) : ab x = x := Nat.mod_eq_of_lt h
theorem flip_high (x : Nat) (h : 9223372036854775808 ≤ x) (h' : x < 18446744073709551616) : flip x = ab x := by
  have h1 := flip_mod x
  have h2 : flip x < 9223372036854775808 := by
    unfold flip
    have hd := Nat.xor_div_two_pow (a := x) (b := 9223372036854775808) (n := 63)
    have hx : x / 2 ^ 63 = 1 := by simp; omega
    rw [hx] at hd
    simp at hd
    omega
  rw [Nat.mod_eq_of_lt h2] at h1
  exact h1

theorem order_zero (r : Nat) (h : r < 9223372036854775808) (hn : nanB r = false) : FloatKind.f64.format.order r 0 = if r = 0 then some .eq else some .gt := by
  have hs : Ieee.double.signWeight = 9223372036854775808 := by decide
  have hb : Ieee.double.binade = 4503599627370496 := by decide
  have hi : Ieee.double.infRung = 9218868437227405312 := by decide
  have h0 : Ieee.double.read 0 = .number false 0 Ieee.double.leastPlace := by decide
  have hn' : ¬ 9218868437227405312 < r := by unfold nanB at hn; rw [Nat.mod_eq_of_lt h] at hn; simpa using hn
  show (Ieee.double.read r).order (Ieee.double.read 0) = _
  rw [h0]
  unfold Ieee.Format.read
  rw [hs, hb, hi, Nat.mod_eq_of_lt h, Nat.div_eq_of_lt h]
  dsimp only
  generalize Ieee.double.leastPlace = lp
  by_cases h1 : r < 4503599627370496
  · rw [if_pos h1]
    by_cases hz : r = 0
    · subst hz; simp [Ieee.Datum.order, Ieee.signed]
    · have : ¬ ((r : Int) < 0) := by omega
      have hne : ¬ ((r : Int) = 0) := by omega
      simp [Ieee.Datum.order, Ieee.signed, hz, compare, compareOfLessAndEq, this]
  · rw [if_neg h1]
    have hz : ¬ r = 0 := by omega
    rw [if_neg hz]
    by_cases h2 : r < 9218868437227405312
    · rw [if_pos h2]
      have hm : 0 < 4503599627370496 + r % 4503599627370496 := by omega
      generalize 4503599627370496 + r % 4503599627370496 = m at *
      generalize (lp + ((r / 4503599627370496 - 1 : Nat) : Int)) = q
      have hp : ∀ k, 0 < m <<< k := fun k => by rw [Nat.shiftLeft_eq]; exact Nat.mul_pos hm (Nat.two_pow_pos k)
      have hpk := hp (q - min q lp).toNat
      generalize hy : m <<< (q - min q lp).toNat = y at hpk
      have hc : compare (y : Int) 0 = .gt := by
        have h1 : ¬ (y : Int) < 0 := by omega
        have h2 : ¬ (y : Int) = 0 := by omega
        simp [compare, compareOfLessAndEq, h1]; omega
      simp [Ieee.Datum.order, Ieee.signed, hy, hc]
    · rw [if_neg h2]
      have h3 : r = 9218868437227405312 := by omega
      rw [if_pos h3]
      simp [Ieee.Datum.order]

theorem run_neg (x : Nat) (w : World) : (Op.unary .neg (.float .f64 x)).run Try.prog w = .ok (.float .f64 (flip x)) w := rfl
theorem run_bits (x : Nat) (w : World) : (callFunc 68 #[.float .f64 x]).run Try.prog w = .ok (.value (.int .u64 x)) w := by kernel_rfl
end Go.Proofs.Ytiegckcmgdfjeaa.floats
