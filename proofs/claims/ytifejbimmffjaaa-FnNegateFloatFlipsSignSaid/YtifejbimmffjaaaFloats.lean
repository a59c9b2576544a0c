/- Plain facts on float64 patterns: the sign flipped, and being no number. -/
import Derived.Test.YtifejbimmffjaaaTypes
import Derived.Laws.Bits64
import GoSem.Core.Float
namespace Go.Proofs.Ytifejbimmffjaaa.floats

/-- the pattern with its sign bit flipped -/
def flip (x : Nat) : Nat := x ^^^ 9223372036854775808

theorem flip_mod (x : Nat) : flip x % 9223372036854775808 = x % 9223372036854775808 := by
  unfold flip
  have h := Nat.xor_mod_two_pow (a := x) (b := 9223372036854775808) (n := 63)
  simpa using h
theorem flip_lt (x : Nat) (h : x < 18446744073709551616) : flip x < 18446744073709551616 := by
  unfold flip
  exact Nat.xor_lt_two_pow (n := 64) h (by decide)

/-- a pattern stands to itself as equal, or it is no number; that hangs on the bits below the sign alone -/
def nanB (x : Nat) : Bool := decide (9218868437227405312 < x % 9223372036854775808)

theorem order_self (x : Nat) : FloatKind.f64.format.order x x = if nanB x then none else some .eq := by
  have hs : Ieee.double.signWeight = 9223372036854775808 := by decide
  have hb : Ieee.double.binade = 4503599627370496 := by decide
  have hi : Ieee.double.infRung = 9218868437227405312 := by decide
  show (Ieee.double.read x).order (Ieee.double.read x) = _
  unfold Ieee.Format.read nanB
  rw [hs, hb, hi]
  dsimp only
  generalize x % 9223372036854775808 = r
  by_cases h1 : r < 4503599627370496
  · rw [if_pos h1]
    have hn : ¬ 9218868437227405312 < r := by omega
    simp [Ieee.Datum.order, hn]
  · rw [if_neg h1]
    by_cases h2 : r < 9218868437227405312
    · rw [if_pos h2]
      have hn : ¬ 9218868437227405312 < r := by omega
      simp [Ieee.Datum.order, hn]
    · rw [if_neg h2]
      by_cases h3 : r = 9218868437227405312
      · rw [if_pos h3]; subst h3
        simp [Ieee.Datum.order]
      · rw [if_neg h3]
        have hn : 9218868437227405312 < r := by omega
        simp [Ieee.Datum.order, hn]

theorem nan_flip (x : Nat) : nanB (flip x) = nanB x := by unfold nanB; rw [flip_mod]
theorem order_flip (x : Nat) : FloatKind.f64.format.order (flip x) (flip x) = FloatKind.f64.format.order x x := by
  rw [order_self, order_self, nan_flip]

theorem run_neg (x : Nat) (w : World) : (Op.unary .neg (.float .f64 x)).run Try.prog w = .ok (.float .f64 (flip x)) w := rfl

theorem run_bits (x : Nat) (w : World) : (callFunc 11 #[.float .f64 x]).run Try.prog w = .ok (.value (.int .u64 x)) w := by kernel_rfl

theorem bits_flip (x : Nat) (h : x < 18446744073709551616) : bits .xor .u64 (x : Int) 9223372036854775808 = ((flip x : Nat) : Int) :=
  bits_xor_u64_nat x 9223372036854775808 h (by decide)
end Go.Proofs.Ytifejbimmffjaaa.floats
