/- What math.Abs, abs and length answer at a float64: the pattern without its sign. -/
import Derived.Test.YtiegckcmgdfjeaaFloats
import Derived.Test.YtiegckcmgdfjeaaBase
import Derived.ProofKit
import Derived.OpenShut
import Derived.Lib.Hide
import Derived.WalkLawsBesides
import Derived.WalkSpells
namespace Go.Proofs.Ytiegckcmgdfjeaa.flt
open Go.ChangeShapes Go.WideShapes Go.ChangeAt Go.RowKit
open types floats

theorem bits_ab (x : Nat) (h : x < 18446744073709551616) : bits .andNot .u64 (x : Int) 9223372036854775808 = ((ab x : Nat) : Int) := by
  have h1 : (BitVec.ofInt 64 (x : Int)).toNat = x := by
    rw [BitVec.ofInt_natCast, BitVec.toNat_ofNat]; exact Nat.mod_eq_of_lt (by omega)
  have h2 : (~~~ (BitVec.ofInt 64 9223372036854775808)).toNat = 2 ^ 63 - 1 := by decide
  have hb : ((BitVec.ofInt 64 (x : Int)) &&& ~~~ (BitVec.ofInt 64 9223372036854775808)).toNat = ab x := by
    rw [BitVec.toNat_and, h1, h2, Nat.and_two_pow_sub_one_eq_mod]; rfl
  show IntKind.u64.wrap (((BitVec.ofInt 64 (x : Int)) &&& ~~~ (BitVec.ofInt 64 9223372036854775808)).toNat : Int) = _
  rw [hb, IntKind.wrap_u64]
  have := ab_lt x
  omega
theorem run_from (n : Nat) (w : World) : (callFunc 67 #[.int .u64 (n : Int)]).run Try.prog w = .ok (.value (.float .f64 n)) w := by kernel_rfl

set_option maxRecDepth 100000 in
theorem mabs (x : Nat) (w : World) (h : Hid (x < 18446744073709551616)) : Calls Try.prog 53 #[.float .f64 x] w fun e w' => e = .returned (.float .f64 (ab x)) ∧ w = w' := by
  have hb := run_bits
  have ha := bits_ab x h.out
  have hf := run_from
  go_enter Try.func53, Try.ntmps53
  go_wp2_with fail
  go_ret
  exact ⟨rfl, rfl⟩
theorem abs_flt (x : Nat) (w : World) (h : Hid (x < 18446744073709551616)) : Calls Try.prog 43 #[.iface 39 (.float .f64 x)] w fun e w' => e = .returned (.iface 39 (.float .f64 (ab x))) ∧ w = w' := by
  have t1 := ta_39_3; have t2 := ta_39_39
  go_enter Try.func43, Try.ntmps43
  go_wp2_with (go_at_call 53; refine (mabs _ _ h).mono ?_; rintro e w1 ⟨rfl, rfl⟩)
  go_ret
  exact ⟨rfl, rfl⟩
theorem len_flt (x : Nat) (w : World) (h : Hid (x < 18446744073709551616)) : Calls Try.prog 44 #[.iface 39 (.float .f64 x)] w fun e w' => e = .returned (.iface 39 (.float .f64 (ab x))) ∧ w = w' := by
  have t1 := ta_39_3; have t2 := ta_39_39
  go_enter Try.func44, Try.ntmps44
  go_wp2_with (go_at_call 53; refine (mabs _ _ h).mono ?_; rintro e w1 ⟨rfl, rfl⟩)
  go_ret
  exact ⟨rfl, rfl⟩
theorem zabs_flt (x : Nat) (w : World) (h : Hid (x < 18446744073709551616)) : Calls Try.prog 25 #[.float .f64 x] w fun e w' => e = .returned (.tuple #[.float .f64 (ab x), .bool true]) ∧ w = w' := by
  have t2 := ta_39_39
  go_enter Try.func25, Try.ntmps25
  go_wp2_with (go_at_call 43; refine (abs_flt _ _ h).mono ?_; rintro e w1 ⟨rfl, rfl⟩)
  go_ret2
  exact ⟨rfl, rfl⟩
theorem zlen_flt (x : Nat) (w : World) (h : Hid (x < 18446744073709551616)) : Calls Try.prog 36 #[.float .f64 x] w fun e w' => e = .returned (.tuple #[.float .f64 (ab x), .bool true]) ∧ w = w' := by
  have t2 := ta_39_39
  go_enter Try.func36, Try.ntmps36
  go_wp2_with (go_at_call 44; refine (len_flt _ _ h).mono ?_; rintro e w1 ⟨rfl, rfl⟩)
  go_ret2
  exact ⟨rfl, rfl⟩
end Go.Proofs.Ytiegckcmgdfjeaa.flt
