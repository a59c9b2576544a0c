/- The walk of the law FnNegateIntTwiceRoundTrip: it returns true at every int. -/
import Derived.Test.YtifejbimmffjaaaKind
namespace Go.Proofs.Ytifejbimmffjaaa.fnNegateIntTwiceRoundTrip
open Go.ChangeShapes Go.WideShapes Go.ChangeAt Go.RowKit
open big

theorem walk (a0 : Int) (w : World) (w0 : (Lit.int .i64 a0).wf = true) :
    Calls Try.prog 5 #[.int .i64 a0] w fun e w' => e = .returned (.bool true) ∧ Below w.heap.size w w' := by
  have bd := bounds_i64 w0
  clear w0
  by_cases h : a0 = -9223372036854775808
  · subst h
    have hw : (IntKind.u64.wrap (-9223372036854775808) != 9223372036854775808) = false := by decide
    go_enter Try.func5, Try.ntmps5
    go_wp2_with fail
    refine (ztwicemin _).mono ?_; rintro e w1 ⟨g, rfl, hc, hlt, hb⟩
    go_wp2_with fail
    go_ret
    exact ⟨by simp, hb⟩
  · have hw : (IntKind.u64.wrap a0 != 9223372036854775808) = true := by
      simp [IntKind.wrap, IntKind.bits, IntKind.signed]; omega
    go_enter Try.func5, Try.ntmps5
    go_wp2_with fail
    refine (ztwice _ _ (by omega) (by omega)).mono ?_; rintro e w1 ⟨rfl, rfl⟩
    go_wp2_with fail
    go_ret
    exact ⟨by simp, Below.refl _ _⟩
end Go.Proofs.Ytifejbimmffjaaa.fnNegateIntTwiceRoundTrip
