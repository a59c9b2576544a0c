/- The walk of the law FnClampIndexWithinBounds: it returns true at every three integers. -/
import Derived.Test.YtbfnbcjinnomlaaClamp
import Derived.Test.YtbfnbcjinnomlaaBase
import Derived.Lib.Hide
namespace Go.Proofs.Ytbfnbcjinnomlaa.fnClampIndexWithinBounds
open Go.ChangeShapes Go.WideShapes Go.ChangeAt Go.RowKit
open clamp

theorem walk (a0 : Int) (a1 : Int) (a2 : Int) (w : World) (w0 : (Lit.int .i64 a0).wf = true) (_w1 : (Lit.int .i64 a1).wf = true) (w2 : (Lit.int .i64 a2).wf = true) :
    Calls Try.prog 8 #[.int .i64 a0, .int .i64 a1, .int .i64 a2] w fun e w' => e = .returned (.bool true) ∧ Below w.heap.size w w' := by
  have bd0 := bounds_i64 w0
  have bd2 := bounds_i64 w2
  clear w0 w2
  by_cases h : a2 < a1
  · go_enter Try.func8, Try.ntmps8
    go_wp2
    go_ret
    exact ⟨rfl, Below.refl _ _⟩
  · have hin := clamp_in (i := a0) (mn := a1) (mx := a2) (by omega)
    generalize hr : clampZ a0 a1 a2 = r at hin
    have HR := Lib.hid hr
    by_cases c1 : a0 < 0
    · by_cases c2 : a2 < 0
      · by_cases c3 : a0 < -9223372036854775808 - a2
        · clear hr
          go_enter Try.func8, Try.ntmps8
          go_wp2
          go_ret
          exact ⟨rfl, Below.refl _ _⟩
        · clear hr
          go_enter Try.func8, Try.ntmps8
          go_wp2_with (go_at_call 14; refine (zclamp_any _ _ _ _).mono ?_; rintro e w' ⟨rfl, rfl⟩; rw [HR.out])
          go_ret
          exact ⟨rfl, Below.refl _ _⟩
      · clear hr
        go_enter Try.func8, Try.ntmps8
        go_wp2_with (go_at_call 14; refine (zclamp_any _ _ _ _).mono ?_; rintro e w' ⟨rfl, rfl⟩; rw [HR.out])
        go_ret
        exact ⟨rfl, Below.refl _ _⟩
    · by_cases c2 : a1 ≤ a0
      · by_cases c3 : a0 ≤ a2
        · obtain rfl : r = a0 := by rw [← hr]; exact clamp_same (by omega) c2 c3
          clear hr
          go_enter Try.func8, Try.ntmps8
          go_wp2_with (go_at_call 14; refine (zclamp_any _ _ _ _).mono ?_; rintro e w' ⟨rfl, rfl⟩; rw [HR.out])
          go_ret
          exact ⟨rfl, Below.refl _ _⟩
        · clear hr
          go_enter Try.func8, Try.ntmps8
          go_wp2_with (go_at_call 14; refine (zclamp_any _ _ _ _).mono ?_; rintro e w' ⟨rfl, rfl⟩; rw [HR.out])
          go_ret
          exact ⟨rfl, Below.refl _ _⟩
      · clear hr
        go_enter Try.func8, Try.ntmps8
        go_wp2_with (go_at_call 14; refine (zclamp_any _ _ _ _).mono ?_; rintro e w' ⟨rfl, rfl⟩; rw [HR.out])
        go_ret
        exact ⟨rfl, Below.refl _ _⟩
end Go.Proofs.Ytbfnbcjinnomlaa.fnClampIndexWithinBounds
