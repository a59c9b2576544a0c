/- The walk of the law FnAbsFloatExact: it returns true at every float64. -/
import Derived.Test.YtiegckcmgdfjeaaFlt
namespace Go.Proofs.Ytiegckcmgdfjeaa.fnAbsFloatExact
open Go.ChangeShapes Go.WideShapes Go.ChangeAt Go.RowKit
open types floats flt

theorem inv_zero (w : World) : (binOp .quo 39 (.float .f64 4607182418800017408) (.float .f64 0)).run Try.prog w = .ok (.float .f64 9218868437227405312) w := by kernel_rfl
theorem inf_pos : FloatKind.f64.format.order 9218868437227405312 0 = some .gt := by decide +kernel

set_option maxRecDepth 100000 in
theorem walk (a0 : Nat) (w : World) (w0 : (Lit.float .f64 a0).wf = true) :
    Calls Try.prog 7 #[.float .f64 a0] w fun e w' => e = .returned (.bool true) ∧ Below w.heap.size w w' := by
  have hlt : a0 < 18446744073709551616 := by simpa [Lit.wf] using w0
  have HL := Lib.hid hlt
  have t3 := run_neg
  have hro := order_self (ab a0)
  rw [nan_ab] at hro
  have hxo := order_self a0
  cases hn : nanB a0
  · rw [hn] at hro hxo
    have hz := order_zero (ab a0) (ab_lt a0) (by rw [nan_ab]; exact hn)
    have hfl : ab a0 = a0 ∨ flip a0 = ab a0 := by
      by_cases h : a0 < 9223372036854775808
      · exact .inl (ab_low a0 h)
      · exact .inr (flip_high a0 (by omega) hlt)
    simp only [Bool.false_eq_true, if_false] at hro hxo
    clear hn w0 hlt
    have hi := inv_zero; have hp := inf_pos
    by_cases h0 : ab a0 = 0
    · rw [if_pos h0] at hz
      rw [h0] at hz hro
      have H0 := Lib.hid h0
      rcases hfl with h | h
      · rw [h0] at h; subst h
        go_enter Try.func7, Try.ntmps7
        go_wp2_with (go_at_call 25; refine (zabs_flt _ _ HL).mono ?_; rintro e w1 ⟨rfl, rfl⟩; rw [H0.out])
        go_ret
        exact ⟨by simp, Below.refl _ _⟩
      · rw [h0] at h
        clear h0
        generalize hq : FloatKind.f64.format.order 0 a0 = q
        go_enter Try.func7, Try.ntmps7
        go_wp2_with (go_at_call 25; refine (zabs_flt _ _ HL).mono ?_; rintro e w1 ⟨rfl, rfl⟩; rw [H0.out])
        all_goals go_ret
        all_goals exact ⟨by simp, Below.refl _ _⟩
    · rw [if_neg h0] at hz
      clear h0
      rcases hfl with h | h
      · have H := Lib.hid h
        rw [h] at hz hro
        clear h
        go_enter Try.func7, Try.ntmps7
        go_wp2_with (go_at_call 25; refine (zabs_flt _ _ HL).mono ?_; rintro e w1 ⟨rfl, rfl⟩; rw [H.out])
        go_ret
        exact ⟨by simp, Below.refl _ _⟩
      · generalize hq : FloatKind.f64.format.order (ab a0) a0 = q
        go_enter Try.func7, Try.ntmps7
        go_wp2_with (go_at_call 25; refine (zabs_flt _ _ HL).mono ?_; rintro e w1 ⟨rfl, rfl⟩)
        all_goals go_ret
        all_goals exact ⟨by simp, Below.refl _ _⟩
  · rw [hn] at hro hxo
    simp only [if_true] at hro hxo
    clear hn w0 hlt
    go_enter Try.func7, Try.ntmps7
    go_wp2_with (go_at_call 25; refine (zabs_flt _ _ HL).mono ?_; rintro e w1 ⟨rfl, rfl⟩)
    go_ret
    exact ⟨by simp, Below.refl _ _⟩
end Go.Proofs.Ytiegckcmgdfjeaa.fnAbsFloatExact
