/- The walk of the law FnAbsIntExact: it returns true at every int. -/
import Derived.Test.YtiegckcmgdfjeaaNum
namespace Go.Proofs.Ytiegckcmgdfjeaa.fnAbsIntExact
open Go.ChangeShapes Go.WideShapes Go.ChangeAt Go.RowKit
open types big num

theorem maxint (w : World) : Calls Try.prog 15 #[] w fun e w' => e = .returned (.int .i64 9223372036854775807) ∧ w = w' := by
  go_enter Try.func15, Try.ntmps15
  go_wp2_with fail
  go_ret
  exact ⟨rfl, rfl⟩
theorem mag_pos (v : Int) (w : World) (h0 : 0 ≤ v) (h1 : v ≤ 9223372036854775807) : Calls Try.prog 14 #[.int .i64 v] w fun e w' => e = .returned (.int .u64 v) ∧ w = w' := by
  have hu : IntKind.u64.wrap v = v := by simp [IntKind.wrap, IntKind.bits, IntKind.signed]; omega
  go_enter Try.func14, Try.ntmps14
  go_wp2_with fail
  go_ret
  exact ⟨rfl, rfl⟩
theorem mag_neg (v : Int) (w : World) (h0 : v < 0) (h1 : -9223372036854775808 ≤ v) : Calls Try.prog 14 #[.int .i64 v] w fun e w' => e = .returned (.int .u64 (-v)) ∧ w = w' := by
  go_enter Try.func14, Try.ntmps14
  go_wp2_with fail
  go_ret
  exact ⟨inp.ret_int (by omega), rfl⟩
theorem zabs_int (v r : Int) (w : World) (h0 : -9223372036854775808 < v) (hr : (0 ≤ v ∧ r = v) ∨ (v < 0 ∧ r = -v)) : Calls Try.prog 13 #[.int .i64 v] w fun e w' => e = .returned (.tuple #[.int .i64 0, .int .i64 r, .bool false, .int .u64 0, .bool false]) ∧ w = w' := by
  rcases hr with ⟨h1, rfl⟩ | ⟨h1, rfl⟩
  · go_enter Try.func13, Try.ntmps13
    go_wp2_with (first | (go_at_call 43; refine (abs_pos _ _ h1).mono ?_; rintro e w1 ⟨rfl, rfl⟩) | (go_at_call 42; refine (split_int _ _).mono ?_; rintro e w1 ⟨rfl, rfl⟩))
    exact bodyPost_ret (v := .tuple #[.int .i64 0, .int .i64 _, .bool false, .int .u64 0, .bool false]) (by simp [results, Try.results13, go_sem]) rfl ⟨rfl, rfl⟩
  · go_enter Try.func13, Try.ntmps13
    go_wp2_with (first | (go_at_call 43; refine (abs_neg _ _ h1 h0).mono ?_; rintro e w1 ⟨rfl, rfl⟩) | (go_at_call 42; refine (split_int _ _).mono ?_; rintro e w1 ⟨rfl, rfl⟩))
    exact bodyPost_ret (v := .tuple #[.int .i64 0, .int .i64 _, .bool false, .int .u64 0, .bool false]) (by simp [results, Try.results13, go_sem]) rfl ⟨rfl, rfl⟩
theorem zabs_min (w : World) : Calls Try.prog 13 #[.int .i64 (-9223372036854775808)] w fun e w' => e = .returned (.tuple #[.int .i64 1, .int .i64 0, .bool false, .int .u64 9223372036854775808, .bool true]) ∧ Below w.heap.size w w' := by
  go_enter Try.func13, Try.ntmps13
  go_wp2_with (first | (go_at_call 43; refine (abs_min _).mono ?_; rintro e w1 ⟨rfl, hb1, hb2⟩) | (go_at_call 42; refine (split_big _ _ _ _ hb1 (by decide) (by decide)).mono ?_; rintro e w2 ⟨rfl, rfl⟩))
  exact bodyPost_ret (v := .tuple #[.int .i64 1, .int .i64 0, .bool false, .int .u64 9223372036854775808, .bool true]) (by simp [results, Try.results13, go_sem]) rfl ⟨rfl, hb2⟩

theorem walk (a0 : Int) (w : World) (w0 : (Lit.int .i64 a0).wf = true) :
    Calls Try.prog 3 #[.int .i64 a0] w fun e w' => e = .returned (.bool true) ∧ Below w.heap.size w w' := by
  have bd := bounds_i64 w0
  clear w0
  by_cases h : a0 = -9223372036854775808
  · subst h
    go_enter Try.func3, Try.ntmps3
    go_wp2_with (first | (go_at_call 13; refine (zabs_min _).mono ?_; rintro e w1 ⟨rfl, hb1⟩) | (go_at_call 14; refine (mag_neg _ _ (by omega) (by omega)).mono ?_; rintro e w1 ⟨rfl, rfl⟩) | (go_at_call 15; refine (maxint _).mono ?_; rintro e w1 ⟨rfl, rfl⟩))
    go_ret
    exact ⟨by simp, hb1⟩
  · have hne : (a0 == -9223372036854775808) = false := by simp; omega
    rcases (show a0 < 0 ∨ 0 ≤ a0 from by omega) with hn | hp
    · have hu : IntKind.u64.wrap (-a0) = -a0 := by simp [IntKind.wrap, IntKind.bits, IntKind.signed]; omega
      go_enter Try.func3, Try.ntmps3
      go_wp2_with (first | (go_at_call 13; refine (zabs_int _ (-a0) _ (by omega) (.inr ⟨hn, rfl⟩)).mono ?_; rintro e w1 ⟨rfl, rfl⟩) | (go_at_call 14; refine (mag_neg _ _ hn (by omega)).mono ?_; rintro e w1 ⟨rfl, rfl⟩) | (go_at_call 15; refine (maxint _).mono ?_; rintro e w1 ⟨rfl, rfl⟩))
      go_ret
      exact ⟨by simp, Below.refl _ _⟩
    · have hu : IntKind.u64.wrap a0 = a0 := by simp [IntKind.wrap, IntKind.bits, IntKind.signed]; omega
      go_enter Try.func3, Try.ntmps3
      go_wp2_with (first | (go_at_call 13; refine (zabs_int _ a0 _ (by omega) (.inl ⟨hp, rfl⟩)).mono ?_; rintro e w1 ⟨rfl, rfl⟩) | (go_at_call 14; refine (mag_pos _ _ hp (by omega)).mono ?_; rintro e w1 ⟨rfl, rfl⟩) | (go_at_call 15; refine (maxint _).mono ?_; rintro e w1 ⟨rfl, rfl⟩))
      go_ret
      exact ⟨by simp, Below.refl _ _⟩
end Go.Proofs.Ytiegckcmgdfjeaa.fnAbsIntExact
