/- The walk of the law FnLengthAgreesWithAbs: it returns true at every int and float64. -/
import Derived.Test.YtiegckcmgdfjeaaFlt
import Derived.Test.YtiegckcmgdfjeaaFnAbsIntExactWalk
import Derived.Test.YtiegckcmgdfjeaaFnAbsFloatExactWalk
namespace Go.Proofs.Ytiegckcmgdfjeaa.fnLengthAgreesWithAbs
open Go.ChangeShapes Go.WideShapes Go.ChangeAt Go.RowKit
open types floats flt big num
open fnAbsIntExact (zabs_int zabs_min)
open fnAbsFloatExact (inv_zero inf_pos)

theorem len_nil (w : World) : Calls Try.prog 44 #[.nilIface] w fun e w' => e = .returned (.iface 3 (.int .i64 0)) ∧ w = w' := by
  go_enter Try.func44, Try.ntmps44
  go_wp2_with fail
  go_ret
  exact ⟨rfl, rfl⟩
theorem zlen_nil (w : World) : Calls Try.prog 34 #[] w fun e w' => e = .returned (.tuple #[.int .i64 0, .bool true]) ∧ w = w' := by
  have t := ta_3_3
  go_enter Try.func34, Try.ntmps34
  go_wp2_with (go_at_call 44; refine (len_nil _).mono ?_; rintro e w1 ⟨rfl, rfl⟩)
  go_ret2
  exact ⟨rfl, rfl⟩
theorem zlen_int (v r : Int) (w : World) (h0 : -9223372036854775808 < v) (hr : (0 ≤ v ∧ r = v) ∨ (v < 0 ∧ r = -v)) : Calls Try.prog 35 #[.int .i64 v] w fun e w' => e = .returned (.tuple #[.int .i64 0, .int .i64 r, .bool false, .int .u64 0, .bool false]) ∧ w = w' := by
  rcases hr with ⟨h1, rfl⟩ | ⟨h1, rfl⟩
  · go_enter Try.func35, Try.ntmps35
    go_wp2_with (first | (go_at_call 44; refine (len_pos _ _ h1).mono ?_; rintro e w1 ⟨rfl, rfl⟩) | (go_at_call 42; refine (split_int _ _).mono ?_; rintro e w1 ⟨rfl, rfl⟩))
    exact bodyPost_ret (v := .tuple #[.int .i64 0, .int .i64 _, .bool false, .int .u64 0, .bool false]) (by simp [results, Try.results35, go_sem]) rfl ⟨rfl, rfl⟩
  · go_enter Try.func35, Try.ntmps35
    go_wp2_with (first | (go_at_call 44; refine (len_neg _ _ h1 h0).mono ?_; rintro e w1 ⟨rfl, rfl⟩) | (go_at_call 42; refine (split_int _ _).mono ?_; rintro e w1 ⟨rfl, rfl⟩))
    exact bodyPost_ret (v := .tuple #[.int .i64 0, .int .i64 _, .bool false, .int .u64 0, .bool false]) (by simp [results, Try.results35, go_sem]) rfl ⟨rfl, rfl⟩
theorem zlen_min (w : World) : Calls Try.prog 35 #[.int .i64 (-9223372036854775808)] w fun e w' => e = .returned (.tuple #[.int .i64 1, .int .i64 0, .bool false, .int .u64 9223372036854775808, .bool true]) ∧ Below w.heap.size w w' := by
  go_enter Try.func35, Try.ntmps35
  go_wp2_with (first | (go_at_call 44; refine (len_min _).mono ?_; rintro e w1 ⟨rfl, hb1, hb2⟩) | (go_at_call 42; refine (split_big _ _ _ _ hb1 (by decide) (by decide)).mono ?_; rintro e w2 ⟨rfl, rfl⟩))
  exact bodyPost_ret (v := .tuple #[.int .i64 1, .int .i64 0, .bool false, .int .u64 9223372036854775808, .bool true]) (by simp [results, Try.results35, go_sem]) rfl ⟨rfl, hb2⟩

/-- the three kinds of floats: no number; nought; another -/
theorem kinds (x : Nat) : (FloatKind.f64.format.order (ab x) (ab x) = none) ∨ (FloatKind.f64.format.order (ab x) (ab x) = some .eq ∧ FloatKind.f64.format.order (ab x) 0 = some .gt) ∨ (FloatKind.f64.format.order (ab x) (ab x) = some .eq ∧ ab x = 0 ∧ FloatKind.f64.format.order 0 0 = some .eq) := by
  have hro := order_self (ab x)
  rw [nan_ab] at hro
  cases hn : nanB x
  · rw [hn] at hro
    have hz := order_zero (ab x) (ab_lt x) (by rw [nan_ab]; exact hn)
    simp only [Bool.false_eq_true, if_false] at hro
    by_cases h0 : ab x = 0
    · rw [if_pos h0, h0] at hz
      exact .inr (.inr ⟨hro, h0, hz⟩)
    · rw [if_neg h0] at hz
      exact .inr (.inl ⟨hro, hz⟩)
  · rw [hn] at hro
    exact .inl (by simpa using hro)

set_option maxRecDepth 100000 in
set_option maxHeartbeats 1000000 in
theorem walk (a0 : Int) (a1 : Nat) (w : World) (w0 : (Lit.int .i64 a0).wf = true) (w1 : (Lit.float .f64 a1).wf = true) :
    Calls Try.prog 10 #[.int .i64 a0, .float .f64 a1] w fun e w' => e = .returned (.bool true) ∧ Below w.heap.size w w' := by
  have hlt : a1 < 18446744073709551616 := by simpa [Lit.wf] using w1
  have HL := Lib.hid hlt
  have bd := bounds_i64 w0
  have hi := inv_zero; have hp := inf_pos
  clear w0 w1 hlt
  by_cases h : a0 = -9223372036854775808
  · subst h
    clear bd
    rcases kinds a1 with hk | ⟨hk, hk2⟩ | ⟨hk, hk2, hk3⟩
    · go_enter Try.func10, Try.ntmps10
      go_wp2_with (first | (go_at_call 34; refine (zlen_nil _).mono ?_; rintro e w1 ⟨rfl, rfl⟩) | (go_at_call 35; refine (zlen_min _).mono ?_; rintro e w1 ⟨rfl, hb1⟩) | (go_at_call 13; refine (zabs_min _).mono ?_; rintro e w2 ⟨rfl, hb2⟩) | (go_at_call 36; refine (zlen_flt _ _ HL).mono ?_; rintro e w3 ⟨rfl, rfl⟩) | (go_at_call 25; refine (zabs_flt _ _ HL).mono ?_; rintro e w3 ⟨rfl, rfl⟩))
      go_ret
      exact ⟨by simp, hb1.trans (hb2.mono hb1.size)⟩
    · go_enter Try.func10, Try.ntmps10
      go_wp2_with (first | (go_at_call 34; refine (zlen_nil _).mono ?_; rintro e w1 ⟨rfl, rfl⟩) | (go_at_call 35; refine (zlen_min _).mono ?_; rintro e w1 ⟨rfl, hb1⟩) | (go_at_call 13; refine (zabs_min _).mono ?_; rintro e w2 ⟨rfl, hb2⟩) | (go_at_call 36; refine (zlen_flt _ _ HL).mono ?_; rintro e w3 ⟨rfl, rfl⟩) | (go_at_call 25; refine (zabs_flt _ _ HL).mono ?_; rintro e w3 ⟨rfl, rfl⟩))
      go_ret
      exact ⟨by simp, hb1.trans (hb2.mono hb1.size)⟩
    · have H0 := Lib.hid hk2
      clear hk2 hk
      go_enter Try.func10, Try.ntmps10
      go_wp2_with (first | (go_at_call 34; refine (zlen_nil _).mono ?_; rintro e w1 ⟨rfl, rfl⟩) | (go_at_call 35; refine (zlen_min _).mono ?_; rintro e w1 ⟨rfl, hb1⟩) | (go_at_call 13; refine (zabs_min _).mono ?_; rintro e w2 ⟨rfl, hb2⟩) | (go_at_call 36; refine (zlen_flt _ _ HL).mono ?_; rintro e w3 ⟨rfl, rfl⟩; rw [H0.out]) | (go_at_call 25; refine (zabs_flt _ _ HL).mono ?_; rintro e w3 ⟨rfl, rfl⟩; rw [H0.out]))
      go_ret
      exact ⟨by simp, hb1.trans (hb2.mono hb1.size)⟩
  · obtain ⟨r, hr⟩ : ∃ r, (0 ≤ a0 ∧ r = a0) ∨ (a0 < 0 ∧ r = -a0) := by
      rcases (show a0 < 0 ∨ 0 ≤ a0 from by omega) with hn | hp
      · exact ⟨-a0, .inr ⟨hn, rfl⟩⟩
      · exact ⟨a0, .inl ⟨hp, rfl⟩⟩
    have h0 : -9223372036854775808 < a0 := by omega
    have HR := Lib.hid hr
    clear hr h bd
    rcases kinds a1 with hk | ⟨hk, hk2⟩ | ⟨hk, hk2, hk3⟩
    · go_enter Try.func10, Try.ntmps10
      go_wp2_with (first | (go_at_call 34; refine (zlen_nil _).mono ?_; rintro e w1 ⟨rfl, rfl⟩) | (go_at_call 35; refine (zlen_int _ r _ h0 HR.out).mono ?_; rintro e w1 ⟨rfl, rfl⟩) | (go_at_call 13; refine (zabs_int _ r _ h0 HR.out).mono ?_; rintro e w2 ⟨rfl, rfl⟩) | (go_at_call 36; refine (zlen_flt _ _ HL).mono ?_; rintro e w3 ⟨rfl, rfl⟩) | (go_at_call 25; refine (zabs_flt _ _ HL).mono ?_; rintro e w3 ⟨rfl, rfl⟩))
      go_ret
      exact ⟨by simp, Below.refl _ _⟩
    · go_enter Try.func10, Try.ntmps10
      go_wp2_with (first | (go_at_call 34; refine (zlen_nil _).mono ?_; rintro e w1 ⟨rfl, rfl⟩) | (go_at_call 35; refine (zlen_int _ r _ h0 HR.out).mono ?_; rintro e w1 ⟨rfl, rfl⟩) | (go_at_call 13; refine (zabs_int _ r _ h0 HR.out).mono ?_; rintro e w2 ⟨rfl, rfl⟩) | (go_at_call 36; refine (zlen_flt _ _ HL).mono ?_; rintro e w3 ⟨rfl, rfl⟩) | (go_at_call 25; refine (zabs_flt _ _ HL).mono ?_; rintro e w3 ⟨rfl, rfl⟩))
      go_ret
      exact ⟨by simp, Below.refl _ _⟩
    · have H0 := Lib.hid hk2
      clear hk2 hk
      go_enter Try.func10, Try.ntmps10
      go_wp2_with (first | (go_at_call 34; refine (zlen_nil _).mono ?_; rintro e w1 ⟨rfl, rfl⟩) | (go_at_call 35; refine (zlen_int _ r _ h0 HR.out).mono ?_; rintro e w1 ⟨rfl, rfl⟩) | (go_at_call 13; refine (zabs_int _ r _ h0 HR.out).mono ?_; rintro e w2 ⟨rfl, rfl⟩) | (go_at_call 36; refine (zlen_flt _ _ HL).mono ?_; rintro e w3 ⟨rfl, rfl⟩; rw [H0.out]) | (go_at_call 25; refine (zabs_flt _ _ HL).mono ?_; rintro e w3 ⟨rfl, rfl⟩; rw [H0.out]))
      go_ret
      exact ⟨by simp, Below.refl _ _⟩
end Go.Proofs.Ytiegckcmgdfjeaa.fnLengthAgreesWithAbs
