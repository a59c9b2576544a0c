/- The walk of the law FnNegateIntExact: it returns true at every int. -/
import Derived.Test.YtifejbimmffjaaaKind
import Derived.Laws.Shifts
import Derived.Laws.Bits64
namespace Go.Proofs.Ytifejbimmffjaaa.fnNegateIntExact
open Go.ChangeShapes Go.WideShapes Go.ChangeAt Go.RowKit
open big

theorem not_u64 (n : Int) (h0 : 0 ≤ n) (h1 : n ≤ 18446744073709551615) : bits .xor .u64 18446744073709551615 n = 18446744073709551615 - n := by
  obtain ⟨m, rfl⟩ := Int.eq_ofNat_of_zero_le h0
  have e := bits_xor_u64_nat 18446744073709551615 m (by decide) (by omega)
  have e2 : (18446744073709551615 ^^^ m : Nat) = 18446744073709551615 - m := by
    have hb : (BitVec.ofNat 64 m).toNat = m := by simp; omega
    have h2 := congrArg BitVec.toNat (BitVec.xor_allOnes (x := BitVec.ofNat 64 m))
    rw [BitVec.toNat_not, BitVec.toNat_xor, hb, BitVec.toNat_allOnes] at h2
    rw [Nat.xor_comm]; exact h2
  rw [show ((18446744073709551615 : Int)) = ((18446744073709551615 : Nat) : Int) from rfl, e, e2]
  omega

theorem not_max (n : Int) (h0 : 0 ≤ n) (h1 : n ≤ 18446744073709551615) : bits .xor .u64 IntKind.u64.max n = 18446744073709551615 - n := by
  have e : IntKind.u64.max = 18446744073709551615 := by decide
  rw [e]; exact not_u64 n h0 h1
theorem sgn : IntKind.u64.signed = false := rfl

theorem add_one (h l : Int) (w : World) (a0 : 0 ≤ h) (a1 : h ≤ 18446744073709551615) (b0 : 0 ≤ l) (b1 : l < 18446744073709551615) :
    Calls Try.prog 15 #[.int .u64 h, .int .u64 l, .int .u64 0, .int .u64 1] w fun e w' => e = .returned (.tuple #[.int .u64 h, .int .u64 (l + 1)]) ∧ w = w' := by
  go_enter Try.func15, Try.ntmps15
  go_wp2_with fail
  go_ret2
  exact ⟨by simp, rfl⟩
theorem add_top (w : World) :
    Calls Try.prog 15 #[.int .u64 18446744073709551615, .int .u64 18446744073709551615, .int .u64 0, .int .u64 1] w fun e w' => e = .returned (.tuple #[.int .u64 0, .int .u64 0]) ∧ w = w' := by
  have hw : IntKind.u64.wrap 18446744073709551616 = 0 := by decide
  go_enter Try.func15, Try.ntmps15
  go_wp2_with fail
  go_ret2
  exact ⟨rfl, rfl⟩
theorem neg_nz (h l : Int) (w : World) (a0 : 0 ≤ h) (a1 : h ≤ 18446744073709551615) (b0 : 0 < l) (b1 : l ≤ 18446744073709551615) :
    Calls Try.prog 8 #[.int .u64 h, .int .u64 l] w fun e w' => e = .returned (.tuple #[.int .u64 (18446744073709551615 - h), .int .u64 (18446744073709551615 - l + 1)]) ∧ w = w' := by
  have e1 := not_max h a0 a1
  have e2 := not_max l (by omega) b1
  have hs := sgn
  go_enter Try.func8, Try.ntmps8
  go_wp2_with fail
  refine (add_one _ _ _ (by omega) (by omega) (by omega) (by omega)).mono ?_; rintro e w1 ⟨rfl, rfl⟩
  go_wp2_with fail
  go_ret2
  exact ⟨rfl, rfl⟩
theorem neg_z (w : World) :
    Calls Try.prog 8 #[.int .u64 0, .int .u64 0] w fun e w' => e = .returned (.tuple #[.int .u64 0, .int .u64 0]) ∧ w = w' := by
  have e1 := not_max 0 (by omega) (by omega)
  have hs := sgn
  go_enter Try.func8, Try.ntmps8
  go_wp2_with fail
  refine (add_top _).mono ?_; rintro e w1 ⟨rfl, rfl⟩
  go_wp2_with fail
  go_ret2
  exact ⟨rfl, rfl⟩
theorem wide_pos (v : Int) (w : World) (h0 : 0 ≤ v) (h1 : v ≤ 9223372036854775807) : Calls Try.prog 7 #[.int .i64 v] w fun e w' => e = .returned (.tuple #[.int .u64 0, .int .u64 v]) ∧ w = w' := by
  have hu : IntKind.u64.wrap v = v := by simp [IntKind.wrap, IntKind.bits, IntKind.signed]; omega
  go_enter Try.func7, Try.ntmps7
  go_wp2_with fail
  go_ret2
  exact ⟨by simp, rfl⟩
theorem wide_neg (v : Int) (w : World) (h0 : v < 0) (h1 : -9223372036854775808 ≤ v) : Calls Try.prog 7 #[.int .i64 v] w fun e w' => e = .returned (.tuple #[.int .u64 18446744073709551615, .int .u64 (v + 18446744073709551616)]) ∧ w = w' := by
  have hu : IntKind.u64.wrap v = v + 18446744073709551616 := by simp [IntKind.wrap, IntKind.bits, IntKind.signed]; omega
  go_enter Try.func7, Try.ntmps7
  go_wp2_with fail
  go_ret2
  exact ⟨by simp, rfl⟩
theorem fits (h l : Int) (w : World) (b0 : 0 ≤ l) (b1 : l ≤ 18446744073709551615) (hh : (l < 9223372036854775808 ∧ h = 0) ∨ (9223372036854775808 ≤ l ∧ h = 18446744073709551615)) : Calls Try.prog 16 #[.int .u64 h, .int .u64 l] w fun e w' => e = .returned (.bool true) ∧ w = w' := by
  rcases hh with ⟨h1, rfl⟩ | ⟨h1, rfl⟩
  · have hq : (l / 9223372036854775808 == 0) = true := by simp; omega
    go_enter Try.func16, Try.ntmps16
    go_wp2_with fail
    go_ret
    exact ⟨rfl, rfl⟩
  · have hq : (l / 9223372036854775808 == 0) = false := by simp; omega
    go_enter Try.func16, Try.ntmps16
    go_wp2_with fail
    go_ret
    exact ⟨rfl, rfl⟩
theorem fits_no (w : World) : Calls Try.prog 16 #[.int .u64 0, .int .u64 9223372036854775808] w fun e w' => e = .returned (.bool false) ∧ w = w' := by
  go_enter Try.func16, Try.ntmps16
  go_wp2_with fail
  go_ret
  exact ⟨rfl, rfl⟩
theorem match_int (i h l : Int) (w : World) (b0 : 0 ≤ l) (b1 : l ≤ 18446744073709551615) (hh : (l < 9223372036854775808 ∧ h = 0) ∨ (9223372036854775808 ≤ l ∧ h = 18446744073709551615)) (hi : IntKind.i64.wrap l = i) : Calls Try.prog 9 #[.int .i64 1, .int .i64 i, .bool false, .slice none 0 0, .int .u64 h, .int .u64 l] w fun e w' => e = .returned (.bool true) ∧ w = w' := by
  go_enter Try.func9, Try.ntmps9
  go_wp2_with (go_at_call 16; refine (fits _ _ _ b0 b1 hh).mono ?_; rintro e w1 ⟨rfl, rfl⟩)
  go_ret
  exact ⟨rfl, rfl⟩
theorem match_min (g : Nat) (w : World) (hc : w.cell? ⟨g, 0, none⟩ = some (.int .u64 9223372036854775808)) : Calls Try.prog 9 #[.int .i64 3, .int .i64 0, .bool false, .slice (some ⟨g, 0, none⟩) 1 1, .int .u64 0, .int .u64 9223372036854775808] w fun e w' => e = .returned (.bool true) ∧ w = w' := by
  go_enter Try.func9, Try.ntmps9
  go_wp2_with (go_at_call 16; refine (fits_no _).mono ?_; rintro e w1 ⟨rfl, rfl⟩)
  go_ret
  exact ⟨by simp, rfl⟩

theorem walk (a0 : Int) (w : World) (w0 : (Lit.int .i64 a0).wf = true) :
    Calls Try.prog 3 #[.int .i64 a0] w fun e w' => e = .returned (.bool true) ∧ Below w.heap.size w w' := by
  have bd := bounds_i64 w0
  clear w0
  by_cases h : a0 = -9223372036854775808
  · subst h
    go_enter Try.func3, Try.ntmps3
    go_wp2_with fail
    refine (zmin _).mono ?_; rintro e w1 ⟨g, rfl, hc, hlt, hb⟩
    go_wp2_with fail
    refine (wide_neg _ _ (by omega) (by omega)).mono ?_; rintro e w2 ⟨rfl, rfl⟩
    go_wp2_with fail
    refine (neg_nz _ _ _ (by omega) (by omega) (by omega) (by omega)).mono ?_; rintro e w2 ⟨rfl, rfl⟩
    go_wp2_with fail
    refine (match_min g _ hc).mono ?_; rintro e w2 ⟨rfl, rfl⟩
    go_wp2_with fail
    go_ret
    exact ⟨rfl, hb⟩
  · go_enter Try.func3, Try.ntmps3
    go_wp2_with fail
    refine (zint _ _ (by omega) (by omega)).mono ?_; rintro e w1 ⟨rfl, rfl⟩
    go_wp2_with fail
    rcases (show a0 < 0 ∨ a0 = 0 ∨ 0 < a0 from by omega) with hn | hz | hp
    · refine (wide_neg _ _ hn (by omega)).mono ?_; rintro e w2 ⟨rfl, rfl⟩
      go_wp2_with fail
      refine (neg_nz _ _ _ (by omega) (by omega) (by omega) (by omega)).mono ?_; rintro e w2 ⟨rfl, rfl⟩
      go_wp2_with fail
      refine (match_int _ _ _ _ (by omega) (by omega) (by omega) (by simp [IntKind.wrap, IntKind.bits, IntKind.signed]; omega)).mono ?_; rintro e w2 ⟨rfl, rfl⟩
      go_wp2_with fail
      go_ret
      exact ⟨rfl, Below.refl _ _⟩
    · subst hz
      refine (wide_pos _ _ (by omega) (by omega)).mono ?_; rintro e w2 ⟨rfl, rfl⟩
      go_wp2_with fail
      refine (neg_z _).mono ?_; rintro e w2 ⟨rfl, rfl⟩
      go_wp2_with fail
      refine (match_int _ _ _ _ (by omega) (by omega) (by omega) (by decide)).mono ?_; rintro e w2 ⟨rfl, rfl⟩
      go_wp2_with fail
      go_ret
      exact ⟨rfl, Below.refl _ _⟩
    · refine (wide_pos _ _ (by omega) (by omega)).mono ?_; rintro e w2 ⟨rfl, rfl⟩
      go_wp2_with fail
      refine (neg_nz _ _ _ (by omega) (by omega) (by omega) (by omega)).mono ?_; rintro e w2 ⟨rfl, rfl⟩
      go_wp2_with fail
      refine (match_int _ _ _ _ (by omega) (by omega) (by omega) (by simp [IntKind.wrap, IntKind.bits, IntKind.signed]; omega)).mono ?_; rintro e w2 ⟨rfl, rfl⟩
      go_wp2_with fail
      go_ret
      exact ⟨rfl, Below.refl _ _⟩
end Go.Proofs.Ytifejbimmffjaaa.fnNegateIntExact
