/- The walk of the law FnOperatorUpdateAgrees: it returns true at every integer. -/
import Derived.Test.YtlpgcdfndgcgeaaDomain
import Derived.WalkLawsBesides
import Derived.WalkSpells
namespace Go.Proofs.Ytlpgcdfndgcgeaa.fnOperatorUpdateAgrees
open Go.ChangeShapes Go.WideShapes Go.ChangeAt Go.RowKit
open names domain

set_option maxHeartbeats 400000 in
theorem at_3 (w : World) : Calls Try.prog 10 #[.int .i64 3] w fun e w' => e = .returned (.bool true) ∧ Below w.heap.size w w' := by
  have hq : (([103, 111, 106, 113, 46, 79, 112, 85, 112, 100, 97, 116, 101, 65, 100, 100] : List UInt8) == ((⟨#[103, 111, 106, 113, 46, 79, 112, 85, 112, 100, 97, 116, 101]⟩ : ByteArray) ++ (⟨#[103, 111, 106, 113, 46, 79, 112, 65, 100, 100]⟩ : ByteArray).extract 7 10).toList) = true := by rw [ByteArray.toList_eq]; decide +kernel
  have h1 : opStr 3 = ⟨#[103, 111, 106, 113, 46, 79, 112, 65, 100, 100]⟩ := rfl
  have h2 : opStr 19 = ⟨#[103, 111, 106, 113, 46, 79, 112, 85, 112, 100, 97, 116, 101, 65, 100, 100]⟩ := rfl
  have H1 := Lib.hid h1
  have H2 := Lib.hid h2
  clear h1 h2
  go_enter Try.func10, Try.ntmps10
  go_wp2_with fail
  refine (op_3 _).mono ?_; rintro e w1 ⟨rfl, hb1⟩
  rw [H1.out]
  go_wp2_with fail
  refine (op_19 _).mono ?_; rintro e w2 ⟨rfl, hb2⟩
  rw [H2.out]
  go_wp2_with fail
  refine (zgf_any 3 _ (by omega)).mono ?_; rintro e w3 ⟨rfl, rfl⟩
  go_wp2_with fail
  refine (zgf_any 19 _ (by omega)).mono ?_; rintro e w3 ⟨rfl, rfl⟩
  go_wp2_with fail
  go_ret
  exact ⟨inp.ret_bool (by simp [gfStr]; decide), hb1.trans (hb2.mono hb1.size)⟩

set_option maxHeartbeats 400000 in
theorem at_4 (w : World) : Calls Try.prog 10 #[.int .i64 4] w fun e w' => e = .returned (.bool true) ∧ Below w.heap.size w w' := by
  have hq : (([103, 111, 106, 113, 46, 79, 112, 85, 112, 100, 97, 116, 101, 83, 117, 98] : List UInt8) == ((⟨#[103, 111, 106, 113, 46, 79, 112, 85, 112, 100, 97, 116, 101]⟩ : ByteArray) ++ (⟨#[103, 111, 106, 113, 46, 79, 112, 83, 117, 98]⟩ : ByteArray).extract 7 10).toList) = true := by rw [ByteArray.toList_eq]; decide +kernel
  have h1 : opStr 4 = ⟨#[103, 111, 106, 113, 46, 79, 112, 83, 117, 98]⟩ := rfl
  have h2 : opStr 20 = ⟨#[103, 111, 106, 113, 46, 79, 112, 85, 112, 100, 97, 116, 101, 83, 117, 98]⟩ := rfl
  have H1 := Lib.hid h1
  have H2 := Lib.hid h2
  clear h1 h2
  go_enter Try.func10, Try.ntmps10
  go_wp2_with fail
  refine (op_4 _).mono ?_; rintro e w1 ⟨rfl, hb1⟩
  rw [H1.out]
  go_wp2_with fail
  refine (op_20 _).mono ?_; rintro e w2 ⟨rfl, hb2⟩
  rw [H2.out]
  go_wp2_with fail
  refine (zgf_any 4 _ (by omega)).mono ?_; rintro e w3 ⟨rfl, rfl⟩
  go_wp2_with fail
  refine (zgf_any 20 _ (by omega)).mono ?_; rintro e w3 ⟨rfl, rfl⟩
  go_wp2_with fail
  go_ret
  exact ⟨inp.ret_bool (by simp [gfStr]; decide), hb1.trans (hb2.mono hb1.size)⟩

set_option maxHeartbeats 400000 in
theorem at_5 (w : World) : Calls Try.prog 10 #[.int .i64 5] w fun e w' => e = .returned (.bool true) ∧ Below w.heap.size w w' := by
  have hq : (([103, 111, 106, 113, 46, 79, 112, 85, 112, 100, 97, 116, 101, 77, 117, 108] : List UInt8) == ((⟨#[103, 111, 106, 113, 46, 79, 112, 85, 112, 100, 97, 116, 101]⟩ : ByteArray) ++ (⟨#[103, 111, 106, 113, 46, 79, 112, 77, 117, 108]⟩ : ByteArray).extract 7 10).toList) = true := by rw [ByteArray.toList_eq]; decide +kernel
  have h1 : opStr 5 = ⟨#[103, 111, 106, 113, 46, 79, 112, 77, 117, 108]⟩ := rfl
  have h2 : opStr 21 = ⟨#[103, 111, 106, 113, 46, 79, 112, 85, 112, 100, 97, 116, 101, 77, 117, 108]⟩ := rfl
  have H1 := Lib.hid h1
  have H2 := Lib.hid h2
  clear h1 h2
  go_enter Try.func10, Try.ntmps10
  go_wp2_with fail
  refine (op_5 _).mono ?_; rintro e w1 ⟨rfl, hb1⟩
  rw [H1.out]
  go_wp2_with fail
  refine (op_21 _).mono ?_; rintro e w2 ⟨rfl, hb2⟩
  rw [H2.out]
  go_wp2_with fail
  refine (zgf_any 5 _ (by omega)).mono ?_; rintro e w3 ⟨rfl, rfl⟩
  go_wp2_with fail
  refine (zgf_any 21 _ (by omega)).mono ?_; rintro e w3 ⟨rfl, rfl⟩
  go_wp2_with fail
  go_ret
  exact ⟨inp.ret_bool (by simp [gfStr]; decide), hb1.trans (hb2.mono hb1.size)⟩

set_option maxHeartbeats 400000 in
theorem at_6 (w : World) : Calls Try.prog 10 #[.int .i64 6] w fun e w' => e = .returned (.bool true) ∧ Below w.heap.size w w' := by
  have hq : (([103, 111, 106, 113, 46, 79, 112, 85, 112, 100, 97, 116, 101, 68, 105, 118] : List UInt8) == ((⟨#[103, 111, 106, 113, 46, 79, 112, 85, 112, 100, 97, 116, 101]⟩ : ByteArray) ++ (⟨#[103, 111, 106, 113, 46, 79, 112, 68, 105, 118]⟩ : ByteArray).extract 7 10).toList) = true := by rw [ByteArray.toList_eq]; decide +kernel
  have h1 : opStr 6 = ⟨#[103, 111, 106, 113, 46, 79, 112, 68, 105, 118]⟩ := rfl
  have h2 : opStr 22 = ⟨#[103, 111, 106, 113, 46, 79, 112, 85, 112, 100, 97, 116, 101, 68, 105, 118]⟩ := rfl
  have H1 := Lib.hid h1
  have H2 := Lib.hid h2
  clear h1 h2
  go_enter Try.func10, Try.ntmps10
  go_wp2_with fail
  refine (op_6 _).mono ?_; rintro e w1 ⟨rfl, hb1⟩
  rw [H1.out]
  go_wp2_with fail
  refine (op_22 _).mono ?_; rintro e w2 ⟨rfl, hb2⟩
  rw [H2.out]
  go_wp2_with fail
  refine (zgf_any 6 _ (by omega)).mono ?_; rintro e w3 ⟨rfl, rfl⟩
  go_wp2_with fail
  refine (zgf_any 22 _ (by omega)).mono ?_; rintro e w3 ⟨rfl, rfl⟩
  go_wp2_with fail
  go_ret
  exact ⟨inp.ret_bool (by simp [gfStr]; decide), hb1.trans (hb2.mono hb1.size)⟩

set_option maxHeartbeats 400000 in
theorem at_7 (w : World) : Calls Try.prog 10 #[.int .i64 7] w fun e w' => e = .returned (.bool true) ∧ Below w.heap.size w w' := by
  have hq : (([103, 111, 106, 113, 46, 79, 112, 85, 112, 100, 97, 116, 101, 77, 111, 100] : List UInt8) == ((⟨#[103, 111, 106, 113, 46, 79, 112, 85, 112, 100, 97, 116, 101]⟩ : ByteArray) ++ (⟨#[103, 111, 106, 113, 46, 79, 112, 77, 111, 100]⟩ : ByteArray).extract 7 10).toList) = true := by rw [ByteArray.toList_eq]; decide +kernel
  have h1 : opStr 7 = ⟨#[103, 111, 106, 113, 46, 79, 112, 77, 111, 100]⟩ := rfl
  have h2 : opStr 23 = ⟨#[103, 111, 106, 113, 46, 79, 112, 85, 112, 100, 97, 116, 101, 77, 111, 100]⟩ := rfl
  have H1 := Lib.hid h1
  have H2 := Lib.hid h2
  clear h1 h2
  go_enter Try.func10, Try.ntmps10
  go_wp2_with fail
  refine (op_7 _).mono ?_; rintro e w1 ⟨rfl, hb1⟩
  rw [H1.out]
  go_wp2_with fail
  refine (op_23 _).mono ?_; rintro e w2 ⟨rfl, hb2⟩
  rw [H2.out]
  go_wp2_with fail
  refine (zgf_any 7 _ (by omega)).mono ?_; rintro e w3 ⟨rfl, rfl⟩
  go_wp2_with fail
  refine (zgf_any 23 _ (by omega)).mono ?_; rintro e w3 ⟨rfl, rfl⟩
  go_wp2_with fail
  go_ret
  exact ⟨inp.ret_bool (by simp [gfStr]; decide), hb1.trans (hb2.mono hb1.size)⟩

set_option maxHeartbeats 400000 in
theorem at_16 (w : World) : Calls Try.prog 10 #[.int .i64 16] w fun e w' => e = .returned (.bool true) ∧ Below w.heap.size w w' := by
  have hq : (([103, 111, 106, 113, 46, 79, 112, 85, 112, 100, 97, 116, 101, 65, 108, 116] : List UInt8) == ((⟨#[103, 111, 106, 113, 46, 79, 112, 85, 112, 100, 97, 116, 101]⟩ : ByteArray) ++ (⟨#[103, 111, 106, 113, 46, 79, 112, 65, 108, 116]⟩ : ByteArray).extract 7 10).toList) = true := by rw [ByteArray.toList_eq]; decide +kernel
  have h1 : opStr 16 = ⟨#[103, 111, 106, 113, 46, 79, 112, 65, 108, 116]⟩ := rfl
  have h2 : opStr 24 = ⟨#[103, 111, 106, 113, 46, 79, 112, 85, 112, 100, 97, 116, 101, 65, 108, 116]⟩ := rfl
  have H1 := Lib.hid h1
  have H2 := Lib.hid h2
  clear h1 h2
  go_enter Try.func10, Try.ntmps10
  go_wp2_with fail
  refine (op_16 _).mono ?_; rintro e w1 ⟨rfl, hb1⟩
  rw [H1.out]
  go_wp2_with fail
  refine (op_24 _).mono ?_; rintro e w2 ⟨rfl, hb2⟩
  rw [H2.out]
  go_wp2_with fail
  go_ret
  exact ⟨rfl, hb1.trans (hb2.mono hb1.size)⟩

theorem walk (a0 : Int) (w : World) (_ : (Lit.int .i64 a0).wf = true) :
    Calls Try.prog 10 #[.int .i64 a0] w fun e w' => e = .returned (.bool true) ∧ Below w.heap.size w w' := by
  by_cases hc : a0 = 3 ∨ a0 = 4 ∨ a0 = 5 ∨ a0 = 6 ∨ a0 = 7 ∨ a0 = 16
  · rcases hc with rfl | rfl | rfl | rfl | rfl | rfl
    · exact at_3 w
    · exact at_4 w
    · exact at_5 w
    · exact at_6 w
    · exact at_7 w
    · exact at_16 w
  · have hne : (a0 != 16) = true := by simp; omega
    have hn2 : (a0 == 16) = false := by simp; omega
    by_cases h3 : 3 ≤ a0
    · have h7 : decide (a0 ≤ 7) = false := by simp; omega
      clear hc
      go_enter Try.func10, Try.ntmps10
      go_wp2_with fail
      go_ret
      exact ⟨rfl, Below.refl _ _⟩
    · have h7 : decide (3 ≤ a0) = false := by simp; omega
      clear hc
      go_enter Try.func10, Try.ntmps10
      go_wp2_with fail
      go_ret
      exact ⟨rfl, Below.refl _ _⟩
end Go.Proofs.Ytlpgcdfndgcgeaa.fnOperatorUpdateAgrees
