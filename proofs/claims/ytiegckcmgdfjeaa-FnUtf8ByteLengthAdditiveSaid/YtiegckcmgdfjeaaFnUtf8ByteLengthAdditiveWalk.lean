/- The walk of the law FnUtf8ByteLengthAdditive: it returns true at every two strings and int. -/
import Derived.Test.YtiegckcmgdfjeaaStr
namespace Go.Proofs.Ytiegckcmgdfjeaa.fnUtf8ByteLengthAdditive
open Go.ChangeShapes Go.WideShapes Go.ChangeAt Go.RowKit
open types str

theorem zutf_at (s : ByteArray) (n : Nat) (w : World) (h : Hid (s.size = n)) : Calls Try.prog 33 #[.string s] w fun e w' => e = .returned (.tuple #[.int .i64 n, .bool true]) ∧ w = w' := by
  have := zutf_str s w
  rw [h.out] at this
  exact this

set_option maxRecDepth 100000 in
set_option maxHeartbeats 1000000 in
theorem walk (a0 : ByteArray) (a1 : ByteArray) (a2 : Int) (w : World) (w0 : a0.size ≤ maxLen) (w1 : a1.size ≤ maxLen) (_w2 : (Lit.int .i64 a2).wf = true) :
    Calls Try.prog 11 #[.string a0, .string a1, .int .i64 a2] w fun e w' => e = .returned (.bool true) ∧ Below w.heap.size w w' := by
  by_cases h : a0.size + a1.size ≤ 1048576
  · clear w0 w1
    go_enter Try.func11, Try.ntmps11
    go_wp2_with (first | (go_at_call 37; refine (zb37_yes _ _ _ _ h).mono ?_; rintro e w1 ⟨rfl, rfl⟩) | (go_at_call 33; refine (zutf_str _ _).mono ?_; rintro e w1 ⟨rfl, rfl⟩))
    go_loop [15] (fun i => ∃ k : Nat, k ≤ a0.size ∧ i = .int .i64 k) (fun i => a0.size - (intOf i).toNat)
    case atStart => exact ⟨0, Nat.zero_le _, rfl⟩
    case round =>
      obtain ⟨k, hk, rfl⟩ := hrel
      by_cases hlt : k < a0.size
      · have hx : Hid ((a0.extract k (k + 1)).size = 1) := by unfold Hid; simp; omega
        go_wp2_with (go_at_call 33; refine (zutf_at _ 1 _ hx).mono ?_; rintro e w1 ⟨rfl, rfl⟩)
        go_round
        case rel => exact ⟨k + 1, by omega, by go_num⟩
        case measure => simp [intOf]; omega
      · go_wp2_with (go_at_call 38; refine (zutf_int _ _).mono ?_; rintro e w1 ⟨rfl, hb⟩)
        go_ret
        exact ⟨rfl, hb⟩
  · go_enter Try.func11, Try.ntmps11
    go_wp2_with (go_at_call 37; refine (zb37_no _ _ _ _ w0 w1 (by omega)).mono ?_; rintro e w1 ⟨rfl, rfl⟩)
    go_ret
    exact ⟨rfl, Below.refl _ _⟩
end Go.Proofs.Ytiegckcmgdfjeaa.fnUtf8ByteLengthAdditive
