/- The walk of the law FnLengthStringRunes: it returns true at every string. -/
import Derived.Test.YtiegckcmgdfjeaaStr
import Derived.Test.YtiegckcmgdfjeaaWidth
namespace Go.Proofs.Ytiegckcmgdfjeaa.fnLengthStringRunes
open Go.ChangeShapes Go.WideShapes Go.ChangeAt Go.RowKit
open types str

theorem walk (a0 : ByteArray) (w : World) (_w0 : a0.size ≤ maxLen) :
    Calls Try.prog 4 #[.string a0] w fun e w' => e = .returned (.bool true) ∧ Below w.heap.size w w' := by
  by_cases h : a0.size ≤ 1048576
  · go_enter Try.func4, Try.ntmps4
    go_wp2_with (first | (go_at_call 16; refine (zb16_yes _ _ h).mono ?_; rintro e w1 ⟨rfl, rfl⟩) | (go_at_call 17; refine (zlen_str _ _ h).mono ?_; rintro e w1 ⟨rfl, hb1⟩) | (go_at_call 18; refine (width.count _ _ h).mono ?_; rintro e w2 ⟨rfl, rfl⟩))
    go_ret
    exact ⟨by simp, hb1⟩
  · go_enter Try.func4, Try.ntmps4
    go_wp2_with (go_at_call 16; refine (zb16_no _ _ (by omega)).mono ?_; rintro e w1 ⟨rfl, rfl⟩)
    go_ret
    exact ⟨rfl, Below.refl _ _⟩
end Go.Proofs.Ytiegckcmgdfjeaa.fnLengthStringRunes
