/- The walk of the law FnAbsRefusesNonNumbers: it returns true at every string and bool. -/
import Derived.Test.YtiegckcmgdfjeaaStr
namespace Go.Proofs.Ytiegckcmgdfjeaa.fnAbsRefusesNonNumbers
open Go.ChangeShapes Go.WideShapes Go.ChangeAt Go.RowKit
open types str

theorem walk (a0 : ByteArray) (a1 : Bool) (w : World) (_w0 : a0.size ≤ maxLen) :
    Calls Try.prog 5 #[.string a0, .bool a1] w fun e w' => e = .returned (.bool true) ∧ Below w.heap.size w w' := by
  by_cases h : a0.size ≤ 1048576
  · go_enter Try.func5, Try.ntmps5
    go_wp2_with (first | (go_at_call 19; refine (zb19_yes _ _ _ h).mono ?_; rintro e w1 ⟨rfl, rfl⟩) | (go_at_call 20; refine (zabs_str _ _).mono ?_; rintro e w1 ⟨rfl, hb1⟩) | (go_at_call 21; refine (zabs_nil _).mono ?_; rintro e w2 ⟨rfl, hb2⟩) | (go_at_call 22; refine (zabs_bool _ _).mono ?_; rintro e w3 ⟨rfl, hb3⟩) | (go_at_call 17; refine (zlen_str _ _ h).mono ?_; rintro e w4 ⟨rfl, hb4⟩))
    go_ret
    have b2 := hb1.trans (hb2.mono hb1.size)
    have b3 := b2.trans (hb3.mono b2.size)
    exact ⟨rfl, b3.trans (hb4.mono b3.size)⟩
  · go_enter Try.func5, Try.ntmps5
    go_wp2_with (go_at_call 19; refine (zb19_no _ _ _ (by omega)).mono ?_; rintro e w1 ⟨rfl, rfl⟩)
    go_ret
    exact ⟨rfl, Below.refl _ _⟩
end Go.Proofs.Ytiegckcmgdfjeaa.fnAbsRefusesNonNumbers
