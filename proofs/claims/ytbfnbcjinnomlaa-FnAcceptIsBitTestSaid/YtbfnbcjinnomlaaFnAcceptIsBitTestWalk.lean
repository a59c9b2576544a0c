/- The walk of the law FnAcceptIsBitTest: it returns true at every two integers. -/
import Derived.Test.YtbfnbcjinnomlaaAccept
import Derived.Outline
namespace Go.Proofs.Ytbfnbcjinnomlaa.fnAcceptIsBitTest
open Go.ChangeShapes Go.WideShapes Go.ChangeAt Go.RowKit
open accept

theorem walk (a0 : Int) (a1 : Int) (w : World) (_ : (Lit.int .i64 a0).wf = true) (_ : (Lit.int .i64 a1).wf = true) :
    Calls Try.prog 3 #[.int .i64 a0, .int .i64 a1] w fun e w' => e = .returned (.bool true) ∧ Below w.heap.size w w' := by
  by_cases h : a1 < 0
  · go_enter Try.func3, Try.ntmps3
    go_wp2
    go_ret
    exact ⟨rfl, Below.refl _ _⟩
  · go_enter Try.func3, Try.ntmps3
    go_wp2_with (first | (go_at_call 12; refine (newf _ _).mono ?_; rintro e w1 ⟨rfl, hb1⟩) | (go_at_call 11; refine (zacc _ _ _ _ _ (by omega)).mono ?_; rintro e w2 ⟨rfl, hb2⟩) | (go_at_call 13; refine (bit_of _ _ _ (by omega)).mono ?_; rintro e w3 ⟨rfl, rfl⟩))
    go_ret
    exact ⟨by simp, hb1.trans (hb2.mono hb1.size)⟩
end Go.Proofs.Ytbfnbcjinnomlaa.fnAcceptIsBitTest
