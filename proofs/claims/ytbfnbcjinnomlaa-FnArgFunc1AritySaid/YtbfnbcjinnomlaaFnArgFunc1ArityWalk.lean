/- The walk of the law FnArgFunc1Arity: it returns true at every integer. -/
import Derived.Test.YtbfnbcjinnomlaaArgFunc
import Derived.Test.YtbfnbcjinnomlaaBase
namespace Go.Proofs.Ytbfnbcjinnomlaa.fnArgFunc1Arity
open Go.ChangeShapes Go.WideShapes Go.ChangeAt Go.RowKit
open accept argfunc

theorem bit_one (c : Int) (_h : 0 ≤ c) : bitB 2 c = (c == 1) := by
  unfold bitB
  have e : BitVec.ofInt 64 2 = BitVec.twoPow 64 1 := by decide
  rw [e, BitVec.getLsbD_twoPow, Bool.eq_iff_iff]
  simp
  omega

theorem walk (a0 : Int) (w : World) (_ : (Lit.int .i64 a0).wf = true) :
    Calls Try.prog 6 #[.int .i64 a0] w fun e w' => e = .returned (.bool true) ∧ Below w.heap.size w w' := by
  by_cases h : a0 < 0
  · go_enter Try.func6, Try.ntmps6
    go_wp2
    go_ret
    exact ⟨rfl, Below.refl _ _⟩
  · have hb : (bitB 2 a0 == (a0 == 1)) = true := by rw [bit_one a0 (by omega)]; simp
    go_enter Try.func6, Try.ntmps6
    go_wp2_with (first | (go_at_call 17; refine (zarg1 _).mono ?_; rintro e w1 ⟨rfl, hb1⟩) | (go_at_call 11; refine (zacc _ _ _ _ _ (by omega)).mono ?_; rintro e w2 ⟨rfl, hb2⟩; obtain ⟨hc2, hf2⟩ := inp.bcell hb2) | (go_at_call 16; refine (ziter _ _ _ _).mono ?_; rintro e w3 ⟨rfl, hb3⟩))
    go_ret
    refine ⟨rfl, ?_⟩
    have b1 := hb1.1
    exact ((b1.alloc b1.size _).trans (hb2.mono (by have := b1.size; simp; omega))).trans (hb3.mono (by have := b1.size; have := hb2.size; simp at this; omega))
end Go.Proofs.Ytbfnbcjinnomlaa.fnArgFunc1Arity
