/- The walk of the law FnAcceptUnionIntersection: it returns true at every three integers. -/
import Derived.Test.YtbfnbcjinnomlaaAccept
import Derived.Test.YtbfnbcjinnomlaaBase
namespace Go.Proofs.Ytbfnbcjinnomlaa.fnAcceptUnionIntersection
open Go.ChangeShapes Go.WideShapes Go.ChangeAt Go.RowKit
open accept

theorem i64_toNat (x : BitVec 64) : BitVec.ofInt 64 (IntKind.i64.wrap (x.toNat : Int)) = x := by
  rw [pbits.i64_ofInt, BitVec.ofInt_natCast, BitVec.ofNat_toNat]; simp

theorem bit_or (a b c : Int) : bitB (bits .or .i64 a b) c = (bitB a c || bitB b c) := by
  unfold bitB
  have : BitVec.ofInt 64 (bits .or .i64 a b) = BitVec.ofInt 64 a ||| BitVec.ofInt 64 b := i64_toNat _
  rw [this, BitVec.getLsbD_or]
theorem bit_and (a b c : Int) : bitB (bits .and .i64 a b) c = (bitB a c && bitB b c) := by
  unfold bitB
  have : BitVec.ofInt 64 (bits .and .i64 a b) = BitVec.ofInt 64 a &&& BitVec.ofInt 64 b := i64_toNat _
  rw [this, BitVec.getLsbD_and]
theorem bit_andNot (a b c : Int) : bitB (bits .andNot .i64 a b) c = (bitB a c && !bitB b c) := by
  unfold bitB
  have : BitVec.ofInt 64 (bits .andNot .i64 a b) = BitVec.ofInt 64 a &&& ~~~BitVec.ofInt 64 b := i64_toNat _
  rw [this, BitVec.getLsbD_and, BitVec.getLsbD_not]
  by_cases h : c.toNat < 64
  · simp [h]
  · simp [BitVec.getLsbD_of_ge _ c.toNat (Nat.le_of_not_lt h)]

theorem walk (a0 : Int) (a1 : Int) (a2 : Int) (w : World) (_ : (Lit.int .i64 a0).wf = true) (_ : (Lit.int .i64 a1).wf = true) (_ : (Lit.int .i64 a2).wf = true) :
    Calls Try.prog 7 #[.int .i64 a0, .int .i64 a1, .int .i64 a2] w fun e w' => e = .returned (.bool true) ∧ Below w.heap.size w w' := by
  by_cases h : a2 < 0
  · go_enter Try.func7, Try.ntmps7
    go_wp2
    go_ret
    exact ⟨rfl, Below.refl _ _⟩
  · have h1 := Lib.hid (bit_or a0 a1 a2)
    have h2 := Lib.hid (bit_and a0 a1 a2)
    have h3 := Lib.hid (bit_andNot a0 a1 a2)
    go_enter Try.func7, Try.ntmps7
    go_wp2_with fail
    refine (newf _ _).mono ?_; rintro e w1 ⟨rfl, hb1⟩
    go_wp2_with fail
    refine (zacc _ _ _ _ _ (by omega)).mono ?_; rintro e w2 ⟨rfl, hb2⟩
    go_wp2_with fail
    refine (newf _ _).mono ?_; rintro e w3 ⟨rfl, hb3⟩
    go_wp2_with fail
    refine (zacc _ _ _ _ _ (by omega)).mono ?_; rintro e w4 ⟨rfl, hb4⟩
    go_wp2_with fail
    refine (newf _ _).mono ?_; rintro e w5 ⟨rfl, hb5⟩
    go_wp2_with fail
    refine (zacc _ _ _ _ _ (by omega)).mono ?_; rintro e w6 ⟨rfl, hb6⟩
    go_wp2_with fail
    refine (newf _ _).mono ?_; rintro e w7 ⟨rfl, hb7⟩
    go_wp2_with fail
    refine (zacc _ _ _ _ _ (by omega)).mono ?_; rintro e w8 ⟨rfl, hb8⟩
    go_wp2_with fail
    refine (newf _ _).mono ?_; rintro e w9 ⟨rfl, hb9⟩
    go_wp2_with fail
    refine (zacc _ _ _ _ _ (by omega)).mono ?_; rintro e w10 ⟨rfl, hb10⟩
    rw [h1.out, h2.out, h3.out]
    have b2 := hb1.trans (hb2.mono hb1.size)
    have b3 := b2.trans (hb3.mono b2.size)
    have b4 := b3.trans (hb4.mono b3.size)
    have b5 := b4.trans (hb5.mono b4.size)
    have b6 := b5.trans (hb6.mono b5.size)
    have b7 := b6.trans (hb7.mono b6.size)
    have b8 := b7.trans (hb8.mono b7.size)
    have b9 := b8.trans (hb9.mono b8.size)
    have b10 := b9.trans (hb10.mono b9.size)
    clear h1 h2 h3 hb1 hb2 hb3 hb4 hb5 hb6 hb7 hb8 hb9 hb10 b2 b3 b4 b5 b6 b7 b8 b9
    cases bitB a0 a2 <;> cases bitB a1 a2
    all_goals
      go_wp2
      go_ret
      exact ⟨rfl, b10⟩
end Go.Proofs.Ytbfnbcjinnomlaa.fnAcceptUnionIntersection
