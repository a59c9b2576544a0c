/- The walk of the law FnGetFuncKernel: it returns true at every two integers. -/
import Derived.Test.YtlpgcdfndgcgeaaDomain
namespace Go.Proofs.Ytlpgcdfndgcgeaa.fnGetFuncKernel
open Go.ChangeShapes Go.WideShapes Go.ChangeAt Go.RowKit
open names domain

theorem table : ∀ a : Fin 25, ∀ b : Fin 25, inDom a.val → inDom b.val → ((gfB a.val == gfB b.val) == (canonZ a.val == canonZ b.val)) = true := by
  unfold inDom; decide +kernel

theorem kern (a b : Int) (h0 : inDom a) (h1 : inDom b) : (((gfStr a).toList == (gfStr b).toList) == (canonZ a == canonZ b)) = true := by
  unfold gfStr
  rw [ByteArray.toList_mk, ByteArray.toList_mk]
  have g0 := h0
  have g1 := h1
  unfold inDom at g0 g1
  have e0 : ((a.toNat : Nat) : Int) = a := by omega
  have e1 : ((b.toNat : Nat) : Int) = b := by omega
  have ht := table ⟨a.toNat, by omega⟩ ⟨b.toNat, by omega⟩ (by show inDom ((a.toNat : Nat) : Int); rw [e0]; exact h0) (by show inDom ((b.toNat : Nat) : Int); rw [e1]; exact h1)
  simp only [e0, e1] at ht
  exact ht

theorem walk (a0 : Int) (a1 : Int) (w : World) (_ : (Lit.int .i64 a0).wf = true) (_ : (Lit.int .i64 a1).wf = true) :
    Calls Try.prog 3 #[.int .i64 a0, .int .i64 a1] w fun e w' => e = .returned (.bool true) ∧ Below w.heap.size w w' := by
  by_cases h0 : inDom a0
  · by_cases h1 : inDom a1
    · have H : Hid ((((gfStr a0).toList == (gfStr a1).toList) == (canonZ a0 == canonZ a1)) = true) := kern a0 a1 h0 h1
      go_enter Try.func3, Try.ntmps3
      go_wp2_with fail
      refine (dom_yes _ _ h0).mono ?_; rintro e w1 ⟨rfl, rfl⟩
      go_wp2_with fail
      refine (dom_yes _ _ h1).mono ?_; rintro e w1 ⟨rfl, rfl⟩
      go_wp2_with fail
      refine (zgf_any _ _ h0).mono ?_; rintro e w1 ⟨rfl, rfl⟩
      go_wp2_with fail
      refine (zgf_any _ _ h1).mono ?_; rintro e w1 ⟨rfl, rfl⟩
      go_wp2_with (go_at_call 13; refine (canon_any _ _).mono ?_; rintro e w1 ⟨rfl, rfl⟩)
      go_ret
      exact ⟨inp.ret_bool H.out, Below.refl _ _⟩
    · go_enter Try.func3, Try.ntmps3
      go_wp2_with fail
      refine (dom_yes _ _ h0).mono ?_; rintro e w1 ⟨rfl, rfl⟩
      go_wp2_with fail
      refine (dom_no _ _ h1).mono ?_; rintro e w1 ⟨rfl, rfl⟩
      go_wp2_with fail
      go_ret
      exact ⟨rfl, Below.refl _ _⟩
  · go_enter Try.func3, Try.ntmps3
    go_wp2_with fail
    refine (dom_no _ _ h0).mono ?_; rintro e w1 ⟨rfl, rfl⟩
    go_wp2_with fail
    go_ret
    exact ⟨rfl, Below.refl _ _⟩
end Go.Proofs.Ytlpgcdfndgcgeaa.fnGetFuncKernel
