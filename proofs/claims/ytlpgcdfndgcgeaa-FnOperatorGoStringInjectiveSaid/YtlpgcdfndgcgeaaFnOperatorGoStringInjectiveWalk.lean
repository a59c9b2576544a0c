/- The walk of the law FnOperatorGoStringInjective: it returns true at every two integers. -/
import Derived.Test.YtlpgcdfndgcgeaaNames
import Derived.Test.YtlpgcdfndgcgeaaBase
namespace Go.Proofs.Ytlpgcdfndgcgeaa.fnOperatorGoStringInjective
open Go.ChangeShapes Go.WideShapes Go.ChangeAt Go.RowKit
open names

theorem table : ∀ a : Fin 25, ∀ b : Fin 25, 0 ≤ a.val → 0 ≤ b.val → ((opB a.val == opB b.val) == (a.val == b.val)) = true := by decide +kernel

theorem inj (a b : Int) (h0 : 0 ≤ a) (h1 : a ≤ 24) (h2 : 0 ≤ b) (h3 : b ≤ 24) : (((opStr a).toList == (opStr b).toList) == (a == b)) = true := by
  unfold opStr
  rw [ByteArray.toList_mk, ByteArray.toList_mk]
  have ht := table ⟨a.toNat, by omega⟩ ⟨b.toNat, by omega⟩ (by omega) (by omega)
  have he : (a == b) = (a.toNat == b.toNat) := by rw [Bool.eq_iff_iff]; simp; omega
  rw [he]; exact ht

theorem walk (a0 : Int) (a1 : Int) (w : World) (_ : (Lit.int .i64 a0).wf = true) (_ : (Lit.int .i64 a1).wf = true) :
    Calls Try.prog 4 #[.int .i64 a0, .int .i64 a1] w fun e w' => e = .returned (.bool true) ∧ Below w.heap.size w w' := by
  by_cases c0 : a0 < 0
  · go_enter Try.func4, Try.ntmps4
    go_wp2
    go_ret
    exact ⟨rfl, Below.refl _ _⟩
  by_cases c1 : 24 < a0
  · go_enter Try.func4, Try.ntmps4
    go_wp2
    go_ret
    exact ⟨rfl, Below.refl _ _⟩
  by_cases c2 : a1 < 0
  · go_enter Try.func4, Try.ntmps4
    go_wp2
    go_ret
    exact ⟨rfl, Below.refl _ _⟩
  by_cases c3 : 24 < a1
  · go_enter Try.func4, Try.ntmps4
    go_wp2
    go_ret
    exact ⟨rfl, Below.refl _ _⟩
  have H : Hid ((((opStr a0).toList == (opStr a1).toList) == (a0 == a1)) = true) := inj a0 a1 (by omega) (by omega) (by omega) (by omega)
  go_enter Try.func4, Try.ntmps4
  go_wp2_with fail
  refine (op_any _ _ (by omega)).mono ?_; rintro e w1 ⟨rfl, hb1⟩
  go_wp2_with fail
  refine (op_any _ _ (by omega)).mono ?_; rintro e w2 ⟨rfl, hb2⟩
  go_wp2_with fail
  go_ret
  exact ⟨inp.ret_bool H.out, hb1.trans (hb2.mono hb1.size)⟩
end Go.Proofs.Ytlpgcdfndgcgeaa.fnOperatorGoStringInjective
