/- The walk of the law FnTermTypeGoStringInjective: it returns true at every two integers. -/
import Derived.Test.YtlpgcdfndgcgeaaNames
import Derived.Test.YtlpgcdfndgcgeaaBase
namespace Go.Proofs.Ytlpgcdfndgcgeaa.fnTermTypeGoStringInjective
open Go.ChangeShapes Go.WideShapes Go.ChangeAt Go.RowKit
open names

theorem table : ∀ a : Fin 21, ∀ b : Fin 21, 1 ≤ a.val → 1 ≤ b.val → ((ttB a.val == ttB b.val) == (a.val == b.val)) = true := by decide +kernel

theorem inj (a b : Int) (h0 : 1 ≤ a) (h1 : a ≤ 20) (h2 : 1 ≤ b) (h3 : b ≤ 20) : (((ttStr a).toList == (ttStr b).toList) == (a == b)) = true := by
  unfold ttStr
  rw [ByteArray.toList_mk, ByteArray.toList_mk]
  have ht := table ⟨a.toNat, by omega⟩ ⟨b.toNat, by omega⟩ (by simp; omega) (by simp; omega)
  have he : (a == b) = (a.toNat == b.toNat) := by rw [Bool.eq_iff_iff]; simp; omega
  rw [he]; exact ht

theorem walk (a0 : Int) (a1 : Int) (w : World) (_ : (Lit.int .i64 a0).wf = true) (_ : (Lit.int .i64 a1).wf = true) :
    Calls Try.prog 5 #[.int .i64 a0, .int .i64 a1] w fun e w' => e = .returned (.bool true) ∧ Below w.heap.size w w' := by
  by_cases c0 : a0 < 1
  · go_enter Try.func5, Try.ntmps5
    go_wp2
    go_ret
    exact ⟨rfl, Below.refl _ _⟩
  by_cases c1 : 20 < a0
  · go_enter Try.func5, Try.ntmps5
    go_wp2
    go_ret
    exact ⟨rfl, Below.refl _ _⟩
  by_cases c2 : a1 < 1
  · go_enter Try.func5, Try.ntmps5
    go_wp2
    go_ret
    exact ⟨rfl, Below.refl _ _⟩
  by_cases c3 : 20 < a1
  · go_enter Try.func5, Try.ntmps5
    go_wp2
    go_ret
    exact ⟨rfl, Below.refl _ _⟩
  have H : Hid ((((ttStr a0).toList == (ttStr a1).toList) == (a0 == a1)) = true) := inj a0 a1 (by omega) (by omega) (by omega) (by omega)
  go_enter Try.func5, Try.ntmps5
  go_wp2_with fail
  refine (tt_any _ _ (by omega)).mono ?_; rintro e w1 ⟨rfl, hb1⟩
  go_wp2_with fail
  refine (tt_any _ _ (by omega)).mono ?_; rintro e w2 ⟨rfl, hb2⟩
  go_wp2_with fail
  go_ret
  exact ⟨inp.ret_bool H.out, hb1.trans (hb2.mono hb1.size)⟩
end Go.Proofs.Ytlpgcdfndgcgeaa.fnTermTypeGoStringInjective
