/- The walk of the law FnGetFuncShape: it returns true at every integer. -/
import Derived.Test.YtlpgcdfndgcgeaaDomain
namespace Go.Proofs.Ytlpgcdfndgcgeaa.fnGetFuncShape
open Go.ChangeShapes Go.WideShapes Go.ChangeAt Go.RowKit
open names domain

theorem table : ∀ a : Fin 25, inDom a.val → 2 ≤ (gfB a.val).length ∧ (gfB a.val).length ≤ 20 ∧ (gfB a.val).getD 0 0 = 95 ∧ ∀ k : Fin 20, 1 ≤ k.val → k.val < (gfB a.val).length → 97 ≤ ((gfB a.val).getD k.val 0).toNat ∧ ((gfB a.val).getD k.val 0).toNat ≤ 122 := by
  unfold inDom; decide +kernel

theorem facts (a : Int) (h0 : inDom a) : 2 ≤ (gfStr a).size ∧ (gfStr a).size ≤ 20 ∧ (∀ h : 0 < (gfStr a).size, (gfStr a)[0].toNat = 95) ∧ ∀ (k : Nat) (h : k < (gfStr a).size), 1 ≤ k → 97 ≤ (gfStr a)[k].toNat ∧ (gfStr a)[k].toNat ≤ 122 := by
  have g0 := h0
  unfold inDom at g0
  have e0 : ((a.toNat : Nat) : Int) = a := by omega
  have ht := table ⟨a.toNat, by omega⟩ (by show inDom ((a.toNat : Nat) : Int); rw [e0]; exact h0)
  unfold gfStr
  obtain ⟨t1, t2, t3, t4⟩ := ht
  have t2b : (gfB a.toNat).length ≤ 20 := t2
  refine ⟨by rw [size_mk]; exact t1, by rw [size_mk]; exact t2, fun h => ?_, fun k h hk => ?_⟩
  · rw [byte_at]; show ((gfB a.toNat).getD 0 0).toNat = 95; rw [t3]; rfl
  · rw [byte_at]; rw [size_mk] at h; exact t4 ⟨k, by omega⟩ hk h

set_option maxHeartbeats 400000 in
theorem walk (a0 : Int) (w : World) (_ : (Lit.int .i64 a0).wf = true) :
    Calls Try.prog 6 #[.int .i64 a0] w fun e w' => e = .returned (.bool true) ∧ Below w.heap.size w w' := by
  by_cases h0 : inDom a0
  · have hf := facts a0 h0
    generalize hs : gfStr a0 = s at hf
    obtain ⟨f1, f2, f3, f4⟩ := hf
    have f3' := f3 (by omega)
    have F4 := Lib.hid f4
    have HS := Lib.hid hs
    clear f3 f4 hs
    have hd : decide ((s.size : Int) < 2) = false := by simp; omega
    go_enter Try.func6, Try.ntmps6
    go_wp2_with fail
    refine (dom_yes _ _ h0).mono ?_; rintro e w1 ⟨rfl, rfl⟩
    go_wp2_with fail
    refine (zgf_any _ _ h0).mono ?_; rintro e w1 ⟨rfl, rfl⟩
    rw [HS.out]
    go_wp2_with fail
    go_loop [4] (fun i => ∃ k : Nat, 1 ≤ k ∧ k ≤ s.size ∧ i = .int .i64 k) (fun i => s.size - (intOf i).toNat)
    case atStart => exact ⟨1, by omega, by omega, rfl⟩
    case round =>
      obtain ⟨k, hk1, hk2, rfl⟩ := hrel
      by_cases hlt : k < s.size
      · have hb := F4.out k hlt hk1
        go_wp2_with (go_at_call 16; refine (low _ _ (by omega) (by omega)).mono ?_; rintro e w' ⟨rfl, rfl⟩)
        go_round
        case rel => exact ⟨k + 1, by omega, by omega, by go_num⟩
        case measure => simp [intOf]; omega
      · go_wp2_with fail
        go_ret
        exact ⟨rfl, Below.refl _ _⟩
  · go_enter Try.func6, Try.ntmps6
    go_wp2_with fail
    refine (dom_no _ _ h0).mono ?_; rintro e w1 ⟨rfl, rfl⟩
    go_wp2_with fail
    go_ret
    exact ⟨rfl, Below.refl _ _⟩
end Go.Proofs.Ytlpgcdfndgcgeaa.fnGetFuncShape
