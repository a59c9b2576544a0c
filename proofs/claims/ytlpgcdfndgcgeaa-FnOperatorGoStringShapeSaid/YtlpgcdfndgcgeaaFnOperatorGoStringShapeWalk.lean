/- The walk of the law FnOperatorGoStringShape: it returns true at every integer. -/
import Derived.Test.YtlpgcdfndgcgeaaDomain
namespace Go.Proofs.Ytlpgcdfndgcgeaa.fnOperatorGoStringShape
open Go.ChangeShapes Go.WideShapes Go.ChangeAt Go.RowKit
open names domain

theorem table : ∀ a : Fin 25, 1 ≤ a.val → 8 ≤ (opB a.val).length ∧ (opB a.val).length ≤ 40 ∧ (∀ k : Fin 7, (opB a.val).getD k.val 0 = [103, 111, 106, 113, 46, 79, 112].getD k.val 0) ∧ (65 ≤ ((opB a.val).getD 7 0).toNat ∧ ((opB a.val).getD 7 0).toNat ≤ 90) ∧
    ∀ k : Fin 40, 8 ≤ k.val → k.val < (opB a.val).length → (65 ≤ ((opB a.val).getD k.val 0).toNat ∧ ((opB a.val).getD k.val 0).toNat ≤ 90) ∨ (97 ≤ ((opB a.val).getD k.val 0).toNat ∧ ((opB a.val).getD k.val 0).toNat ≤ 122) := by
  decide +kernel

theorem facts (a : Int) (h0 : 1 ≤ a) (h1 : a ≤ 24) : 8 ≤ (opStr a).size ∧ (opStr a).size ≤ 40 ∧ (∀ k (h1 : k < (ByteArray.mk #[103, 111, 106, 113, 46, 79, 112]).size) (h2 : k < (opStr a).size), (opStr a)[k].toNat = (ByteArray.mk #[103, 111, 106, 113, 46, 79, 112])[k].toNat) ∧
    (∀ h : 7 < (opStr a).size, 65 ≤ (opStr a)[7].toNat ∧ (opStr a)[7].toNat ≤ 90) ∧
    ∀ (k : Nat) (h : k < (opStr a).size), 8 ≤ k → (65 ≤ (opStr a)[k].toNat ∧ (opStr a)[k].toNat ≤ 90) ∨ (97 ≤ (opStr a)[k].toNat ∧ (opStr a)[k].toNat ≤ 122) := by
  have ht := table ⟨a.toNat, by omega⟩ (by show 1 ≤ a.toNat; omega)
  unfold opStr
  obtain ⟨t1, t2, t3, t4, t5⟩ := ht
  have t2b : (opB a.toNat).length ≤ 40 := t2
  refine ⟨by rw [size_mk]; exact t1, by rw [size_mk]; exact t2, fun k hk h => ?_, fun h => ?_, fun k h hk => ?_⟩
  · have hp : k < 7 := hk
    rw [byte_at]
    have e2 : (ByteArray.mk #[103, 111, 106, 113, 46, 79, 112])[k] = [103, 111, 106, 113, 46, 79, 112].getD k 0 := byte_at [103, 111, 106, 113, 46, 79, 112] k hk
    rw [e2]
    exact congrArg UInt8.toNat (t3 ⟨k, hp⟩)
  · rw [byte_at]; exact t4
  · rw [byte_at]; rw [size_mk] at h; exact t5 ⟨k, by omega⟩ hk h

set_option maxHeartbeats 800000 in
theorem walk (a0 : Int) (w : World) (_ : (Lit.int .i64 a0).wf = true) :
    Calls Try.prog 9 #[.int .i64 a0] w fun e w' => e = .returned (.bool true) ∧ Below w.heap.size w w' := by
  by_cases c0 : a0 < 0
  · go_enter Try.func9, Try.ntmps9
    go_wp2
    go_ret
    exact ⟨rfl, Below.refl _ _⟩
  by_cases c1 : 24 < a0
  · go_enter Try.func9, Try.ntmps9
    go_wp2
    go_ret
    exact ⟨rfl, Below.refl _ _⟩
  by_cases cz : a0 = 0
  · subst cz
    go_enter Try.func9, Try.ntmps9
    go_wp2_with fail
    refine (op_any _ _ (by omega)).mono ?_; rintro e w1 ⟨rfl, hb1⟩
    go_wp2_with fail
    go_ret
    exact ⟨inp.ret_bool (by simp [opStr]; decide), hb1⟩
  have hne : (a0 == 0) = false := by simp; omega
  have hf := facts a0 (by omega) (by omega)
  generalize hs : opStr a0 = s at hf
  obtain ⟨f1, f2, f3, f4, f5⟩ := hf
  have f4b := f4 (by omega)
  have F3 := Lib.hid f3
  have F5 := Lib.hid f5
  have HS := Lib.hid hs
  clear f3 f4 f5 hs
  have hd : decide ((s.size : Int) < 8) = false := by simp; omega
  have hd0 : decide (a0 < 0) = false := by simp; omega
  have hd1 : decide (24 < a0) = false := by simp; omega
  go_enter Try.func9, Try.ntmps9
  go_wp2_with fail
  refine (op_any _ _ (by omega)).mono ?_; rintro e w1 ⟨rfl, hb1⟩
  rw [HS.out]
  go_wp2_with fail
  refine (hasp _ _ _ (by show 7 ≤ s.size; omega) (by omega) F3).mono ?_; rintro e w2 ⟨rfl, hb2⟩
  have b2 := hb1.trans (hb2.mono hb1.size)
  clear hb1 hb2 F3
  go_wp2_with (go_at_call 23; refine (upp _ _ (by omega) (by omega)).mono ?_; rintro e w3 ⟨rfl, rfl⟩)
  go_loop [4] (fun i => ∃ k : Nat, 8 ≤ k ∧ k ≤ s.size ∧ i = .int .i64 k) (fun i => s.size - (intOf i).toNat)
  case atStart => exact ⟨8, by omega, by omega, rfl⟩
  case round =>
    obtain ⟨k, hk1, hk2, rfl⟩ := hrel
    by_cases hlt : k < s.size
    · have hb := F5.out k hlt hk1
      go_wp2_with (go_at_call 24; refine (let_any _ _ (by omega)).mono ?_; rintro e w' ⟨rfl, rfl⟩)
      go_round
      case rel => exact ⟨k + 1, by omega, by omega, by go_num⟩
      case measure => simp [intOf]; omega
    · go_wp2_with fail
      go_ret
      exact ⟨rfl, b2⟩
end Go.Proofs.Ytlpgcdfndgcgeaa.fnOperatorGoStringShape
