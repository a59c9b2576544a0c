/- What the statement's own helpers zzBytes, countControls and hasBackslash return. -/
import Derived.Test.YtlpgcdfndgcgeaaProg
import Derived.Test.YtlpgcdfndgcgeaaBase
import Derived.Test.YtlpgcdfndgcgeaaPlain
import Derived.WalkKit
import Derived.ProofKit
import Derived.OpenShut
import Derived.Lib.Hide
import Derived.LoopTactic
namespace Go.Proofs.Ytlpgcdfndgcgeaa.quote
open Go.ChangeShapes Go.WideShapes Go.ChangeAt Go.RowKit
open plain

theorem zb_yes (s : ByteArray) (q : Bool) (c : Int) (w : World) (h : s.size ≤ 1048576) : Calls Try.prog 17 #[.string s, .bool q, .int .i64 c] w fun e w' => e = .returned (.bool true) ∧ w = w' := by
  go_enter Try.func17, Try.ntmps17
  go_wp2
  go_ret
  exact ⟨rfl, rfl⟩
theorem zb_no (s : ByteArray) (q : Bool) (c : Int) (w : World) (h : 1048576 < s.size) : Calls Try.prog 17 #[.string s, .bool q, .int .i64 c] w fun e w' => e = .returned (.bool false) ∧ w = w' := by
  have h' : (1048576 : Int) < s.size := by omega
  go_enter Try.func17, Try.ntmps17
  go_wp2
  go_ret
  exact ⟨rfl, rfl⟩

theorem count (s : ByteArray) (w : World) (h : s.size ≤ 1048576) : Calls Try.prog 18 #[.string s] w fun e w' => e = .returned (.int .i64 (ctl s.data.toList)) ∧ w = w' := by
  go_enter Try.func18, Try.ntmps18
  go_wp2
  go_loop [3, 4] (fun n i => ∃ k m : Nat, k ≤ s.size ∧ m ≤ k ∧ Hid (m = ctl (s.data.toList.take k)) ∧ i = .int .i64 k ∧ n = .int .i64 m) (fun _ i => s.size - (intOf i).toNat)
  case atStart => exact ⟨0, 0, Nat.zero_le _, Nat.le_refl _, by unfold Hid; rfl, rfl, rfl⟩
  case round =>
    obtain ⟨k, m, hk, hm, HM, rfl, rfl⟩ := hrel
    by_cases hlt : k < s.size
    · have hs := ctl_snoc (s.data.toList.take k) s[k]
      rw [← take_snoc s k hlt, ← HM.out] at hs
      have HS := Lib.hid hs; clear hs
      by_cases h32 : (s[k].toNat : Int) < 32
      · go_wp2
        go_round
        case rel => exact ⟨k + 1, m + 1, by omega, by omega, by unfold Hid; rw [HS.out, if_pos (by omega)], by go_num, by go_num⟩
        case measure => simp [intOf]; omega
      · go_wp2
        go_round
        case rel => exact ⟨k + 1, m, by omega, by omega, by unfold Hid; rw [HS.out, if_neg (by omega)]; rfl, by go_num, rfl⟩
        case measure => simp [intOf]; omega
    · have hf : m = ctl s.data.toList := by rw [HM.out, List.take_of_length_le (by simp; omega)]
      have HF := Lib.hid hf; clear hf
      go_wp2
      go_ret
      exact ⟨inp.ret_int (by rw [HF.out]), rfl⟩

def hasBs (l : List UInt8) : Bool := l.any fun c => c.toNat == 92

theorem back (s : ByteArray) (w : World) (h : s.size ≤ 1048576) : Calls Try.prog 19 #[.string s] w fun e w' => e = .returned (.bool (hasBs s.data.toList)) ∧ w = w' := by
  go_enter Try.func19, Try.ntmps19
  go_wp2
  go_loop [3] (fun i => ∃ k : Nat, k ≤ s.size ∧ Hid (hasBs (s.data.toList.take k) = false) ∧ i = .int .i64 k) (fun i => s.size - (intOf i).toNat)
  case atStart => exact ⟨0, Nat.zero_le _, by unfold Hid; rfl, rfl⟩
  case round =>
    obtain ⟨k, hk, HM, rfl⟩ := hrel
    by_cases hlt : k < s.size
    · by_cases h92 : s[k].toNat = 92
      · have hf : hasBs s.data.toList = true := by
          unfold hasBs; rw [List.any_eq_true]
          exact ⟨s[k], by rw [← List.take_append_drop (k + 1) s.data.toList, take_snoc s k hlt]; simp, by simp [h92]⟩
        have HF := Lib.hid hf; clear hf
        have hq : ((s[k].toNat : Int) == 92) = true := by rw [h92]; rfl
        clear h92
        go_wp2
        go_ret
        exact ⟨inp.ret_bool HF.out.symm, rfl⟩
      · have hf : hasBs (s.data.toList.take (k + 1)) = false := by
          rw [take_snoc s k hlt]; have := HM.out; unfold hasBs at *; rw [List.any_append, this]; simp [h92]
        have HF := Lib.hid hf; clear hf
        have hq : ((s[k].toNat : Int) == 92) = false := by simp; omega
        clear h92
        go_wp2
        go_round
        case rel => exact ⟨k + 1, by omega, HF, by go_num⟩
        case measure => simp [intOf]; omega
    · have hf : hasBs s.data.toList = false := by have := HM.out; rwa [List.take_of_length_le (by simp; omega)] at this
      have HF := Lib.hid hf; clear hf
      go_wp2
      go_ret
      exact ⟨inp.ret_bool HF.out.symm, rfl⟩
end Go.Proofs.Ytlpgcdfndgcgeaa.quote
