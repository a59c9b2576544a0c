/- What the statement's own count of different strings computes. -/
import Derived.Test.YtiegckcmgdfjeaaStrs
import Derived.Test.YtiegckcmgdfjeaaDist
import Derived.Lib.Strings
namespace Go.Proofs.Ytiegckcmgdfjeaa.distn
open Go.ChangeShapes Go.WideShapes Go.ChangeAt Go.RowKit
open types fill strs dist

set_option maxHeartbeats 1000000 in
theorem distinct (a : Option Addr) (cap : Nat) (ks : List ByteArray) (w : World) (hin : InS w a ks) (hl : ks.length ≤ 4096) : Calls Try.prog 30 #[.slice a ks.length cap] w fun e w' => e = .returned (.int .i64 (dist ks ks.length)) ∧ Below w.heap.size w w' := by
  rcases hin with ⟨rfl, h0⟩ | ⟨x, rfl, hx, hc⟩
  · obtain rfl : ks = [] := List.length_eq_zero_iff.1 h0
    clear h0
    show Calls Try.prog 30 #[.slice none 0 cap] w _
    go_enter Try.func30, Try.ntmps30
    go_wp2_with fail
    go_loop [3, 4] (fun n i => n = .int .i64 0 ∧ i = .int .i64 0) (fun _ _ => 0)
    case atStart => exact ⟨rfl, rfl⟩
    case round =>
      obtain ⟨rfl, rfl⟩ := hrel
      go_wp2_with fail
      go_ret
      exact ⟨rfl, Below.refl _ _⟩
  · have HC := Lib.hid hc
    clear hc
    go_enter Try.func30, Try.ntmps30
    go_wp2_with fail
    go_loopw [3, 4] (fun n i wr => ∃ k m : Nat, k ≤ ks.length ∧ m ≤ k ∧ Hid (m = dist ks k) ∧ i = .int .i64 k ∧ n = .int .i64 m ∧ Hid (Below w.heap.size w wr)) (fun _ i _ => ks.length - (intOf i).toNat)
    case atStart => exact ⟨0, 0, Nat.zero_le _, Nat.le_refl _, (dist_zero ks).symm, rfl, rfl, Below.refl _ _⟩
    case round =>
      obtain ⟨k, m, hk, hm, HM, rfl, rfl, HB⟩ := hrel
      by_cases hlt : k < ks.length
      · obtain ⟨wo, rfl⟩ : ∃ wo : World, wo = wr := ⟨_, rfl⟩
        go_wp2_with fail
        go_loopw [5, 6] (fun b j wr => ∃ t : Nat, t ≤ k ∧ Hid (∀ i, i < t → ks.getD i ByteArray.empty ≠ ks.getD k ByteArray.empty) ∧ j = .int .i64 t ∧ b = .bool false ∧ Hid (Below w.heap.size w wr)) (fun _ j _ => k - (intOf j).toNat)
        case atStart => exact ⟨0, Nat.zero_le _, (fun i hi => absurd hi (by omega)), rfl, rfl, HB⟩
        case round =>
          obtain ⟨t, ht, HT, rfl, rfl, HB2⟩ := hrel
          clear HB
          by_cases hlt2 : t < k
          · have hcell : ∀ j, j < ks.length → wr.cell? (x.add j) = some (fS ks j) := later hx HC.out HB2.out
            have c1 := hcell t (by omega)
            have c2 := hcell k hlt
            clear hcell
            unfold fS at c1 c2
            have hi1 : (0 : Int) ≤ t := by omega
            have hi2 : (t : Int) < ks.length := by omega
            have hi3 : (0 : Int) ≤ k := by omega
            have hi4 : (k : Int) < ks.length := by omega
            by_cases he : ks.getD t ByteArray.empty = ks.getD k ByteArray.empty
            · have HY := Lib.hid (dist_yes ks k t hlt hlt2 he)
              rw [he] at c1
              obtain ⟨s, h1⟩ : ∃ s, s = ks.getD k ByteArray.empty := ⟨_, rfl⟩
              rw [← h1] at c1 c2
              clear h1
              have hq : (s.toList == s.toList) = true := by simp
              clear he
              go_wp2_with fail
              go_quiet (fail)
              go_wp2_with fail
              go_roundw
              case rel => exact ⟨k + 1, m, by omega, by omega, by unfold Hid; rw [HY.out]; exact HM.out, by go_num, rfl, below_drewN HB2.out _⟩
              case measure => simp [intOf]; omega
            · have HT2 : Hid (∀ i, i < t + 1 → ks.getD i ByteArray.empty ≠ ks.getD k ByteArray.empty) := fun i hi => by
                by_cases e : i = t
                · subst e; exact he
                · exact HT.out i (by omega)
              have HE := Lib.hid he
              obtain ⟨s, h1⟩ : ∃ s, s = ks.getD k ByteArray.empty := ⟨_, rfl⟩
              obtain ⟨s2, h2⟩ : ∃ s, s = ks.getD t ByteArray.empty := ⟨_, rfl⟩
              rw [← h1] at c2 HE
              rw [← h2] at c1 HE
              have hq : (s2.toList == s.toList) = false := by
                rw [beq_eq_false_iff_ne]; intro e; rw [Lib.toList_data, Lib.toList_data] at e; exact HE.out (ByteArray.ext (Array.toList_inj.1 e))
              clear he h1 h2
              go_wp2_with fail
              go_quiet (fail)
              go_wp2_with fail
              go_roundw
              case rel => exact ⟨t + 1, by omega, HT2, by go_num, rfl, below_drewN HB2.out _⟩
              case measure => simp [intOf]; omega
          · obtain rfl : t = k := by omega
            have HY := Lib.hid (dist_no ks t hlt HT.out)
            go_wp2_with fail
            go_roundw
            case rel => exact ⟨t + 1, m + 1, by omega, by omega, by unfold Hid; rw [HY.out, HM.out], by go_num, by go_num, HB2⟩
            case measure => simp [intOf]; omega
      · have HF : Hid (m = dist ks ks.length) := by
          have e : k = ks.length := by omega
          unfold Hid; rw [← e]; exact HM.out
        go_wp2_with fail
        go_ret
        exact ⟨inp.ret_int (by rw [HF.out]), HB.out⟩
end Go.Proofs.Ytiegckcmgdfjeaa.distn
