/- What the program's method accept and its makers return: bit number cnt of the argument count's pattern, for every cnt that is not negative. -/
import Derived.Test.YtbfnbcjinnomlaaProg
import Derived.Test.YtbfnbcjinnomlaaBits
import Derived.WalkKit
import Derived.ProofKit
import Derived.OpenShut
import Derived.Laws.EntriesVeiled
import Derived.Deep.QuietTactic
import Derived.BigQuiet
import Derived.Laws.Shifts
import Derived.WalkSmall
import Derived.Lib.Hide
import Derived.LoopTactic
namespace Go.Proofs.Ytbfnbcjinnomlaa.accept
open Go.ChangeShapes Go.WideShapes Go.ChangeAt Go.RowKit

def bitB (i c : Int) : Bool := (BitVec.ofInt 64 i).getLsbD c.toNat

theorem newf (i : Int) (w : World) :
    Calls Try.prog 12 #[.int .i64 i] w fun e w' => e = .returned (.agg #[.int .i64 i, .bool false, .nilFunc]) ∧ Below w.heap.size w w' := by
  go_enter Try.func12, Try.ntmps12
  go_wp2
  exact bodyPost_ret (v := .agg #[.int .i64 i, .bool false, .nilFunc]) (by simp [results, Try.results12, go_sem]) rfl ⟨rfl, (Below.refl _ _).alloc (Nat.le_refl _) _⟩

theorem ret_bool {a b : Bool} (h : a = b) : Ending.returned (.bool a) = .returned (.bool b) := by rw [h]

theorem acc (i c : Int) (b : Bool) (f : Value) (w : World) (h0 : 0 ≤ c) :
    Calls Try.prog 24 #[.agg #[.int .i64 i, .bool b, f], .int .i64 c] w fun e w' => e = .returned (.bool (bitB i c)) ∧ Below w.heap.size w w' := by
  go_enter Try.func24, Try.ntmps24
  go_wp2
  go_quiet (fail)
  go_wp2
  go_ret
  exact ⟨ret_bool (pbits.bit_plain i c.toNat), below_drewN ((Below.refl _ _).alloc (Nat.le_refl _) _) _⟩

theorem zacc (i c : Int) (b : Bool) (f : Value) (w : World) (h0 : 0 ≤ c) :
    Calls Try.prog 11 #[.agg #[.int .i64 i, .bool b, f], .int .i64 c] w fun e w' => e = .returned (.bool (bitB i c)) ∧ Below w.heap.size w w' := by
  go_enter Try.func11, Try.ntmps11
  go_wp2_with (go_at_call 24; refine (acc _ _ _ _ _ h0).mono ?_; rintro e w' ⟨rfl, hb⟩)
  go_ret
  exact ⟨rfl, ((Below.refl _ _).alloc (Nat.le_refl _) _).trans (hb.mono (by simp))⟩

theorem half_bound (i : Int) (j : Nat) : 0 ≤ (i % 18446744073709551616) / 2 ^ j ∧ (i % 18446744073709551616) / 2 ^ j ≤ 18446744073709551615 := by
  have h0 : (0 : Int) ≤ i % 18446744073709551616 := Int.emod_nonneg _ (by decide)
  have h1 : (0 : Int) ≤ 2 ^ j := Int.le_of_lt (Int.pow_pos (by decide))
  have h2 := Int.ediv_nonneg h0 h1
  have h3 := Int.ediv_le_self (2 ^ j) h0
  omega

theorem half_next (i : Int) (j : Nat) : (i % 18446744073709551616) / 2 ^ j / 2 = (i % 18446744073709551616) / 2 ^ (j + 1) := by
  rw [Int.ediv_ediv_of_nonneg (Int.le_of_lt (Int.pow_pos (by decide))), Int.pow_succ]

theorem bit_of (i c : Int) (w : World) (h0 : 0 ≤ c) :
    Calls Try.prog 13 #[.int .i64 i, .int .i64 c] w fun e w' => e = .returned (.bool (bitB i c)) ∧ w = w' := by
  by_cases h1 : c < 64
  · have hd : decide (64 ≤ c) = false := by simp; omega
    obtain ⟨m, rfl⟩ := Int.eq_ofNat_of_zero_le h0
    have hu : IntKind.u64.wrap i = i % 18446744073709551616 := by simp [IntKind.wrap, IntKind.bits, IntKind.signed]
    have H := Lib.hid hu; clear hu
    go_enter Try.func13, Try.ntmps13
    go_wp2
    go_loop [5, 6] (fun u k => ∃ (j : Nat) (x : Int), j ≤ m ∧ 0 ≤ x ∧ x ≤ 18446744073709551615 ∧ Hid (x = (i % 18446744073709551616) / 2 ^ j) ∧ k = .int .i64 j ∧ u = .int .u64 x) (fun _ k => m - (intOf k).toNat)
    case atStart =>
      have hb := half_bound i 0
      rw [← H.out] at hb
      simp at hb
      exact ⟨0, _, Nat.zero_le _, hb.1, hb.2, by unfold Hid; rw [H.out]; simp, rfl, rfl⟩
    case round =>
      obtain ⟨j, x, hj, hx0, hx1, HX, rfl, rfl⟩ := hrel
      by_cases hlt : j < m
      · have hn : 0 ≤ x / 2 ∧ x / 2 ≤ 18446744073709551615 := by omega
        have HN : Hid (x / 2 = (i % 18446744073709551616) / 2 ^ (j + 1)) := by unfold Hid; rw [HX.out, half_next]
        go_wp2
        go_round
        case rel => exact ⟨j + 1, x / 2, by omega, hn.1, hn.2, HN, by go_num, rfl⟩
        case measure => simp [intOf]; omega
      · have hjm : j = m := by omega
        have HF : Hid ((x % 2 == 1) = bitB i m) := by unfold Hid bitB; rw [HX.out, pbits.half_plain, hjm]; rfl
        clear hjm
        go_wp2
        go_ret
        exact ⟨ret_bool HF.out, rfl⟩
  · have hz : bitB i c = false := BitVec.getLsbD_of_ge _ _ (by omega)
    rw [hz]; clear hz
    have h2 : 64 ≤ c := by omega
    go_enter Try.func13, Try.ntmps13
    go_wp2
    go_ret
    exact ⟨rfl, rfl⟩
end Go.Proofs.Ytbfnbcjinnomlaa.accept
