/- What the statement's own UTF-8 reader computes: the width of the code point at a place; how many code points a string holds. -/
import Derived.Test.YtiegckcmgdfjeaaStr
namespace Go.Proofs.Ytiegckcmgdfjeaa.width
open Go.ChangeShapes Go.WideShapes Go.ChangeAt Go.RowKit
open types runes

set_option maxRecDepth 100000 in
set_option maxHeartbeats 4000000 in
theorem lead_c2 (s : ByteArray) (i : Nat) (w : World) (hs : s.size ≤ 1048576) (hi : i < s.size) (h1 : 194 ≤ (s[i].toNat : Int)) (h2 : (s[i].toNat : Int) ≤ 223) :
    Calls Try.prog 45 #[.string s, .int .i64 i] w fun e w' => e = .returned (.int .i64 (wd s i)) ∧ w = w' := by
  have HC : Hid (Cls (s[i].toNat) 2 128 191) := by unfold Hid Cls; omega
  have e224 : ((s[i].toNat : Int) == 224) = false := by simp; omega
  have e238 : ((s[i].toNat : Int) == 238) = false := by simp; omega
  have e239 : ((s[i].toNat : Int) == 239) = false := by simp; omega
  have e237 : ((s[i].toNat : Int) == 237) = false := by simp; omega
  have e240 : ((s[i].toNat : Int) == 240) = false := by simp; omega
  have e244 : ((s[i].toNat : Int) == 244) = false := by simp; omega
  by_cases hl : s.size < i + 2
  · have HF := Lib.hid (wd_cut s i 2 128 191 hi HC.out hl)
    go_enter Try.func45, Try.ntmps45
    go_wp2_with fail
    go_ret
    exact ⟨inp.ret_int (by rw [HF.out]; rfl), rfl⟩
  · have hl' : i + 2 ≤ s.size := by omega
    have hj : i + 1 < s.size := by omega
    clear hl
    by_cases hb : 128 ≤ (s[i + 1].toNat : Int)
    · by_cases hb2 : (s[i + 1].toNat : Int) ≤ 191
      · go_enter Try.func45, Try.ntmps45
        go_wp2_with fail
        go_loop [9] (fun j => ∃ k : Nat, 2 ≤ k ∧ k ≤ 2 ∧ Hid (∀ t, 2 ≤ t → t < k → ∀ hj : i + t < s.size, 128 ≤ s[i + t].toNat ∧ s[i + t].toNat ≤ 191) ∧ j = .int .i64 k) (fun j => 2 - (intOf j).toNat)
        case atStart => exact ⟨2, Nat.le_refl _, by omega, (fun t a b => absurd b (by omega)), rfl⟩
        case round =>
          obtain ⟨k, hk1, hk2, HG, rfl⟩ := hrel
          by_cases hk : k < 2
          · exfalso; omega
          · obtain rfl : k = 2 := by omega
            have HF := Lib.hid (wd_good s i 2 128 191 hi HC.out hl' hj (by omega) HG.out)
            go_wp2_with fail
            go_ret
            exact ⟨inp.ret_int (by rw [HF.out]; rfl), rfl⟩
      · have HF := Lib.hid (wd_second s i 2 128 191 hi HC.out hl' hj (by omega))
        go_enter Try.func45, Try.ntmps45
        go_wp2_with fail
        go_ret
        exact ⟨inp.ret_int (by rw [HF.out]; rfl), rfl⟩
    · have HF := Lib.hid (wd_second s i 2 128 191 hi HC.out hl' hj (by omega))
      go_enter Try.func45, Try.ntmps45
      go_wp2_with fail
      go_ret
      exact ⟨inp.ret_int (by rw [HF.out]; rfl), rfl⟩

set_option maxRecDepth 100000 in
set_option maxHeartbeats 4000000 in
theorem lead_e0 (s : ByteArray) (i : Nat) (w : World) (hs : s.size ≤ 1048576) (hi : i < s.size) (h1 : 224 ≤ (s[i].toNat : Int)) (h2 : (s[i].toNat : Int) ≤ 224) :
    Calls Try.prog 45 #[.string s, .int .i64 i] w fun e w' => e = .returned (.int .i64 (wd s i)) ∧ w = w' := by
  have HC : Hid (Cls (s[i].toNat) 3 160 191) := by unfold Hid Cls; omega
  have e224 : ((s[i].toNat : Int) == 224) = true := by simp; omega
  have e238 : ((s[i].toNat : Int) == 238) = false := by simp; omega
  have e239 : ((s[i].toNat : Int) == 239) = false := by simp; omega
  have e237 : ((s[i].toNat : Int) == 237) = false := by simp; omega
  have e240 : ((s[i].toNat : Int) == 240) = false := by simp; omega
  have e244 : ((s[i].toNat : Int) == 244) = false := by simp; omega
  by_cases hl : s.size < i + 3
  · have HF := Lib.hid (wd_cut s i 3 160 191 hi HC.out hl)
    go_enter Try.func45, Try.ntmps45
    go_wp2_with fail
    go_ret
    exact ⟨inp.ret_int (by rw [HF.out]; rfl), rfl⟩
  · have hl' : i + 3 ≤ s.size := by omega
    have hj : i + 1 < s.size := by omega
    clear hl
    by_cases hb : 160 ≤ (s[i + 1].toNat : Int)
    · by_cases hb2 : (s[i + 1].toNat : Int) ≤ 191
      · go_enter Try.func45, Try.ntmps45
        go_wp2_with fail
        go_loop [9] (fun j => ∃ k : Nat, 2 ≤ k ∧ k ≤ 3 ∧ Hid (∀ t, 2 ≤ t → t < k → ∀ hj : i + t < s.size, 128 ≤ s[i + t].toNat ∧ s[i + t].toNat ≤ 191) ∧ j = .int .i64 k) (fun j => 3 - (intOf j).toNat)
        case atStart => exact ⟨2, Nat.le_refl _, by omega, (fun t a b => absurd b (by omega)), rfl⟩
        case round =>
          obtain ⟨k, hk1, hk2, HG, rfl⟩ := hrel
          by_cases hk : k < 3
          · have hjk : i + k < s.size := by omega
            by_cases hg : 128 ≤ (s[i + k].toNat : Int)
            · by_cases hg2 : (s[i + k].toNat : Int) ≤ 191
              · have HG2 : Hid (∀ t, 2 ≤ t → t < k + 1 → ∀ hj : i + t < s.size, 128 ≤ s[i + t].toNat ∧ s[i + t].toNat ≤ 191) := by
                  intro t a b hj
                  by_cases e : t = k
                  · subst e; omega
                  · exact HG.out t a (by omega) hj
                go_wp2_with fail
                go_round
                case rel => exact ⟨k + 1, by omega, by omega, HG2, by go_num⟩
                case measure => simp [intOf]; omega
              · have HF := Lib.hid (wd_later s i 3 160 191 hi HC.out k ⟨hk1, hk⟩ hl' hjk (by omega))
                go_wp2_with fail
                go_ret
                exact ⟨inp.ret_int (by rw [HF.out]; rfl), rfl⟩
            · have HF := Lib.hid (wd_later s i 3 160 191 hi HC.out k ⟨hk1, hk⟩ hl' hjk (by omega))
              go_wp2_with fail
              go_ret
              exact ⟨inp.ret_int (by rw [HF.out]; rfl), rfl⟩
          · obtain rfl : k = 3 := by omega
            have HF := Lib.hid (wd_good s i 3 160 191 hi HC.out hl' hj (by omega) HG.out)
            go_wp2_with fail
            go_ret
            exact ⟨inp.ret_int (by rw [HF.out]; rfl), rfl⟩
      · have HF := Lib.hid (wd_second s i 3 160 191 hi HC.out hl' hj (by omega))
        go_enter Try.func45, Try.ntmps45
        go_wp2_with fail
        go_ret
        exact ⟨inp.ret_int (by rw [HF.out]; rfl), rfl⟩
    · have HF := Lib.hid (wd_second s i 3 160 191 hi HC.out hl' hj (by omega))
      go_enter Try.func45, Try.ntmps45
      go_wp2_with fail
      go_ret
      exact ⟨inp.ret_int (by rw [HF.out]; rfl), rfl⟩

set_option maxRecDepth 100000 in
set_option maxHeartbeats 4000000 in
theorem lead_e1 (s : ByteArray) (i : Nat) (w : World) (hs : s.size ≤ 1048576) (hi : i < s.size) (h1 : 225 ≤ (s[i].toNat : Int)) (h2 : (s[i].toNat : Int) ≤ 236) :
    Calls Try.prog 45 #[.string s, .int .i64 i] w fun e w' => e = .returned (.int .i64 (wd s i)) ∧ w = w' := by
  have HC : Hid (Cls (s[i].toNat) 3 128 191) := by unfold Hid Cls; omega
  have e224 : ((s[i].toNat : Int) == 224) = false := by simp; omega
  have e238 : ((s[i].toNat : Int) == 238) = false := by simp; omega
  have e239 : ((s[i].toNat : Int) == 239) = false := by simp; omega
  have e237 : ((s[i].toNat : Int) == 237) = false := by simp; omega
  have e240 : ((s[i].toNat : Int) == 240) = false := by simp; omega
  have e244 : ((s[i].toNat : Int) == 244) = false := by simp; omega
  by_cases hl : s.size < i + 3
  · have HF := Lib.hid (wd_cut s i 3 128 191 hi HC.out hl)
    go_enter Try.func45, Try.ntmps45
    go_wp2_with fail
    go_ret
    exact ⟨inp.ret_int (by rw [HF.out]; rfl), rfl⟩
  · have hl' : i + 3 ≤ s.size := by omega
    have hj : i + 1 < s.size := by omega
    clear hl
    by_cases hb : 128 ≤ (s[i + 1].toNat : Int)
    · by_cases hb2 : (s[i + 1].toNat : Int) ≤ 191
      · go_enter Try.func45, Try.ntmps45
        go_wp2_with fail
        go_loop [9] (fun j => ∃ k : Nat, 2 ≤ k ∧ k ≤ 3 ∧ Hid (∀ t, 2 ≤ t → t < k → ∀ hj : i + t < s.size, 128 ≤ s[i + t].toNat ∧ s[i + t].toNat ≤ 191) ∧ j = .int .i64 k) (fun j => 3 - (intOf j).toNat)
        case atStart => exact ⟨2, Nat.le_refl _, by omega, (fun t a b => absurd b (by omega)), rfl⟩
        case round =>
          obtain ⟨k, hk1, hk2, HG, rfl⟩ := hrel
          by_cases hk : k < 3
          · have hjk : i + k < s.size := by omega
            by_cases hg : 128 ≤ (s[i + k].toNat : Int)
            · by_cases hg2 : (s[i + k].toNat : Int) ≤ 191
              · have HG2 : Hid (∀ t, 2 ≤ t → t < k + 1 → ∀ hj : i + t < s.size, 128 ≤ s[i + t].toNat ∧ s[i + t].toNat ≤ 191) := by
                  intro t a b hj
                  by_cases e : t = k
                  · subst e; omega
                  · exact HG.out t a (by omega) hj
                go_wp2_with fail
                go_round
                case rel => exact ⟨k + 1, by omega, by omega, HG2, by go_num⟩
                case measure => simp [intOf]; omega
              · have HF := Lib.hid (wd_later s i 3 128 191 hi HC.out k ⟨hk1, hk⟩ hl' hjk (by omega))
                go_wp2_with fail
                go_ret
                exact ⟨inp.ret_int (by rw [HF.out]; rfl), rfl⟩
            · have HF := Lib.hid (wd_later s i 3 128 191 hi HC.out k ⟨hk1, hk⟩ hl' hjk (by omega))
              go_wp2_with fail
              go_ret
              exact ⟨inp.ret_int (by rw [HF.out]; rfl), rfl⟩
          · obtain rfl : k = 3 := by omega
            have HF := Lib.hid (wd_good s i 3 128 191 hi HC.out hl' hj (by omega) HG.out)
            go_wp2_with fail
            go_ret
            exact ⟨inp.ret_int (by rw [HF.out]; rfl), rfl⟩
      · have HF := Lib.hid (wd_second s i 3 128 191 hi HC.out hl' hj (by omega))
        go_enter Try.func45, Try.ntmps45
        go_wp2_with fail
        go_ret
        exact ⟨inp.ret_int (by rw [HF.out]; rfl), rfl⟩
    · have HF := Lib.hid (wd_second s i 3 128 191 hi HC.out hl' hj (by omega))
      go_enter Try.func45, Try.ntmps45
      go_wp2_with fail
      go_ret
      exact ⟨inp.ret_int (by rw [HF.out]; rfl), rfl⟩

set_option maxRecDepth 100000 in
set_option maxHeartbeats 4000000 in
theorem lead_ee (s : ByteArray) (i : Nat) (w : World) (hs : s.size ≤ 1048576) (hi : i < s.size) (h1 : 238 ≤ (s[i].toNat : Int)) (h2 : (s[i].toNat : Int) ≤ 238) :
    Calls Try.prog 45 #[.string s, .int .i64 i] w fun e w' => e = .returned (.int .i64 (wd s i)) ∧ w = w' := by
  have HC : Hid (Cls (s[i].toNat) 3 128 191) := by unfold Hid Cls; omega
  have e224 : ((s[i].toNat : Int) == 224) = false := by simp; omega
  have e238 : ((s[i].toNat : Int) == 238) = true := by simp; omega
  have e239 : ((s[i].toNat : Int) == 239) = false := by simp; omega
  have e237 : ((s[i].toNat : Int) == 237) = false := by simp; omega
  have e240 : ((s[i].toNat : Int) == 240) = false := by simp; omega
  have e244 : ((s[i].toNat : Int) == 244) = false := by simp; omega
  by_cases hl : s.size < i + 3
  · have HF := Lib.hid (wd_cut s i 3 128 191 hi HC.out hl)
    go_enter Try.func45, Try.ntmps45
    go_wp2_with fail
    go_ret
    exact ⟨inp.ret_int (by rw [HF.out]; rfl), rfl⟩
  · have hl' : i + 3 ≤ s.size := by omega
    have hj : i + 1 < s.size := by omega
    clear hl
    by_cases hb : 128 ≤ (s[i + 1].toNat : Int)
    · by_cases hb2 : (s[i + 1].toNat : Int) ≤ 191
      · go_enter Try.func45, Try.ntmps45
        go_wp2_with fail
        go_loop [9] (fun j => ∃ k : Nat, 2 ≤ k ∧ k ≤ 3 ∧ Hid (∀ t, 2 ≤ t → t < k → ∀ hj : i + t < s.size, 128 ≤ s[i + t].toNat ∧ s[i + t].toNat ≤ 191) ∧ j = .int .i64 k) (fun j => 3 - (intOf j).toNat)
        case atStart => exact ⟨2, Nat.le_refl _, by omega, (fun t a b => absurd b (by omega)), rfl⟩
        case round =>
          obtain ⟨k, hk1, hk2, HG, rfl⟩ := hrel
          by_cases hk : k < 3
          · have hjk : i + k < s.size := by omega
            by_cases hg : 128 ≤ (s[i + k].toNat : Int)
            · by_cases hg2 : (s[i + k].toNat : Int) ≤ 191
              · have HG2 : Hid (∀ t, 2 ≤ t → t < k + 1 → ∀ hj : i + t < s.size, 128 ≤ s[i + t].toNat ∧ s[i + t].toNat ≤ 191) := by
                  intro t a b hj
                  by_cases e : t = k
                  · subst e; omega
                  · exact HG.out t a (by omega) hj
                go_wp2_with fail
                go_round
                case rel => exact ⟨k + 1, by omega, by omega, HG2, by go_num⟩
                case measure => simp [intOf]; omega
              · have HF := Lib.hid (wd_later s i 3 128 191 hi HC.out k ⟨hk1, hk⟩ hl' hjk (by omega))
                go_wp2_with fail
                go_ret
                exact ⟨inp.ret_int (by rw [HF.out]; rfl), rfl⟩
            · have HF := Lib.hid (wd_later s i 3 128 191 hi HC.out k ⟨hk1, hk⟩ hl' hjk (by omega))
              go_wp2_with fail
              go_ret
              exact ⟨inp.ret_int (by rw [HF.out]; rfl), rfl⟩
          · obtain rfl : k = 3 := by omega
            have HF := Lib.hid (wd_good s i 3 128 191 hi HC.out hl' hj (by omega) HG.out)
            go_wp2_with fail
            go_ret
            exact ⟨inp.ret_int (by rw [HF.out]; rfl), rfl⟩
      · have HF := Lib.hid (wd_second s i 3 128 191 hi HC.out hl' hj (by omega))
        go_enter Try.func45, Try.ntmps45
        go_wp2_with fail
        go_ret
        exact ⟨inp.ret_int (by rw [HF.out]; rfl), rfl⟩
    · have HF := Lib.hid (wd_second s i 3 128 191 hi HC.out hl' hj (by omega))
      go_enter Try.func45, Try.ntmps45
      go_wp2_with fail
      go_ret
      exact ⟨inp.ret_int (by rw [HF.out]; rfl), rfl⟩

set_option maxRecDepth 100000 in
set_option maxHeartbeats 4000000 in
theorem lead_ef (s : ByteArray) (i : Nat) (w : World) (hs : s.size ≤ 1048576) (hi : i < s.size) (h1 : 239 ≤ (s[i].toNat : Int)) (h2 : (s[i].toNat : Int) ≤ 239) :
    Calls Try.prog 45 #[.string s, .int .i64 i] w fun e w' => e = .returned (.int .i64 (wd s i)) ∧ w = w' := by
  have HC : Hid (Cls (s[i].toNat) 3 128 191) := by unfold Hid Cls; omega
  have e224 : ((s[i].toNat : Int) == 224) = false := by simp; omega
  have e238 : ((s[i].toNat : Int) == 238) = false := by simp; omega
  have e239 : ((s[i].toNat : Int) == 239) = true := by simp; omega
  have e237 : ((s[i].toNat : Int) == 237) = false := by simp; omega
  have e240 : ((s[i].toNat : Int) == 240) = false := by simp; omega
  have e244 : ((s[i].toNat : Int) == 244) = false := by simp; omega
  by_cases hl : s.size < i + 3
  · have HF := Lib.hid (wd_cut s i 3 128 191 hi HC.out hl)
    go_enter Try.func45, Try.ntmps45
    go_wp2_with fail
    go_ret
    exact ⟨inp.ret_int (by rw [HF.out]; rfl), rfl⟩
  · have hl' : i + 3 ≤ s.size := by omega
    have hj : i + 1 < s.size := by omega
    clear hl
    by_cases hb : 128 ≤ (s[i + 1].toNat : Int)
    · by_cases hb2 : (s[i + 1].toNat : Int) ≤ 191
      · go_enter Try.func45, Try.ntmps45
        go_wp2_with fail
        go_loop [9] (fun j => ∃ k : Nat, 2 ≤ k ∧ k ≤ 3 ∧ Hid (∀ t, 2 ≤ t → t < k → ∀ hj : i + t < s.size, 128 ≤ s[i + t].toNat ∧ s[i + t].toNat ≤ 191) ∧ j = .int .i64 k) (fun j => 3 - (intOf j).toNat)
        case atStart => exact ⟨2, Nat.le_refl _, by omega, (fun t a b => absurd b (by omega)), rfl⟩
        case round =>
          obtain ⟨k, hk1, hk2, HG, rfl⟩ := hrel
          by_cases hk : k < 3
          · have hjk : i + k < s.size := by omega
            by_cases hg : 128 ≤ (s[i + k].toNat : Int)
            · by_cases hg2 : (s[i + k].toNat : Int) ≤ 191
              · have HG2 : Hid (∀ t, 2 ≤ t → t < k + 1 → ∀ hj : i + t < s.size, 128 ≤ s[i + t].toNat ∧ s[i + t].toNat ≤ 191) := by
                  intro t a b hj
                  by_cases e : t = k
                  · subst e; omega
                  · exact HG.out t a (by omega) hj
                go_wp2_with fail
                go_round
                case rel => exact ⟨k + 1, by omega, by omega, HG2, by go_num⟩
                case measure => simp [intOf]; omega
              · have HF := Lib.hid (wd_later s i 3 128 191 hi HC.out k ⟨hk1, hk⟩ hl' hjk (by omega))
                go_wp2_with fail
                go_ret
                exact ⟨inp.ret_int (by rw [HF.out]; rfl), rfl⟩
            · have HF := Lib.hid (wd_later s i 3 128 191 hi HC.out k ⟨hk1, hk⟩ hl' hjk (by omega))
              go_wp2_with fail
              go_ret
              exact ⟨inp.ret_int (by rw [HF.out]; rfl), rfl⟩
          · obtain rfl : k = 3 := by omega
            have HF := Lib.hid (wd_good s i 3 128 191 hi HC.out hl' hj (by omega) HG.out)
            go_wp2_with fail
            go_ret
            exact ⟨inp.ret_int (by rw [HF.out]; rfl), rfl⟩
      · have HF := Lib.hid (wd_second s i 3 128 191 hi HC.out hl' hj (by omega))
        go_enter Try.func45, Try.ntmps45
        go_wp2_with fail
        go_ret
        exact ⟨inp.ret_int (by rw [HF.out]; rfl), rfl⟩
    · have HF := Lib.hid (wd_second s i 3 128 191 hi HC.out hl' hj (by omega))
      go_enter Try.func45, Try.ntmps45
      go_wp2_with fail
      go_ret
      exact ⟨inp.ret_int (by rw [HF.out]; rfl), rfl⟩

set_option maxRecDepth 100000 in
set_option maxHeartbeats 4000000 in
theorem lead_ed (s : ByteArray) (i : Nat) (w : World) (hs : s.size ≤ 1048576) (hi : i < s.size) (h1 : 237 ≤ (s[i].toNat : Int)) (h2 : (s[i].toNat : Int) ≤ 237) :
    Calls Try.prog 45 #[.string s, .int .i64 i] w fun e w' => e = .returned (.int .i64 (wd s i)) ∧ w = w' := by
  have HC : Hid (Cls (s[i].toNat) 3 128 159) := by unfold Hid Cls; omega
  have e224 : ((s[i].toNat : Int) == 224) = false := by simp; omega
  have e238 : ((s[i].toNat : Int) == 238) = false := by simp; omega
  have e239 : ((s[i].toNat : Int) == 239) = false := by simp; omega
  have e237 : ((s[i].toNat : Int) == 237) = true := by simp; omega
  have e240 : ((s[i].toNat : Int) == 240) = false := by simp; omega
  have e244 : ((s[i].toNat : Int) == 244) = false := by simp; omega
  by_cases hl : s.size < i + 3
  · have HF := Lib.hid (wd_cut s i 3 128 159 hi HC.out hl)
    go_enter Try.func45, Try.ntmps45
    go_wp2_with fail
    go_ret
    exact ⟨inp.ret_int (by rw [HF.out]; rfl), rfl⟩
  · have hl' : i + 3 ≤ s.size := by omega
    have hj : i + 1 < s.size := by omega
    clear hl
    by_cases hb : 128 ≤ (s[i + 1].toNat : Int)
    · by_cases hb2 : (s[i + 1].toNat : Int) ≤ 159
      · go_enter Try.func45, Try.ntmps45
        go_wp2_with fail
        go_loop [9] (fun j => ∃ k : Nat, 2 ≤ k ∧ k ≤ 3 ∧ Hid (∀ t, 2 ≤ t → t < k → ∀ hj : i + t < s.size, 128 ≤ s[i + t].toNat ∧ s[i + t].toNat ≤ 191) ∧ j = .int .i64 k) (fun j => 3 - (intOf j).toNat)
        case atStart => exact ⟨2, Nat.le_refl _, by omega, (fun t a b => absurd b (by omega)), rfl⟩
        case round =>
          obtain ⟨k, hk1, hk2, HG, rfl⟩ := hrel
          by_cases hk : k < 3
          · have hjk : i + k < s.size := by omega
            by_cases hg : 128 ≤ (s[i + k].toNat : Int)
            · by_cases hg2 : (s[i + k].toNat : Int) ≤ 191
              · have HG2 : Hid (∀ t, 2 ≤ t → t < k + 1 → ∀ hj : i + t < s.size, 128 ≤ s[i + t].toNat ∧ s[i + t].toNat ≤ 191) := by
                  intro t a b hj
                  by_cases e : t = k
                  · subst e; omega
                  · exact HG.out t a (by omega) hj
                go_wp2_with fail
                go_round
                case rel => exact ⟨k + 1, by omega, by omega, HG2, by go_num⟩
                case measure => simp [intOf]; omega
              · have HF := Lib.hid (wd_later s i 3 128 159 hi HC.out k ⟨hk1, hk⟩ hl' hjk (by omega))
                go_wp2_with fail
                go_ret
                exact ⟨inp.ret_int (by rw [HF.out]; rfl), rfl⟩
            · have HF := Lib.hid (wd_later s i 3 128 159 hi HC.out k ⟨hk1, hk⟩ hl' hjk (by omega))
              go_wp2_with fail
              go_ret
              exact ⟨inp.ret_int (by rw [HF.out]; rfl), rfl⟩
          · obtain rfl : k = 3 := by omega
            have HF := Lib.hid (wd_good s i 3 128 159 hi HC.out hl' hj (by omega) HG.out)
            go_wp2_with fail
            go_ret
            exact ⟨inp.ret_int (by rw [HF.out]; rfl), rfl⟩
      · have HF := Lib.hid (wd_second s i 3 128 159 hi HC.out hl' hj (by omega))
        go_enter Try.func45, Try.ntmps45
        go_wp2_with fail
        go_ret
        exact ⟨inp.ret_int (by rw [HF.out]; rfl), rfl⟩
    · have HF := Lib.hid (wd_second s i 3 128 159 hi HC.out hl' hj (by omega))
      go_enter Try.func45, Try.ntmps45
      go_wp2_with fail
      go_ret
      exact ⟨inp.ret_int (by rw [HF.out]; rfl), rfl⟩

set_option maxRecDepth 100000 in
set_option maxHeartbeats 4000000 in
theorem lead_f0 (s : ByteArray) (i : Nat) (w : World) (hs : s.size ≤ 1048576) (hi : i < s.size) (h1 : 240 ≤ (s[i].toNat : Int)) (h2 : (s[i].toNat : Int) ≤ 240) :
    Calls Try.prog 45 #[.string s, .int .i64 i] w fun e w' => e = .returned (.int .i64 (wd s i)) ∧ w = w' := by
  have HC : Hid (Cls (s[i].toNat) 4 144 191) := by unfold Hid Cls; omega
  have e224 : ((s[i].toNat : Int) == 224) = false := by simp; omega
  have e238 : ((s[i].toNat : Int) == 238) = false := by simp; omega
  have e239 : ((s[i].toNat : Int) == 239) = false := by simp; omega
  have e237 : ((s[i].toNat : Int) == 237) = false := by simp; omega
  have e240 : ((s[i].toNat : Int) == 240) = true := by simp; omega
  have e244 : ((s[i].toNat : Int) == 244) = false := by simp; omega
  by_cases hl : s.size < i + 4
  · have HF := Lib.hid (wd_cut s i 4 144 191 hi HC.out hl)
    go_enter Try.func45, Try.ntmps45
    go_wp2_with fail
    go_ret
    exact ⟨inp.ret_int (by rw [HF.out]; rfl), rfl⟩
  · have hl' : i + 4 ≤ s.size := by omega
    have hj : i + 1 < s.size := by omega
    clear hl
    by_cases hb : 144 ≤ (s[i + 1].toNat : Int)
    · by_cases hb2 : (s[i + 1].toNat : Int) ≤ 191
      · go_enter Try.func45, Try.ntmps45
        go_wp2_with fail
        go_loop [9] (fun j => ∃ k : Nat, 2 ≤ k ∧ k ≤ 4 ∧ Hid (∀ t, 2 ≤ t → t < k → ∀ hj : i + t < s.size, 128 ≤ s[i + t].toNat ∧ s[i + t].toNat ≤ 191) ∧ j = .int .i64 k) (fun j => 4 - (intOf j).toNat)
        case atStart => exact ⟨2, Nat.le_refl _, by omega, (fun t a b => absurd b (by omega)), rfl⟩
        case round =>
          obtain ⟨k, hk1, hk2, HG, rfl⟩ := hrel
          by_cases hk : k < 4
          · have hjk : i + k < s.size := by omega
            by_cases hg : 128 ≤ (s[i + k].toNat : Int)
            · by_cases hg2 : (s[i + k].toNat : Int) ≤ 191
              · have HG2 : Hid (∀ t, 2 ≤ t → t < k + 1 → ∀ hj : i + t < s.size, 128 ≤ s[i + t].toNat ∧ s[i + t].toNat ≤ 191) := by
                  intro t a b hj
                  by_cases e : t = k
                  · subst e; omega
                  · exact HG.out t a (by omega) hj
                go_wp2_with fail
                go_round
                case rel => exact ⟨k + 1, by omega, by omega, HG2, by go_num⟩
                case measure => simp [intOf]; omega
              · have HF := Lib.hid (wd_later s i 4 144 191 hi HC.out k ⟨hk1, hk⟩ hl' hjk (by omega))
                go_wp2_with fail
                go_ret
                exact ⟨inp.ret_int (by rw [HF.out]; rfl), rfl⟩
            · have HF := Lib.hid (wd_later s i 4 144 191 hi HC.out k ⟨hk1, hk⟩ hl' hjk (by omega))
              go_wp2_with fail
              go_ret
              exact ⟨inp.ret_int (by rw [HF.out]; rfl), rfl⟩
          · obtain rfl : k = 4 := by omega
            have HF := Lib.hid (wd_good s i 4 144 191 hi HC.out hl' hj (by omega) HG.out)
            go_wp2_with fail
            go_ret
            exact ⟨inp.ret_int (by rw [HF.out]; rfl), rfl⟩
      · have HF := Lib.hid (wd_second s i 4 144 191 hi HC.out hl' hj (by omega))
        go_enter Try.func45, Try.ntmps45
        go_wp2_with fail
        go_ret
        exact ⟨inp.ret_int (by rw [HF.out]; rfl), rfl⟩
    · have HF := Lib.hid (wd_second s i 4 144 191 hi HC.out hl' hj (by omega))
      go_enter Try.func45, Try.ntmps45
      go_wp2_with fail
      go_ret
      exact ⟨inp.ret_int (by rw [HF.out]; rfl), rfl⟩

set_option maxRecDepth 100000 in
set_option maxHeartbeats 4000000 in
theorem lead_f1 (s : ByteArray) (i : Nat) (w : World) (hs : s.size ≤ 1048576) (hi : i < s.size) (h1 : 241 ≤ (s[i].toNat : Int)) (h2 : (s[i].toNat : Int) ≤ 243) :
    Calls Try.prog 45 #[.string s, .int .i64 i] w fun e w' => e = .returned (.int .i64 (wd s i)) ∧ w = w' := by
  have HC : Hid (Cls (s[i].toNat) 4 128 191) := by unfold Hid Cls; omega
  have e224 : ((s[i].toNat : Int) == 224) = false := by simp; omega
  have e238 : ((s[i].toNat : Int) == 238) = false := by simp; omega
  have e239 : ((s[i].toNat : Int) == 239) = false := by simp; omega
  have e237 : ((s[i].toNat : Int) == 237) = false := by simp; omega
  have e240 : ((s[i].toNat : Int) == 240) = false := by simp; omega
  have e244 : ((s[i].toNat : Int) == 244) = false := by simp; omega
  by_cases hl : s.size < i + 4
  · have HF := Lib.hid (wd_cut s i 4 128 191 hi HC.out hl)
    go_enter Try.func45, Try.ntmps45
    go_wp2_with fail
    go_ret
    exact ⟨inp.ret_int (by rw [HF.out]; rfl), rfl⟩
  · have hl' : i + 4 ≤ s.size := by omega
    have hj : i + 1 < s.size := by omega
    clear hl
    by_cases hb : 128 ≤ (s[i + 1].toNat : Int)
    · by_cases hb2 : (s[i + 1].toNat : Int) ≤ 191
      · go_enter Try.func45, Try.ntmps45
        go_wp2_with fail
        go_loop [9] (fun j => ∃ k : Nat, 2 ≤ k ∧ k ≤ 4 ∧ Hid (∀ t, 2 ≤ t → t < k → ∀ hj : i + t < s.size, 128 ≤ s[i + t].toNat ∧ s[i + t].toNat ≤ 191) ∧ j = .int .i64 k) (fun j => 4 - (intOf j).toNat)
        case atStart => exact ⟨2, Nat.le_refl _, by omega, (fun t a b => absurd b (by omega)), rfl⟩
        case round =>
          obtain ⟨k, hk1, hk2, HG, rfl⟩ := hrel
          by_cases hk : k < 4
          · have hjk : i + k < s.size := by omega
            by_cases hg : 128 ≤ (s[i + k].toNat : Int)
            · by_cases hg2 : (s[i + k].toNat : Int) ≤ 191
              · have HG2 : Hid (∀ t, 2 ≤ t → t < k + 1 → ∀ hj : i + t < s.size, 128 ≤ s[i + t].toNat ∧ s[i + t].toNat ≤ 191) := by
                  intro t a b hj
                  by_cases e : t = k
                  · subst e; omega
                  · exact HG.out t a (by omega) hj
                go_wp2_with fail
                go_round
                case rel => exact ⟨k + 1, by omega, by omega, HG2, by go_num⟩
                case measure => simp [intOf]; omega
              · have HF := Lib.hid (wd_later s i 4 128 191 hi HC.out k ⟨hk1, hk⟩ hl' hjk (by omega))
                go_wp2_with fail
                go_ret
                exact ⟨inp.ret_int (by rw [HF.out]; rfl), rfl⟩
            · have HF := Lib.hid (wd_later s i 4 128 191 hi HC.out k ⟨hk1, hk⟩ hl' hjk (by omega))
              go_wp2_with fail
              go_ret
              exact ⟨inp.ret_int (by rw [HF.out]; rfl), rfl⟩
          · obtain rfl : k = 4 := by omega
            have HF := Lib.hid (wd_good s i 4 128 191 hi HC.out hl' hj (by omega) HG.out)
            go_wp2_with fail
            go_ret
            exact ⟨inp.ret_int (by rw [HF.out]; rfl), rfl⟩
      · have HF := Lib.hid (wd_second s i 4 128 191 hi HC.out hl' hj (by omega))
        go_enter Try.func45, Try.ntmps45
        go_wp2_with fail
        go_ret
        exact ⟨inp.ret_int (by rw [HF.out]; rfl), rfl⟩
    · have HF := Lib.hid (wd_second s i 4 128 191 hi HC.out hl' hj (by omega))
      go_enter Try.func45, Try.ntmps45
      go_wp2_with fail
      go_ret
      exact ⟨inp.ret_int (by rw [HF.out]; rfl), rfl⟩

set_option maxRecDepth 100000 in
set_option maxHeartbeats 4000000 in
theorem lead_f4 (s : ByteArray) (i : Nat) (w : World) (hs : s.size ≤ 1048576) (hi : i < s.size) (h1 : 244 ≤ (s[i].toNat : Int)) (h2 : (s[i].toNat : Int) ≤ 244) :
    Calls Try.prog 45 #[.string s, .int .i64 i] w fun e w' => e = .returned (.int .i64 (wd s i)) ∧ w = w' := by
  have HC : Hid (Cls (s[i].toNat) 4 128 143) := by unfold Hid Cls; omega
  have e224 : ((s[i].toNat : Int) == 224) = false := by simp; omega
  have e238 : ((s[i].toNat : Int) == 238) = false := by simp; omega
  have e239 : ((s[i].toNat : Int) == 239) = false := by simp; omega
  have e237 : ((s[i].toNat : Int) == 237) = false := by simp; omega
  have e240 : ((s[i].toNat : Int) == 240) = false := by simp; omega
  have e244 : ((s[i].toNat : Int) == 244) = true := by simp; omega
  by_cases hl : s.size < i + 4
  · have HF := Lib.hid (wd_cut s i 4 128 143 hi HC.out hl)
    go_enter Try.func45, Try.ntmps45
    go_wp2_with fail
    go_ret
    exact ⟨inp.ret_int (by rw [HF.out]; rfl), rfl⟩
  · have hl' : i + 4 ≤ s.size := by omega
    have hj : i + 1 < s.size := by omega
    clear hl
    by_cases hb : 128 ≤ (s[i + 1].toNat : Int)
    · by_cases hb2 : (s[i + 1].toNat : Int) ≤ 143
      · go_enter Try.func45, Try.ntmps45
        go_wp2_with fail
        go_loop [9] (fun j => ∃ k : Nat, 2 ≤ k ∧ k ≤ 4 ∧ Hid (∀ t, 2 ≤ t → t < k → ∀ hj : i + t < s.size, 128 ≤ s[i + t].toNat ∧ s[i + t].toNat ≤ 191) ∧ j = .int .i64 k) (fun j => 4 - (intOf j).toNat)
        case atStart => exact ⟨2, Nat.le_refl _, by omega, (fun t a b => absurd b (by omega)), rfl⟩
        case round =>
          obtain ⟨k, hk1, hk2, HG, rfl⟩ := hrel
          by_cases hk : k < 4
          · have hjk : i + k < s.size := by omega
            by_cases hg : 128 ≤ (s[i + k].toNat : Int)
            · by_cases hg2 : (s[i + k].toNat : Int) ≤ 191
              · have HG2 : Hid (∀ t, 2 ≤ t → t < k + 1 → ∀ hj : i + t < s.size, 128 ≤ s[i + t].toNat ∧ s[i + t].toNat ≤ 191) := by
                  intro t a b hj
                  by_cases e : t = k
                  · subst e; omega
                  · exact HG.out t a (by omega) hj
                go_wp2_with fail
                go_round
                case rel => exact ⟨k + 1, by omega, by omega, HG2, by go_num⟩
                case measure => simp [intOf]; omega
              · have HF := Lib.hid (wd_later s i 4 128 143 hi HC.out k ⟨hk1, hk⟩ hl' hjk (by omega))
                go_wp2_with fail
                go_ret
                exact ⟨inp.ret_int (by rw [HF.out]; rfl), rfl⟩
            · have HF := Lib.hid (wd_later s i 4 128 143 hi HC.out k ⟨hk1, hk⟩ hl' hjk (by omega))
              go_wp2_with fail
              go_ret
              exact ⟨inp.ret_int (by rw [HF.out]; rfl), rfl⟩
          · obtain rfl : k = 4 := by omega
            have HF := Lib.hid (wd_good s i 4 128 143 hi HC.out hl' hj (by omega) HG.out)
            go_wp2_with fail
            go_ret
            exact ⟨inp.ret_int (by rw [HF.out]; rfl), rfl⟩
      · have HF := Lib.hid (wd_second s i 4 128 143 hi HC.out hl' hj (by omega))
        go_enter Try.func45, Try.ntmps45
        go_wp2_with fail
        go_ret
        exact ⟨inp.ret_int (by rw [HF.out]; rfl), rfl⟩
    · have HF := Lib.hid (wd_second s i 4 128 143 hi HC.out hl' hj (by omega))
      go_enter Try.func45, Try.ntmps45
      go_wp2_with fail
      go_ret
      exact ⟨inp.ret_int (by rw [HF.out]; rfl), rfl⟩

set_option maxRecDepth 100000 in
set_option maxHeartbeats 1000000 in
theorem lead_ascii (s : ByteArray) (i : Nat) (w : World) (_hs : s.size ≤ 1048576) (hi : i < s.size) (h1 : (s[i].toNat : Int) < 128) :
    Calls Try.prog 45 #[.string s, .int .i64 i] w fun e w' => e = .returned (.int .i64 (wd s i)) ∧ w = w' := by
  have e224 : ((s[i].toNat : Int) == 224) = false := by simp; omega
  have e238 : ((s[i].toNat : Int) == 238) = false := by simp; omega
  have e239 : ((s[i].toNat : Int) == 239) = false := by simp; omega
  have e237 : ((s[i].toNat : Int) == 237) = false := by simp; omega
  have e240 : ((s[i].toNat : Int) == 240) = false := by simp; omega
  have e244 : ((s[i].toNat : Int) == 244) = false := by simp; omega
  have HF := Lib.hid (wd_ascii s i hi (by omega))
  go_enter Try.func45, Try.ntmps45
  go_wp2_with fail
  go_ret
  exact ⟨inp.ret_int (by rw [HF.out]; rfl), rfl⟩

set_option maxRecDepth 100000 in
set_option maxHeartbeats 1000000 in
theorem lead_low (s : ByteArray) (i : Nat) (w : World) (_hs : s.size ≤ 1048576) (hi : i < s.size) (h1 : 128 ≤ (s[i].toNat : Int)) (h2 : (s[i].toNat : Int) < 194) :
    Calls Try.prog 45 #[.string s, .int .i64 i] w fun e w' => e = .returned (.int .i64 (wd s i)) ∧ w = w' := by
  have e224 : ((s[i].toNat : Int) == 224) = false := by simp; omega
  have e238 : ((s[i].toNat : Int) == 238) = false := by simp; omega
  have e239 : ((s[i].toNat : Int) == 239) = false := by simp; omega
  have e237 : ((s[i].toNat : Int) == 237) = false := by simp; omega
  have e240 : ((s[i].toNat : Int) == 240) = false := by simp; omega
  have e244 : ((s[i].toNat : Int) == 244) = false := by simp; omega
  have HF := Lib.hid (wd_bad s i hi (by omega))
  go_enter Try.func45, Try.ntmps45
  go_wp2_with fail
  go_ret
  exact ⟨inp.ret_int (by rw [HF.out]; rfl), rfl⟩

set_option maxRecDepth 100000 in
set_option maxHeartbeats 1000000 in
theorem lead_high (s : ByteArray) (i : Nat) (w : World) (_hs : s.size ≤ 1048576) (hi : i < s.size) (h1 : 244 < (s[i].toNat : Int)) :
    Calls Try.prog 45 #[.string s, .int .i64 i] w fun e w' => e = .returned (.int .i64 (wd s i)) ∧ w = w' := by
  have e224 : ((s[i].toNat : Int) == 224) = false := by simp; omega
  have e238 : ((s[i].toNat : Int) == 238) = false := by simp; omega
  have e239 : ((s[i].toNat : Int) == 239) = false := by simp; omega
  have e237 : ((s[i].toNat : Int) == 237) = false := by simp; omega
  have e240 : ((s[i].toNat : Int) == 240) = false := by simp; omega
  have e244 : ((s[i].toNat : Int) == 244) = false := by simp; omega
  have HF := Lib.hid (wd_bad s i hi (by omega))
  go_enter Try.func45, Try.ntmps45
  go_wp2_with fail
  go_ret
  exact ⟨inp.ret_int (by rw [HF.out]; rfl), rfl⟩

theorem width (s : ByteArray) (i : Nat) (w : World) (hs : s.size ≤ 1048576) (hi : i < s.size) :
    Calls Try.prog 45 #[.string s, .int .i64 i] w fun e w' => e = .returned (.int .i64 (wd s i)) ∧ w = w' := by
  have hb : s[i].toNat < 256 := UInt8.toNat_lt _
  by_cases c0 : s[i].toNat < 128
  · exact lead_ascii s i w hs hi (by omega)
  by_cases c1 : s[i].toNat < 194
  · exact lead_low s i w hs hi (by omega) (by omega)
  by_cases c2 : 244 < s[i].toNat
  · exact lead_high s i w hs hi (by omega)
  by_cases d_c2 : 194 ≤ s[i].toNat ∧ s[i].toNat ≤ 223
  · exact lead_c2 s i w hs hi (by omega) (by omega)
  by_cases d_e0 : 224 ≤ s[i].toNat ∧ s[i].toNat ≤ 224
  · exact lead_e0 s i w hs hi (by omega) (by omega)
  by_cases d_e1 : 225 ≤ s[i].toNat ∧ s[i].toNat ≤ 236
  · exact lead_e1 s i w hs hi (by omega) (by omega)
  by_cases d_ee : 238 ≤ s[i].toNat ∧ s[i].toNat ≤ 238
  · exact lead_ee s i w hs hi (by omega) (by omega)
  by_cases d_ef : 239 ≤ s[i].toNat ∧ s[i].toNat ≤ 239
  · exact lead_ef s i w hs hi (by omega) (by omega)
  by_cases d_ed : 237 ≤ s[i].toNat ∧ s[i].toNat ≤ 237
  · exact lead_ed s i w hs hi (by omega) (by omega)
  by_cases d_f0 : 240 ≤ s[i].toNat ∧ s[i].toNat ≤ 240
  · exact lead_f0 s i w hs hi (by omega) (by omega)
  by_cases d_f1 : 241 ≤ s[i].toNat ∧ s[i].toNat ≤ 243
  · exact lead_f1 s i w hs hi (by omega) (by omega)
  by_cases d_f4 : 244 ≤ s[i].toNat ∧ s[i].toNat ≤ 244
  · exact lead_f4 s i w hs hi (by omega) (by omega)
  omega

theorem count (s : ByteArray) (w : World) (hs : s.size ≤ 1048576) : Calls Try.prog 18 #[.string s] w fun e w' => e = .returned (.int .i64 (rc s)) ∧ w = w' := by
  have hrl := rc_le s
  go_enter Try.func18, Try.ntmps18
  go_wp2_with fail
  go_loop [3, 4] (fun n i => ∃ k m : Nat, k ≤ s.size ∧ m ≤ k ∧ Hid (m + rcf s k = rc s) ∧ i = .int .i64 k ∧ n = .int .i64 m) (fun _ i => s.size - (intOf i).toNat)
  case atStart => exact ⟨0, 0, Nat.zero_le _, Nat.le_refl _, by unfold Hid; rw [rcf_zero]; omega, rfl, rfl⟩
  case round =>
    obtain ⟨k, m, hk, hm, HM, rfl, rfl⟩ := hrel
    by_cases hlt : k < s.size
    · have h1 := wd_pos s k hlt
      have h4 := wd_four s k hlt
      have HN : Hid (m + 1 + rcf s (k + wd s k) = rc s) := by unfold Hid; have := HM.out; rw [rcf_step s k hlt] at this; omega
      have HW := Lib.hid (width s k w hs hlt)
      generalize wd s k = d at *
      go_wp2_with (go_at_call 45; refine HW.out.mono ?_; rintro e w1 ⟨rfl, rfl⟩)
      go_round
      case rel => exact ⟨k + d, m + 1, by omega, by omega, HN, by go_num, by go_num⟩
      case measure => simp [intOf]; omega
    · have HF : Hid (m = rc s) := by unfold Hid; have := HM.out; rw [rcf_end s k hlt] at this; omega
      go_wp2_with fail
      go_ret
      exact ⟨inp.ret_int (by rw [HF.out]), rfl⟩
end Go.Proofs.Ytiegckcmgdfjeaa.width
