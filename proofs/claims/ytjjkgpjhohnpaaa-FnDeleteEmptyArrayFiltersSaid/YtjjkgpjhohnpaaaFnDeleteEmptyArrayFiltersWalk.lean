/- The walk of the law FnDeleteEmptyArrayFilters: it returns true at every input. -/
import Derived.Test.YtjjkgpjhohnpaaaBack
import Derived.Deep.QuietTactic
import Derived.BigQuiet
import Derived.IntWalk
set_option linter.unusedVariables false
namespace Go.Proofs.Ytjjkgpjhohnpaaa.fnDeleteEmptyArrayFilters
open Go.ChangeShapes Go.WideShapes Go.ChangeAt Go.RowKit
open types fill upd arr del back

def SomeBool (w : World) (e : Ending) (w' : World) : Prop := ∃ b, e = .returned (.bool b) ∧ w = w'
theorem zb5 (a a' : Option Addr) (n cap n' cap' : Nat) (w : World) (hn : n ≤ 9223372036854775807) (hn' : n' ≤ 9223372036854775807) : Calls Try.prog 5 #[.slice a n cap, .slice a' n' cap'] w (SomeBool w) := by
  go_enter Try.func5, Try.ntmps5
  go_wp2_with fail
  all_goals (go_ret; exact ⟨_, rfl, rfl⟩)
theorem clone7 (a : Option Addr) (cap n : Nat) (hs : Nat → Bool) (w : World) (hin : In w a n (fB hs)) (hnil : a = none → n = 0 ∧ cap = 0) (hl : n ≤ 65536) : Calls Try.prog 7 #[.slice a n cap] w (Copied (fB hs) n w) := by
  cases a with
  | none => obtain ⟨rfl, rfl⟩ := hnil rfl; exact (clone7_nil (fB hs) w).mono fun e w' ⟨h1, h2⟩ => ⟨none, 0, h1, .inl ⟨rfl, rfl⟩, fun _ => rfl, h2 ▸ Below.refl _ _⟩
  | some x => exact (clone7_some x cap n hs w hin hl).mono fun e w' ⟨B, h1, h2, h3, h4⟩ => ⟨_, n, h1, In.of_row h2, (fun h => by cases h), h4⟩

set_option maxRecDepth 100000 in
set_option maxHeartbeats 4000000 in
theorem walk (a0 : Option Addr) (len0 cap0 : Nat) (z0 : List Int) (a1 : Option Addr) (len1 cap1 : Nat) (z1 : Nat → Bool) (w : World) (w0 : inp.IsRow .i64 w a0 len0 cap0 z0) (w1 : inp.IsBools w a1 len1 cap1 z1) :
    Calls Try.prog 3 #[.slice a0 len0 cap0, .slice a1 len1 cap1] w fun e w' => e = .returned (.bool true) ∧ Below w.heap.size w w' := by
  obtain ⟨bs, hin0, hnil0, hm0⟩ : ∃ bs : Nat → Int, In w a0 len0 (fI bs) ∧ (a0 = none → len0 = 0 ∧ cap0 = 0) ∧ len0 ≤ 9223372036854775807 := by
    refine ⟨fun i => z0.getD i 0, In.of_ints w0, ?_, ?_⟩
    · rcases w0 with ⟨_, rfl, rfl, _⟩ | ⟨x, rfl, _⟩
      · exact fun _ => ⟨rfl, rfl⟩
      · exact fun e => by cases e
    · rcases w0 with ⟨_, rfl, rfl, _⟩ | ⟨x, rfl, h1, h2, _⟩
      · omega
      · unfold maxLen at h2; omega
  obtain ⟨hin1, hnil1, hm1⟩ : In w a1 len1 (fB z1) ∧ (a1 = none → len1 = 0 ∧ cap1 = 0) ∧ len1 ≤ 9223372036854775807 := by
    rcases w1 with ⟨rfl, rfl, rfl⟩ | ⟨x, rfl, h1, h2, h3⟩
    · exact ⟨.inl ⟨rfl, rfl⟩, fun _ => ⟨rfl, rfl⟩, by omega⟩
    · exact ⟨.inr ⟨x, rfl, fun h0 => addr_lt (h3 0 (by omega)), fun i hi => h3 i (by omega)⟩, (fun e => by cases e), by unfold maxLen at h2; omega⟩
  clear w0 w1
  have HZ := Lib.hid (zb5 a0 a1 len0 cap0 len1 cap1 w hm0 hm1)
  have HI0 := Lib.hid hin0; have HI1 := Lib.hid hin1; have HN0 := Lib.hid hnil0; have HN1 := Lib.hid hnil1
  clear hin0 hin1 hnil0 hnil1
  by_cases hb0 : 65536 < len0
  · have hb' : (65536 : Int) < len0 := by omega
    go_enter Try.func3, Try.ntmps3
    go_wp2_with (go_at_call 5; refine HZ.out.mono ?_; rintro e w1 ⟨b, rfl, rfl⟩)
    all_goals (go_ret; exact ⟨rfl, Below.refl _ _⟩)
  have hl0 : len0 ≤ 65536 := by omega
  by_cases hb1 : 65536 < len1
  · have hb' : (65536 : Int) < len1 := by omega
    go_enter Try.func3, Try.ntmps3
    go_wp2_with (go_at_call 5; refine HZ.out.mono ?_; rintro e w1 ⟨b, rfl, rfl⟩)
    all_goals (go_ret; exact ⟨rfl, Below.refl _ _⟩)
  have hl1 : len1 ≤ 65536 := by omega
  clear hb0 hb1 hm0 hm1
  by_cases hne : len0 = len1
  · subst hne
    have hq : (8 : Int) * len0 + len0 ≤ 1048576 := by omega
    cases a0 with
    | none =>
      obtain ⟨rfl, rfl⟩ := HN0.out rfl
      have HC7 := Lib.hid (clone7 a1 cap1 0 z1 w HI1.out HN1.out (by omega))
      clear HI0 HI1 HN0 HN1
      have hnl := Lib.run_eql_slice_nil (P := Try.prog)
      go_enter Try.func3, Try.ntmps3
      go_wp2_with (first | (go_at_call 5; refine HZ.out.mono ?_; rintro e w1 ⟨b, rfl, rfl⟩) | (go_at_call 6; refine (clone6_nil (fI bs) _).mono ?_; rintro e w1 ⟨rfl, rfl⟩) | (go_at_call 7; refine HC7.out.mono ?_; rintro e w2 ⟨ah, ch, rfl, hin2, _, hb2⟩; have HB2 := Lib.hid hb2; clear hin2 hb2) | (go_at_call 8; refine (zz8_nil _ _ _ _).mono ?_; rintro e w3 ⟨rfl, rfl⟩))
      · go_ret
        exact ⟨rfl, Below.refl _ _⟩
      go_loop [9, 10] (fun j i => j = .int .i64 0 ∧ i = .int .i64 0) (fun _ _ => 0)
      case atStart => exact ⟨rfl, rfl⟩
      case round =>
        obtain ⟨rfl, rfl⟩ := hrel
        go_wp2_with fail
        go_ret
        exact ⟨rfl, HB2.out⟩
    | some x =>
      have hnl := Lib.run_eql_slice_nil (P := Try.prog)
      have hkl := kept_le bs z1 len0
      go_enter Try.func3, Try.ntmps3
      go_wp2_with (first | (go_at_call 5; refine HZ.out.mono ?_; rintro e w1 ⟨b, rfl, rfl⟩) | (go_at_call 6; refine (clone6_some x cap0 len0 bs _ HI0.out hl0).mono ?_; rintro e w1 ⟨B0, rfl, hr1, _, hb1⟩; have HIN0 := Lib.hid (In.of_row hr1); have HB1 := Lib.hid hb1; clear hr1 hb1) | (go_at_call 7; refine (clone7 a1 cap1 len0 z1 _ (HI1.out.kept HB1.out) HN1.out hl0).mono ?_; rintro e w2 ⟨ah, ch, rfl, hin2, _, hb2⟩; have HIN1 := Lib.hid hin2; have HB2 := Lib.hid (HB1.out.trans (hb2.mono HB1.out.size)); have HJ0 := Lib.hid (HIN0.out.kept hb2); clear hin2 hb2 HIN0 HB1) | (go_at_call 8; refine (zz8_some _ _ _ _ len0 bs z1 _ HJ0.out HIN1.out hl0).mono ?_; rintro e w3 ⟨D1, D2, rfl, g1, g2, _, _, g5⟩; have HG1 := Lib.hid (In.of_row g1); have HG2 := Lib.hid (In.of_row g2); have HK0 := Lib.hid (HJ0.out.kept g5); have HK1 := Lib.hid (HIN1.out.kept g5); have HB3 := Lib.hid (HB2.out.trans (g5.mono HB2.out.size)); clear g1 g2 g5 HJ0 HIN1 HB2))
      · go_ret
        exact ⟨rfl, Below.refl _ _⟩
      obtain ⟨T, hT⟩ : ∃ T, T = (kept bs z1 len0).length := ⟨_, rfl⟩
      rw [← hT] at hkl HG1 HG2 ⊢
      have HT := Lib.hid hT
      clear hT HZ HI0 HI1 HN0 HN1
      go_loopw [9, 10] (fun j i wr => ∃ k m : Nat, k ≤ len0 ∧ m ≤ k ∧ i = .int .i64 k ∧ j = .int .i64 m ∧ Hid (m = (kept bs z1 k).length) ∧ Hid (Below w3.heap.size w3 wr)) (fun _ i _ => len0 - (intOf i).toNat)
      case atStart => exact ⟨0, 0, Nat.zero_le _, Nat.le_refl _, rfl, rfl, rfl, Below.refl _ _⟩
      case round =>
        obtain ⟨k, m, hk, hm, rfl, rfl, HM, HB⟩ := hrel
        by_cases hlt : k < len0
        · have c0 : wr.cell? (⟨B0, k, none⟩ : Addr) = some (.int .i64 (bs k)) := by
            rcases HK0.out with ⟨h, _⟩ | ⟨y, hy, hyl, hyc⟩
            · cases h
            · cases hy
              have := later hyl hyc HB.out k hlt
              rwa [add_none, Nat.zero_add] at this
          obtain ⟨xh, rfl, c1⟩ : ∃ xh, ah = some xh ∧ wr.cell? (xh.add k) = some (.bool (z1 k)) := by
            rcases HK1.out with ⟨_, h⟩ | ⟨y, hy, hyl, hyc⟩
            · omega
            · exact ⟨y, hy, later hyl hyc HB.out k hlt⟩
          have i0 : (0 : Int) ≤ k := by omega
          have i1 : (k : Int) < len0 := by omega
          cases hk2 : z1 k with
          | true =>
            rw [hk2] at c1
            have HM2 : Hid (m = (kept bs z1 (k + 1)).length) := by unfold Hid; simp only [kept, hk2]; exact HM.out
            clear hk2
            go_wp2_with fail
            go_roundw
            case rel => exact ⟨k + 1, m, by omega, by omega, by go_num, rfl, HM2, HB⟩
            case measure => simp [intOf] <;> omega
          | false =>
            rw [hk2] at c1
            obtain ⟨ka, kb⟩ := kept_at bs z1 k len0 hlt hk2
            rw [← HM.out, ← HT.out] at ka
            rw [← HM.out] at kb
            have HM2 : Hid (m + 1 = (kept bs z1 (k + 1)).length) := by unfold Hid; simp only [kept, hk2]; have := HM.out; simp; omega
            have d0 : wr.cell? (⟨D1, m, none⟩ : Addr) = some (.int .i64 (bs k)) := by
              rcases HG1.out with ⟨h, _⟩ | ⟨y, hy, hyl, hyc⟩
              · cases h
              · cases hy
                have := later hyl hyc HB.out m ka
                rw [add_none, Nat.zero_add] at this
                rw [this]; simp only [fI, kb]
            have d1 : wr.cell? (⟨D2, m, none⟩ : Addr) = some (.bool true) := by
              rcases HG2.out with ⟨h, _⟩ | ⟨y, hy, hyl, hyc⟩
              · cases h
              · cases hy
                have := later hyl hyc HB.out m ka
                rwa [add_none, Nat.zero_add] at this
            have j0 : (0 : Int) ≤ m := by omega
            have j1 : (m : Int) < T := by omega
            have j2 : decide (T ≤ m) = false := by simp; omega
            clear hk2 kb
            go_wp2_with fail
            go_quiet (fail)
            go_wp2_with fail
            go_roundw
            case rel => exact ⟨k + 1, m + 1, by omega, by omega, by go_num, by go_num, HM2, HB.out.trans ⟨rfl, rfl, rfl, Nat.le_refl _, fun _ _ => rfl⟩⟩
            case measure => simp [intOf] <;> omega
        · obtain rfl : k = len0 := by omega
          have hmT : m = T := by rw [HT.out]; exact HM.out
          subst hmT
          go_wp2_with fail
          go_ret
          exact ⟨by simp, HB3.out.trans (HB.out.mono HB3.out.size)⟩
  · have hne' : ((len0 : Int) != len1) = true := by simp; omega
    go_enter Try.func3, Try.ntmps3
    go_wp2_with (go_at_call 5; refine HZ.out.mono ?_; rintro e w1 ⟨b, rfl, rfl⟩)
    all_goals (go_ret; exact ⟨rfl, Below.refl _ _⟩)
end Go.Proofs.Ytjjkgpjhohnpaaa.fnDeleteEmptyArrayFilters
