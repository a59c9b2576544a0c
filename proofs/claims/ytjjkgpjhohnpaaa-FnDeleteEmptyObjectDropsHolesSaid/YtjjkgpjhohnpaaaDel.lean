/- deleteEmpty at an array of ints and marks, and how its answer is read. -/
import Derived.Test.YtjjkgpjhohnpaaaArr
set_option linter.unusedVariables false
namespace Go.Proofs.Ytjjkgpjhohnpaaa.del
open Go.ChangeShapes Go.WideShapes Go.ChangeAt Go.RowKit
open types fill upd arr

theorem eq_3 (z : Int) (w : World) : (binOp .neq 20 (.iface 3 (.int .i64 z)) (.iface 44 (.agg #[]))).run Try.prog w = .ok (.bool true) w := by kernel_rfl
theorem eq_44 (w : World) : (binOp .neq 20 (.iface 44 (.agg #[])) (.iface 44 (.agg #[]))).run Try.prog w = .ok (.bool false) w := by kernel_rfl

/-- behind i places: those kept lie ahead, the places from i on as they were -/
structure Swept (bs : Nat → Int) (hs : Nat → Bool) (n i : Nat) (xs : List Value) : Prop where
  len : xs.length = n
  lo : ∀ p, p < (kept bs hs i).length → xs[p]? = some (.iface 3 (.int .i64 ((kept bs hs i).getD p 0)))
  hi : ∀ p, i ≤ p → p < n → xs[p]? = some (fH bs hs p)
theorem Swept.start (bs : Nat → Int) (hs : Nat → Bool) (n : Nat) : Swept bs hs n 0 ((List.range n).map (fH bs hs)) :=
  ⟨by simp, fun p hp => by simp [kept] at hp, fun p _ hp => by simp [hp]⟩
theorem Swept.drop {bs : Nat → Int} {hs : Nat → Bool} {n i : Nat} {xs : List Value} (h : Swept bs hs n i xs) (hh : hs i = true) : Swept bs hs n (i + 1) xs := by
  have e : kept bs hs (i + 1) = kept bs hs i := by simp [kept, hh]
  exact ⟨h.len, by rw [e]; exact h.lo, fun p h1 h2 => h.hi p (by omega) h2⟩
theorem Swept.keep {bs : Nat → Int} {hs : Nat → Bool} {n i : Nat} {xs : List Value} (h : Swept bs hs n i xs) (hh : hs i = false) (hi : i < n) : Swept bs hs n (i + 1) (xs.set (kept bs hs i).length (.iface 3 (.int .i64 (bs i)))) := by
  have e : kept bs hs (i + 1) = kept bs hs i ++ [bs i] := by simp [kept, hh]
  have hk := kept_le bs hs i
  refine ⟨by simp [h.len], fun p hp => ?_, fun p h1 h2 => ?_⟩
  · rw [e] at hp ⊢
    simp at hp
    rw [List.getElem?_set]
    by_cases c : (kept bs hs i).length = p
    · subst c; simp [h.len, show (kept bs hs i).length < n by omega]
    · rw [if_neg c, h.lo p (by omega)]
      simp [List.getD, List.getElem?_append_left (show p < (kept bs hs i).length by omega)]
  · rw [List.getElem?_set, if_neg (by omega)]; exact h.hi p (by omega) h2
/-- the rest is made null -/
structure Ended (ks : List Int) (n i : Nat) (xs : List Value) : Prop where
  len : xs.length = n
  lo : ∀ p, p < ks.length → xs[p]? = some (.iface 3 (.int .i64 (ks.getD p 0)))
theorem Ended.set {ks : List Int} {n i : Nat} {xs : List Value} (h : Ended ks n i xs) (hi : ks.length ≤ i) (v : Value) : Ended ks n (i + 1) (xs.set i v) :=
  ⟨by simp [h.len], fun p hp => by rw [List.getElem?_set, if_neg (by omega)]; exact h.lo p hp⟩

/-- what deleteEmpty leaves of the array at block B -/
def Left (B n : Nat) (ks : List Int) (w : World) (e : Ending) (w' : World) : Prop := e = .returned (.iface 38 (.slice (some ⟨B, 0, none⟩) ks.length n)) ∧ (∃ xs, Row w' B 20 xs ∧ ∀ p, p < ks.length → xs[p]? = some (.iface 3 (.int .i64 (ks.getD p 0)))) ∧ Upd (· = B) w w'
set_option maxHeartbeats 1000000 in
theorem de_arr (B n : Nat) (bs : Nat → Int) (hs : Nat → Bool) (w : World) (hr : Row w B 20 ((List.range n).map (fH bs hs))) (hn : n ≤ 65536) :
    Calls Try.prog 13 #[.iface 38 (.slice (some ⟨B, 0, none⟩) n n)] w (Left B n (kept bs hs n) w) := by
  have t1 := ta_38_44; have t2 := ta_38_41; have t3 := ta_38_38
  have q1 := eq_3; have q2 := eq_44
  have HR0 := Lib.hid hr
  clear hr
  go_enter Try.func13, Try.ntmps13
  go_wp2_with fail
  go_loopw [45, 8, 10] (fun i j _ wr => ∃ (k m : Nat) (xs : List Value), k ≤ n ∧ m ≤ k ∧ i = .int .i64 k ∧ j = .int .i64 m ∧ Hid (m = (kept bs hs k).length) ∧ Hid (Row wr B 20 xs) ∧ Hid (Swept bs hs n k xs) ∧ Hid (Upd (· = B) w wr)) (fun i _ _ _ => n - (intOf i).toNat)
  case atStart => exact ⟨0, 0, _, Nat.zero_le _, Nat.le_refl _, rfl, rfl, rfl, HR0, Swept.start bs hs n, Upd.refl _ _⟩
  case round =>
    obtain ⟨k, m, xs, hk, hmk, rfl, rfl, HM, HR, HS, HU⟩ := hrel
    clear HR0
    by_cases hlt : k < n
    · have c0 := HR.out.cell (HS.out.hi k (Nat.le_refl _) hlt)
      have f0 := HR.out.free m
      cases hk2 : hs k with
      | true =>
        have HS2 := Lib.hid (HS.out.drop hk2)
        have e : fH bs hs k = .iface 44 (.agg #[]) := by simp [fH, hk2]
        have HM2 : Hid (m = (kept bs hs (k + 1)).length) := by unfold Hid; simp only [kept, hk2]; exact HM.out
        rw [e] at c0
        clear e hk2
        go_wp2_with fail
        go_roundw
        case rel => exact ⟨k + 1, m, xs, by omega, by omega, by go_num, rfl, HM2, HR, HS2, HU⟩
        case measure => simp [intOf]; omega
      | false =>
        have HS2 := Lib.hid (HS.out.keep hk2 hlt)
        have e : fH bs hs k = .iface 3 (.int .i64 (bs k)) := by simp [fH, hk2]
        have HM2 : Hid (m + 1 = (kept bs hs (k + 1)).length) := by unfold Hid; simp only [kept, hk2]; have := HM.out; simp; omega
        rw [← HM.out] at HS2
        rw [e] at c0
        have hml : m < n := by omega
        obtain ⟨v0, c1⟩ : ∃ v0, wr.cell? ⟨B, m, none⟩ = some v0 := by
          have : m < xs.length := by rw [HS.out.len]; omega
          exact ⟨_, HR.out.cell (List.getElem?_eq_getElem this)⟩
        have HR2 := Lib.hid (HR.out.set m (.iface 3 (.int .i64 (bs k))))
        have HU2 : Hid (Upd (· = B) w (wr.setCell ⟨B, m, none⟩ (.iface 3 (.int .i64 (bs k))))) := HU.out.setCell (.inl rfl) _
        have i1 : (m : Int) < n := by omega
        clear e hk2
        go_wp2_with (go_at_call 13; refine (de_int _ _).mono ?_; rintro e w1 ⟨rfl, rfl⟩)
        go_roundw
        case rel => exact ⟨k + 1, m + 1, _, by omega, by omega, by go_num, by go_num, HM2, HR2, HS2, HU2⟩
        case measure => simp [intOf]; omega
    · obtain rfl : k = n := by omega
      have HE0 : Hid (Ended (kept bs hs k) k m xs) := ⟨HS.out.len, HS.out.lo⟩
      have HML := HM
      clear hlt HS
      go_wp2_with fail
      go_loopw [11] (fun i wr => ∃ (p : Nat) (ys : List Value), m ≤ p ∧ p ≤ k ∧ i = .int .i64 p ∧ Hid (Row wr B 20 ys) ∧ Hid (Ended (kept bs hs k) k p ys) ∧ Hid (Upd (· = B) w wr)) (fun i _ => k - (intOf i).toNat)
      case atStart => exact ⟨m, xs, Nat.le_refl _, by omega, rfl, HR, HE0, HU⟩
      case round =>
        obtain ⟨p, ys, hmp, hpk, rfl, HQ, HE, HV⟩ := hrel
        clear HR HE0 HU
        by_cases hlt : p < k
        · obtain ⟨v0, c1⟩ : ∃ v0, wr.cell? ⟨B, p, none⟩ = some v0 := by
            have : p < ys.length := by rw [HE.out.len]; omega
            exact ⟨_, HQ.out.cell (List.getElem?_eq_getElem this)⟩
          have f1 := HQ.out.free p
          have HQ2 := Lib.hid (HQ.out.set p .nilIface)
          have HE2 := Lib.hid (HE.out.set (by have := HML.out; omega) .nilIface)
          have HV2 : Hid (Upd (· = B) w (wr.setCell ⟨B, p, none⟩ .nilIface)) := HV.out.setCell (.inl rfl) _
          have i1 : (p : Int) < k := by omega
          go_wp2_with fail
          go_roundw
          case rel => exact ⟨p + 1, _, by omega, by omega, by go_num, HQ2, HE2, HV2⟩
          case measure => simp [intOf]; omega
        · obtain rfl : p = k := by omega
          have i1 : (m : Int) ≤ p := by omega
          go_wp2_with fail
          go_ret
          exact ⟨by rw [← HML.out]; rfl, ⟨ys, HQ.out, HE.out.lo⟩, HV.out⟩
end Go.Proofs.Ytjjkgpjhohnpaaa.del
