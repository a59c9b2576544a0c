/- The marked object that the statement builds; how deleteEmpty's answer is read back; the copy of a list of strings. -/
import Derived.Test.YtjjkgpjhohnpaaaDem
import Derived.StillTailTactics
set_option linter.unusedVariables false
namespace Go.Proofs.Ytjjkgpjhohnpaaa.hob
open Go.ChangeShapes Go.WideShapes Go.ChangeAt Go.RowKit Go.Maps Go.WideMaps Go.Sort
open types fill upd arr mapr hol ksm dem

/-- the string at place i as a value -/
def fS (ks : List ByteArray) (i : Nat) : Value := .string (ks.getD i ByteArray.empty)
theorem make41 (n : Nat) (w : World) : (Instr.makeMap 41 (some (.int .i64 n))).run Try.prog w = .ok (.map (some w.heap.size)) (w.alloc (.map #[] 0)) := by kernel_rfl
theorem make32 (n : Nat) (w : World) : (Instr.makeMap 32 (some (.int .i64 n))).run Try.prog w = .ok (.map (some w.heap.size)) (w.alloc (.map #[] 0)) := by kernel_rfl
theorem zero20 (w : World) : (zeroValue 20).run Try.prog w = .ok .nilIface w := by kernel_rfl
theorem zero3 (w : World) : (zeroValue 3).run Try.prog w = .ok (.int .i64 0) w := by kernel_rfl

theorem holey16_nil (a a' : Option Addr) (n cap n' cap' : Nat) (w : World) : Calls Try.prog 16 #[.slice none 0 0, .slice a n cap, .slice a' n' cap'] w fun e w' => e = .returned (.map none) ∧ w = w' := by
  have hn := Lib.run_eql_slice_nil (P := Try.prog)
  go_enter Try.func16, Try.ntmps16
  go_wp2_with fail
  go_ret
  exact ⟨rfl, rfl⟩

set_option maxHeartbeats 1000000 in
theorem holey16_some (x : Addr) (a a' : Option Addr) (cap cap' cap2 n : Nat) (ks : List ByteArray) (bs : Nat → Int) (hs : Nat → Bool) (w : World) (hk : In w (some x) n (fS ks)) (hc : In w a n (fI bs)) (hh : In w a' n (fB hs)) (hn : n ≤ 65536) (hz : ∀ i, (ks.getD i ByteArray.empty).size ≤ maxLen) :
    Calls Try.prog 16 #[.slice (some x) n cap, .slice a n cap', .slice a' n cap2] w fun e w' => ∃ B, e = .returned (.map (some B)) ∧ HoldsM Try.prog 9 w' B n (mOf ks n (fH bs hs)) ∧ w.heap.size ≤ B ∧ Below w.heap.size w w' := by
  have hnl := Lib.run_eql_slice_nil (P := Try.prog)
  have hmk := make41
  have HK := Lib.hid hk; have HC := Lib.hid hc; have HH := Lib.hid hh; have HZ := Lib.hid hz
  clear hk hc hh hz
  go_enter Try.func16, Try.ntmps16
  go_wp2_with fail
  have hm0 : Hid (HoldsM Try.prog 9 (w.alloc (.map #[] 0)) w.heap.size 0 (mOf ks 0 (fH bs hs))) := (HoldsM.made _ _ _).congr (mOf_zero ks _)
  have hb0 : Hid (Below w.heap.size w (w.alloc (.map #[] 0))) := (Below.refl _ _).alloc (Nat.le_refl _) _
  obtain ⟨B, hB⟩ : ∃ B, B = w.heap.size := ⟨_, rfl⟩
  rw [← hB] at hm0 ⊢
  have hB2 : w.heap.size ≤ B := by omega
  have HBL := Lib.hid hB2
  clear hB
  go_loopw [8] (fun i wr => ∃ k : Nat, k ≤ n ∧ i = .int .i64 k ∧ Hid (HoldsM Try.prog 9 wr B k (mOf ks k (fH bs hs))) ∧ Hid (Below w.heap.size w wr)) (fun i _ => n - (intOf i).toNat)
  case atStart => exact ⟨0, Nat.zero_le _, rfl, hm0, hb0⟩
  case round =>
    obtain ⟨k, hk, rfl, HM, HB⟩ := hrel
    clear hm0 hb0
    by_cases hlt : k < n
    · obtain ⟨y, hy, hyl, hyc⟩ : ∃ y, a = some y ∧ (0 < n → y.block < w.heap.size) ∧ ∀ i, i < n → w.cell? (y.add i) = some (fI bs i) := by
        rcases HC.out with ⟨_, h0⟩ | h
        · omega
        · exact h
      obtain ⟨u, hu, hul, huc⟩ : ∃ y, a' = some y ∧ (0 < n → y.block < w.heap.size) ∧ ∀ i, i < n → w.cell? (y.add i) = some (fB hs i) := by
        rcases HH.out with ⟨_, h0⟩ | h
        · omega
        · exact h
      subst hy hu
      have c0 : wr.cell? (x.add k) = some (fS ks k) := by
        rcases HK.out with ⟨h, _⟩ | ⟨z, hz, hzl, hzc⟩
        · cases h
        · cases hz; exact later hzl hzc HB.out k hlt
      have c1 : wr.cell? (y.add k) = some (fI bs k) := later hyl hyc HB.out k hlt
      have c2 : wr.cell? (u.add k) = some (fB hs k) := later hul huc HB.out k hlt
      have hsz := Lib.hid (HZ.out k)
      have HST := Lib.hid (mOf_step ks k (fH bs hs))
      have HKM : Hid (k < maxLen) := by unfold Hid maxLen; omega
      have y1 : (k : Int) < n := by omega
      have y2 : (0 : Int) ≤ k := by omega
      unfold fS at c0
      unfold fI at c1
      unfold fB at c2
      unfold key at HST
      generalize ks.getD k ByteArray.empty = s at c0 hsz HST
      clear hyl hyc hul huc
      cases hh : hs k with
      | true =>
        have e : fH bs hs k = .iface 44 (.agg #[]) := by simp [fH, hh]
        rw [e] at HST
        rw [hh] at c2
        clear e hh c1
        go_wp2_with (at_mapUpdate; refine wpList_put _ rfl _ _ _ 41 rfl 9 20 Try.underlying9 Try.underlying41 B k _ rfl HM.out HKM.out s _ rfl rfl hsz.out ?_; intro w1 hown1 hg1; have HM1 := Lib.hid (hown1.congr HST.out); have HB1 : Hid (Below w.heap.size w w1) := HB.out.grown hg1 HB.out.size (fun j hj => by cases hj; exact HBL.out); clear hown1 hg1)
        go_roundw
        case rel => exact ⟨k + 1, by omega, by go_num, HM1, HB1⟩
        case measure => simp [intOf]; omega
      | false =>
        have e : fH bs hs k = .iface 3 (.int .i64 (bs k)) := by simp [fH, hh]
        rw [e] at HST
        rw [hh] at c2
        clear e hh
        go_wp2_with fail
        go_still_tail 10, (by kernel_rfl)
        go_wp2_with (at_mapUpdate; refine wpList_put _ rfl _ _ _ 41 rfl 9 20 Try.underlying9 Try.underlying41 B k _ rfl (HM.out.same rfl) HKM.out s _ rfl rfl hsz.out ?_; intro w1 hown1 hg1; have HM1 := Lib.hid (hown1.congr HST.out); have HB1 : Hid (Below w.heap.size w w1) := HB.out.drew.grown hg1 HB.out.size (fun j hj => by cases hj; exact HBL.out); clear hown1 hg1)
        go_roundw
        case rel => exact ⟨k + 1, by omega, by go_num, HM1, HB1⟩
        case measure => simp [intOf]; omega
    · obtain rfl : k = n := by omega
      go_wp2_with fail
      go_ret
      exact ⟨B, rfl, HM.out, HBL.out, HB.out⟩
end Go.Proofs.Ytjjkgpjhohnpaaa.hob
