/- How the statement reads back what deleteEmpty gave. -/
import Derived.Test.YtjjkgpjhohnpaaaDel
set_option linter.unusedVariables false
namespace Go.Proofs.Ytjjkgpjhohnpaaa.back
open Go.ChangeShapes Go.WideShapes Go.ChangeAt Go.RowKit
open types fill upd arr del

theorem any12_nil (w : World) : Calls Try.prog 12 #[.iface 38 (.slice none 0 0)] w fun e w' => e = .returned (.tuple #[.slice none 0 0, .slice none 0 0, .bool true, .bool true]) ∧ w = w' := by
  have t3 := ta_38_38
  have hn := Lib.run_eql_slice_nil (P := Try.prog)
  go_enter Try.func12, Try.ntmps12
  go_wp2_with fail
  refine bodyPost_ret (v := .tuple #[.slice none 0 0, .slice none 0 0, .bool true, .bool true]) (by simp [results, Try.results12, go_sem]) rfl ⟨rfl, rfl⟩

def Read (ks : List Int) (w : World) (e : Ending) (w' : World) : Prop := ∃ B1 B2, e = .returned (.tuple #[.slice (some ⟨B1, 0, none⟩) ks.length ks.length, .slice (some ⟨B2, 0, none⟩) ks.length ks.length, .bool false, .bool true]) ∧ Row w' B1 3 ((List.range ks.length).map (fI fun i => ks.getD i 0)) ∧ Row w' B2 4 ((List.range ks.length).map (fB fun _ => true)) ∧ w.heap.size ≤ B1 ∧ w.heap.size ≤ B2 ∧ Below w.heap.size w w'
set_option maxHeartbeats 1000000 in
theorem any12_some (B cap : Nat) (ks : List Int) (w : World) (hB : B < w.heap.size) (hc : ∀ p, p < ks.length → w.cell? ⟨B, p, none⟩ = some (.iface 3 (.int .i64 (ks.getD p 0)))) (hl : ks.length ≤ 65536) :
    Calls Try.prog 12 #[.iface 38 (.slice (some ⟨B, 0, none⟩) ks.length cap)] w (Read ks w) := by
  obtain ⟨i0, hi, hz0, hz1, hz2⟩ := info_parts info3
  obtain ⟨j0, ji, jz0, jz1, jz2⟩ := info_parts info4
  have t3 := ta_38_38; have t4 := ta_3_3
  have hnl := Lib.run_eql_slice_nil (P := Try.prog)
  have HC := Lib.hid hc
  clear hc
  obtain ⟨n, hn⟩ : ∃ n, n = ks.length := ⟨_, rfl⟩
  unfold Read
  rw [← hn] at HC hl ⊢
  have HNN := Lib.hid hn
  clear hn
  go_enter Try.func12, Try.ntmps12
  go_wp2_with (first | (at_make; refine wpList_make_full _ rfl (.tmp 25) (.tmp 25) 22 rfl w.heap.size 3 i0 (.int .i64 0) 1 Try.underlying22 hi hz0 hz1 .i64 .i64 _ _ n rfl rfl rfl rfl (by rw [hz2]; omega) (by unfold maxLen; omega) (Nat.le_refl _) ?_; intro w0 hown0 hgrow0) | (at_make; refine wpList_make_full _ rfl (.tmp 28) (.tmp 28) 23 rfl w0.heap.size 4 j0 (.bool false) 1 Try.underlying23 ji jz0 jz1 .i64 .i64 _ _ n rfl rfl rfl rfl (by rw [jz2]; omega) (by unfold maxLen; omega) (Nat.le_refl _) ?_; intro w1 hown1 hgrow1))
  have hb0 : Below w.heap.size w w0 := (Below.refl _ _).grown hgrow0 (Nat.le_refl _) (fun k hk => by cases hk)
  have hr0 : Row w0 w.heap.size 3 (fpart n 0 (fI fun i => ks.getD i 0) (.int .i64 0)) := by rw [fpart_zero]; exact Row.of_made rfl hown0
  have hb1 : Below w0.heap.size w0 w1 := (Below.refl _ _).grown hgrow1 (Nat.le_refl _) (fun k hk => by cases hk)
  have hr1 : Row w1 w0.heap.size 4 (fpart n 0 (fB fun _ => true) (.bool false)) := by rw [fpart_zero]; exact Row.of_made rfl hown1
  have hr01 := hr0.kept hb1
  have hb01 : Below w.heap.size w w1 := hb0.trans (hb1.mono hb0.size)
  have hz01 : w.heap.size < w0.heap.size := hr0.lt
  clear hown0 hgrow0 hown1 hgrow1 hr0 hb0 hb1
  generalize w0.heap.size = B2 at *
  obtain ⟨B1, hB1⟩ : ∃ B1, B1 = w.heap.size := ⟨_, rfl⟩
  rw [← hB1] at hr01 ⊢
  have hBB : B ≠ B1 := by omega
  have hBB2 : B ≠ B2 := by omega
  have hB12 : B1 ≠ B2 := by omega
  have hw1 : w.heap.size ≤ B1 := by omega
  have hw2 : w.heap.size ≤ B2 := by omega
  have HB1 := Lib.hid hB1
  clear hB1 hz01
  go_loopw [10] (fun i wr => ∃ k : Nat, k ≤ n ∧ i = .int .i64 k ∧ Hid (Row wr B1 3 (fpart n k (fI fun i => ks.getD i 0) (.int .i64 0))) ∧ Hid (Row wr B2 4 (fpart n k (fB fun _ => true) (.bool false))) ∧ Hid (Below w.heap.size w wr)) (fun i _ => n - (intOf i).toNat)
  case atStart => exact ⟨0, Nat.zero_le _, rfl, hr01, hr1, hb01⟩
  case round =>
    obtain ⟨k, hk, rfl, HR, HR2, HB⟩ := hrel
    clear hr01 hr1 hb01
    by_cases hlt : k < n
    · have c0 := HR.out.cell (fpart_at n k (fI fun i => ks.getD i 0) (.int .i64 0) k hlt hk)
      rw [if_neg (by omega)] at c0
      have f0 := HR.out.free k
      have c1 := HR2.out.cell (fpart_at n k (fB fun _ => true) (.bool false) k hlt hk)
      rw [if_neg (by omega)] at c1
      have f1 := HR2.out.free k
      have c2 : wr.cell? ⟨B, k, none⟩ = some (.iface 3 (.int .i64 (ks.getD k 0))) := (HB.out.cell (p := ⟨B, k, none⟩) hB).trans (HC.out k hlt)
      have HN : Hid (Row ((wr.setCell ⟨B1, k, none⟩ (.int .i64 (ks.getD k 0))).setCell ⟨B2, k, none⟩ (.bool true)) B1 3 (fpart n (k + 1) (fI fun i => ks.getD i 0) (.int .i64 0))) := by
        have := HR.out.set k (.int .i64 (ks.getD k 0))
        rw [show Value.int .i64 (ks.getD k 0) = fI (fun i => ks.getD i 0) k from rfl, fpart_set n k _ _ hlt] at this
        exact this.other hB12 _
      have HN2 : Hid (Row ((wr.setCell ⟨B1, k, none⟩ (.int .i64 (ks.getD k 0))).setCell ⟨B2, k, none⟩ (.bool true)) B2 4 (fpart n (k + 1) (fB fun _ => true) (.bool false))) := by
        have := (HR2.out.other (a := ⟨B1, k, none⟩) (fun e => hB12 e.symm) (.int .i64 (ks.getD k 0))).set k (.bool true)
        rwa [show Value.bool true = fB (fun _ => true) k from rfl, fpart_set n k _ _ hlt] at this
      have HB2 : Hid (Below w.heap.size w ((wr.setCell ⟨B1, k, none⟩ (.int .i64 (ks.getD k 0))).setCell ⟨B2, k, none⟩ (.bool true))) := (HB.out.setCell hw1 _).setCell hw2 _
      go_wp2_with fail
      go_roundw
      case rel => exact ⟨k + 1, by omega, by go_num, HN, HN2, HB2⟩
      case measure => simp [intOf]; omega
    · obtain rfl : k = n := by omega
      have HF : Hid (Row wr B1 3 ((List.range k).map (fI fun i => ks.getD i 0))) := by unfold Hid; rw [← fpart_all k _ (.int .i64 0)]; exact HR.out
      have HF2 : Hid (Row wr B2 4 ((List.range k).map (fB fun _ => true))) := by unfold Hid; rw [← fpart_all k _ (.bool false)]; exact HR2.out
      go_wp2_with fail
      refine bodyPost_ret (v := .tuple #[.slice (some ⟨B1, 0, none⟩) k k, .slice (some ⟨B2, 0, none⟩) k k, .bool false, .bool true]) (by simp [results, Try.results12, go_sem]) rfl ⟨B1, B2, rfl, HF.out, HF2.out, hw1, hw2, HB.out⟩

theorem zz8_nil (a : Option Addr) (n cap : Nat) (w : World) : Calls Try.prog 8 #[.slice none 0 0, .slice a n cap] w fun e w' => e = .returned (.tuple #[.slice none 0 0, .slice none 0 0, .bool true, .bool true]) ∧ w = w' := by
  go_enter Try.func8, Try.ntmps8
  go_wp2_with (first | (go_at_call 14; refine (holey14_nil _ _ _ _).mono ?_; rintro e w1 ⟨rfl, rfl⟩) | (go_at_call 13; refine (de_nil _).mono ?_; rintro e w2 ⟨rfl, rfl⟩) | (go_at_call 12; refine (any12_nil _).mono ?_; rintro e w3 ⟨rfl, rfl⟩))
  refine bodyPost_ret (v := .tuple #[.slice none 0 0, .slice none 0 0, .bool true, .bool true]) (by simp [results, Try.results8, go_sem]) rfl ⟨rfl, rfl⟩
theorem zz8_some (x : Addr) (a : Option Addr) (cap cap' n : Nat) (bs : Nat → Int) (hs : Nat → Bool) (w : World) (hc : In w (some x) n (fI bs)) (hh : In w a n (fB hs)) (hn : n ≤ 65536) :
    Calls Try.prog 8 #[.slice (some x) n cap, .slice a n cap'] w (Read (kept bs hs n) w) := by
  have HC := Lib.hid (holey14_some x a cap cap' n bs hs w hc hh hn)
  have hkl := kept_le bs hs n
  clear hc hh
  go_enter Try.func8, Try.ntmps8
  go_wp2_with (first | (go_at_call 14; refine HC.out.mono ?_; rintro e w1 ⟨B, rfl, hr1, hB1, hb1⟩; have HR1 := Lib.hid hr1; have HB1 := Lib.hid hb1; clear hr1 hb1) | (go_at_call 13; refine (de_arr B n bs hs _ HR1.out hn).mono ?_; rintro e w2 ⟨rfl, hx, hu2⟩; have HX := Lib.hid hx; have HU2 := Lib.hid hu2; clear hx hu2) | (go_at_call 12; refine (any12_some B n (kept bs hs n) w2 (Nat.lt_of_lt_of_le HR1.out.lt HU2.out.size) (fun p hp => by obtain ⟨xs, h1, h2⟩ := HX.out; exact h1.cell (h2 p hp)) (by omega)).mono ?_; rintro e w3 ⟨D1, D2, rfl, g1, g2, g3, g4, g5⟩; have G := Lib.hid (And.intro g1 (And.intro g2 (And.intro g3 (And.intro g4 g5)))); clear g1 g2 g3 g4 g5))
  obtain ⟨g1, g2, g3, g4, g5⟩ := G.out
  have hz1 := HB1.out.size
  have hz2 := HU2.out.size
  have hbel : Below w.heap.size w w3 := (HB1.out.trans (HU2.out.below hz1 (fun k hk => by rw [hk]; exact hB1))).trans (g5.mono (by omega))
  refine bodyPost_ret (v := .tuple #[.slice (some ⟨D1, 0, none⟩) (kept bs hs n).length (kept bs hs n).length, .slice (some ⟨D2, 0, none⟩) (kept bs hs n).length (kept bs hs n).length, .bool false, .bool true]) (by simp [results, Try.results8, go_sem]) rfl ⟨D1, D2, rfl, g1, g2, by omega, by omega, hbel⟩

theorem kept_pre (bs : Nat → Int) (hs : Nat → Bool) (k : Nat) : ∀ n, k ≤ n → ∃ t, kept bs hs n = kept bs hs k ++ t := by
  intro n hn
  induction n with
  | zero => obtain rfl : k = 0 := by omega
            exact ⟨[], by simp⟩
  | succ n ih =>
    by_cases e : k = n + 1
    · subst e; exact ⟨[], by simp⟩
    · obtain ⟨t, ht⟩ := ih (by omega)
      cases hh : hs n with
      | true => exact ⟨t, by simp [kept, hh, ht]⟩
      | false => exact ⟨t ++ [bs n], by simp [kept, hh, ht]⟩
theorem kept_at (bs : Nat → Int) (hs : Nat → Bool) (k n : Nat) (hk : k < n) (hh : hs k = false) : (kept bs hs k).length < (kept bs hs n).length ∧ (kept bs hs n).getD (kept bs hs k).length 0 = bs k := by
  obtain ⟨t, ht⟩ := kept_pre bs hs (k + 1) n (by omega)
  have e : kept bs hs (k + 1) = kept bs hs k ++ [bs k] := by simp [kept, hh]
  rw [ht, e]
  refine ⟨by simp, ?_⟩
  simp [List.getD]
end Go.Proofs.Ytjjkgpjhohnpaaa.back
