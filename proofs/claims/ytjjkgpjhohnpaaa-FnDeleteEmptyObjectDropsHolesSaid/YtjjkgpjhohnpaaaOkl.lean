/- The object law's other helpers: the bound, the copy of the keys, the sweep and its answer in one. -/
import Derived.Test.YtjjkgpjhohnpaaaObk
set_option linter.unusedVariables false
namespace Go.Proofs.Ytjjkgpjhohnpaaa.okl
open Go.ChangeShapes Go.WideShapes Go.ChangeAt Go.RowKit Go.Maps Go.WideMaps Go.Sort
open types fill upd arr mapr hol ksm dem hob obk

def SomeBool (w : World) (e : Ending) (w' : World) : Prop := ∃ b, e = .returned (.bool b) ∧ w = w'
theorem clone10_nil (w : World) : Calls Try.prog 10 #[.slice none 0 0] w fun e w' => e = .returned (.slice none 0 0) ∧ w = w' := by
  have hn := Lib.run_eql_slice_nil (P := Try.prog)
  go_enter Try.func10, Try.ntmps10
  go_wp2_with fail
  go_ret
  exact ⟨rfl, rfl⟩
theorem clone10_some (x : Addr) (cap : Nat) (ks : List ByteArray) (w : World) (hc : In w (some x) ks.length (fS ks)) (hl : ks.length ≤ 65536) : Calls Try.prog 10 #[.slice (some x) ks.length cap] w (SomeRow (fS ks) 9 ks.length w) := by
  obtain ⟨i0, hi, hz0, hz1, hz2⟩ := info_parts info9
  have hn := Lib.run_eql_slice_nil (P := Try.prog)
  have HC := Lib.hid hc
  clear hc
  go_enter Try.func10, Try.ntmps10
  go_wp2_with (at_make; refine wpList_make_full _ rfl _ _ 29 rfl w.heap.size 9 i0 (.string ⟨#[]⟩) 1 Try.underlying29 hi hz0 hz1 .i64 .i64 _ _ ks.length rfl rfl rfl rfl (by rw [hz2]; omega) (by unfold maxLen; omega) (Nat.le_refl _) ?_; intro w0 hown0 hgrow0)
  have hr0 : Row w0 w.heap.size 9 (fpart ks.length 0 (fS ks) (.string ⟨#[]⟩)) := by rw [fpart_zero]; exact Row.of_made rfl hown0
  have hb0 : Below w.heap.size w w0 := (Below.refl _ _).grown hgrow0 (Nat.le_refl _) (fun k hk => by cases hk)
  clear hown0 hgrow0
  go_loopw [4] (fun i wr => ∃ k : Nat, k ≤ ks.length ∧ i = .int .i64 k ∧ Hid (Row wr w.heap.size 9 (fpart ks.length k (fS ks) (.string ⟨#[]⟩))) ∧ Hid (Below w.heap.size w wr)) (fun i _ => ks.length - (intOf i).toNat)
  case atStart => exact ⟨0, Nat.zero_le _, rfl, hr0, hb0⟩
  case round =>
    obtain ⟨k, hk, rfl, HR, HB⟩ := hrel
    clear hr0 hb0
    by_cases hlt : k < ks.length
    · have c0 := HR.out.cell (fpart_at ks.length k (fS ks) (.string ⟨#[]⟩) k hlt hk)
      rw [if_neg (by omega)] at c0
      have f0 := HR.out.free k
      have c1 : wr.cell? (x.add k) = some (fS ks k) := by
        rcases HC.out with ⟨h, _⟩ | ⟨y, hy, hyl, hyc⟩
        · cases h
        · cases hy
          exact later hyl hyc HB.out k hlt
      have HN : Hid (Row (wr.setCell ⟨w.heap.size, k, none⟩ (fS ks k)) w.heap.size 9 (fpart ks.length (k + 1) (fS ks) (.string ⟨#[]⟩))) := by
        have := HR.out.set k (fS ks k)
        rwa [fpart_set _ k _ _ hlt] at this
      have HB2 : Hid (Below w.heap.size w (wr.setCell ⟨w.heap.size, k, none⟩ (fS ks k))) := HB.out.setCell (Nat.le_refl _) _
      unfold fS at HN HB2 c1
      generalize hs : ks.getD k ByteArray.empty = s at c1
      rw [hs] at HB2
      simp only [hs] at HN
      clear hs
      go_wp2_with fail
      go_roundw
      case rel => exact ⟨k + 1, by omega, by go_num, HN, HB2⟩
      case measure => simp [intOf]; omega
    · have HF : Hid (Row wr w.heap.size 9 ((List.range ks.length).map (fS ks))) := by
        have e : k = ks.length := by omega
        unfold Hid; rw [← fpart_all _ _ (.string ⟨#[]⟩)]; have := HR.out; rwa [e] at this
      go_wp2_with fail
      go_ret
      exact ⟨_, rfl, HF.out, Nat.le_refl _, HB.out⟩

theorem zb9 (a a1 a2 : Option Addr) (cap n1 cap1 n2 cap2 : Nat) (ks : List ByteArray) (w : World) (hin : In w a ks.length (fS ks)) (hl : ks.length ≤ 9223372036854775807) (hn1 : n1 ≤ 9223372036854775807) (hn2 : n2 ≤ 9223372036854775807) :
    Calls Try.prog 9 #[.slice a ks.length cap, .slice a1 n1 cap1, .slice a2 n2 cap2] w (SomeBool w) := by
  by_cases hbig : 1048576 < ks.length
  · have hb' : (1048576 : Int) < ks.length := by omega
    go_enter Try.func9, Try.ntmps9
    go_wp2_with fail
    go_ret
    exact ⟨_, rfl, rfl⟩
  · have hb' : ¬ (1048576 : Int) < ks.length := by omega
    have HI := Lib.hid hin
    clear hin
    go_enter Try.func9, Try.ntmps9
    go_wp2_with fail
    go_loop [7, 8] (fun t i => ∃ (k : Nat) (m : Int), k ≤ ks.length ∧ i = .int .i64 k ∧ t = .int .i64 m) (fun _ i => ks.length - (intOf i).toNat)
    case atStart => exact ⟨0, _, Nat.zero_le _, rfl, rfl⟩
    case round =>
      obtain ⟨k, m, hk, rfl, rfl⟩ := hrel
      by_cases hlt : k < ks.length
      · rcases HI.out with ⟨_, h0⟩ | ⟨x, rfl, hx, hc⟩
        · omega
        have c0 := hc k hlt
        unfold fS at c0
        generalize ks.getD k ByteArray.empty = s at c0
        clear hx hc HI
        go_wp2_with fail
        all_goals first | (go_ret; exact ⟨_, rfl, rfl⟩) | skip
        go_round
        case rel => exact ⟨k + 1, _, by omega, by go_num, rfl⟩
        case measure => simp [intOf]; omega
      · go_wp2_with fail
        all_goals (go_ret; exact ⟨_, rfl, rfl⟩)

theorem zz11_nil (a1 a2 : Option Addr) (n1 cap1 n2 cap2 : Nat) (w : World) : Calls Try.prog 11 #[.slice none 0 0, .slice a1 n1 cap1, .slice a2 n2 cap2] w fun e w' => e = .returned (.tuple #[.map none, .bool true, .bool true]) ∧ Below w.heap.size w w' := by
  go_enter Try.func11, Try.ntmps11
  go_wp2_with (first | (go_at_call 16; refine (holey16_nil _ _ _ _ _ _ _).mono ?_; rintro e w1 ⟨rfl, rfl⟩) | (go_at_call 13; refine (de_map_nil _).mono ?_; rintro e w2 ⟨rfl, hb⟩) | (go_at_call 15; refine (obj15_nil _).mono ?_; rintro e w3 ⟨rfl, rfl⟩))
  refine bodyPost_ret (v := .tuple #[.map none, .bool true, .bool true]) (by simp [results, Try.results11, go_sem]) rfl ⟨rfl, hb⟩
theorem zz11_some (x : Addr) (a1 a2 : Option Addr) (cap cap1 cap2 n : Nat) (ks : List ByteArray) (bs : Nat → Int) (hs : Nat → Bool) (w : World) (hk : In w (some x) n (fS ks)) (hc : In w a1 n (fI bs)) (hh : In w a2 n (fB hs)) (hn : n ≤ 65536) (hz : ∀ i, (ks.getD i ByteArray.empty).size ≤ maxLen) :
    Calls Try.prog 11 #[.slice (some x) n cap, .slice a1 n cap1, .slice a2 n cap2] w fun e w' => ∃ R n', e = .returned (.tuple #[.map (some R), .bool false, .bool true]) ∧ HoldsM Try.prog 9 w' R n' (finM ks hs n (fI bs)) ∧ w.heap.size ≤ R ∧ Below w.heap.size w w' := by
  have HM := Lib.hid (holey16_some x a1 a2 cap cap1 cap2 n ks bs hs w hk hc hh hn hz)
  have HN : Hid (n < maxLen) := by unfold Hid maxLen; omega
  clear hk hc hh hz
  go_enter Try.func11, Try.ntmps11
  go_wp2_with (first | (go_at_call 16; refine HM.out.mono ?_; rintro e w1 ⟨B, rfl, h1, hB, hb1⟩; have H1 := Lib.hid h1; clear h1) | (go_at_call 13; refine (de_map B n n ks bs hs _ H1.out HN.out).mono ?_; rintro e w2 ⟨rfl, h2, hu2⟩; have H2 := Lib.hid h2; have HB2 : Hid (Below w.heap.size w w2) := hb1.trans (hu2.below hb1.size (fun k hk => by rw [hk]; exact hB)); clear h2 hu2 hb1) | (go_at_call 15; refine (obj15_some B n n ks bs hs _ H2.out hn).mono ?_; rintro e w3 ⟨R, n', rfl, h3, hR, hb3⟩))
  refine bodyPost_ret (v := .tuple #[.map (some R), .bool false, .bool true]) (by simp [results, Try.results11, go_sem]) rfl ⟨R, n', rfl, h3, Nat.le_trans HB2.out.size hR, HB2.out.trans (hb3.mono HB2.out.size)⟩
end Go.Proofs.Ytjjkgpjhohnpaaa.okl
