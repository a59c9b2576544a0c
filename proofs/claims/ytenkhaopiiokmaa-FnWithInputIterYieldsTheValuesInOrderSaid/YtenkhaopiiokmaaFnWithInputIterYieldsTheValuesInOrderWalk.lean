/- Law FnWithInputIterYieldsTheValuesInOrder: the walk, at no number, one, more. Printed by gen_iter.py. -/
import Derived.Test.YtenkhaopiiokmaaNext
namespace Go.Proofs.Ytenkhaopiiokmaa.fnWithInputIterYieldsTheValuesInOrder
open Go.ChangeShapes Go.WideShapes Go.ChangeAt Go.RowKit
open upd fill iter next
theorem row_len {w : World} {a : Option Addr} {n cap : Nat} {z : List Int} (h : inp.IsRow .i64 w a n cap z) : n ≤ 9223372036854775807 ∧ (a = none → n = 0 ∧ cap = 0) := by
  rcases h with ⟨rfl, rfl, rfl, _⟩ | ⟨x, rfl, h1, h2, _⟩
  · exact ⟨by omega, fun _ => ⟨rfl, rfl⟩⟩
  · exact ⟨by unfold maxLen at h2; omega, fun h => by cases h⟩
set_option maxRecDepth 100000 in
theorem walk0 (a0 : Option Addr) (cap0 : Nat) (bs : Nat → Int) (w : World) (HC : Hid (Calls Try.prog 6 #[.slice a0 0 cap0] w (Copied bs 0 w))) (HZ : Hid (Calls Try.prog 13 #[.slice a0 0 cap0] w (SomeBool w))) :
    Calls Try.prog 4 #[.slice a0 0 cap0] w fun e w' => e = .returned (.bool true) ∧ Below w.heap.size w w' := by
  have hm := m72
  go_enter Try.func4, Try.ntmps4
  go_wp2_with (first | (go_at_call 13; refine HZ.out.mono ?_; rintro e w1 ⟨b, rfl, rfl⟩) | (go_at_call 6; refine HC.out.mono ?_; rintro e w1 ⟨ac, cc, rfl, _, hb1⟩) | (go_at_call 7; refine (newcB _).mono ?_; rintro e w2 ⟨rfl, hc2, hb2⟩; have HC2 := Lib.hid hc2; clear hc2) | (go_at_call 10; refine (newI0 _ _ 0 bs _).mono ?_; rintro e w3 ⟨rfl, hi3, hb3⟩; have HI3 := Lib.hid hi3; have HC3 := Lib.hid (Blk.low HC2.out hb3); clear hi3) | (go_at_call 9; refine (withinB _ _ _).mono ?_; rintro e w4 ⟨rfl, hv4, hb4⟩; have HV4 := Lib.hid hv4; have HC4 := Lib.hid (Blk.low HC3.out hb4); clear hv4) | (go_at_call 8; refine (applyB _ _ _ _ _ _ HV4.out HC4.out).mono ?_; rintro e w5 ⟨rfl, hc5, hu5⟩; have HC5 := Lib.hid hc5; clear hc5) | (go_at_call 14; refine (count _ _ _ HC5.out).mono ?_; rintro e w6 ⟨rfl, rfl⟩) | (go_at_call 11; refine (initer _ _ _ HC5.out).mono ?_; rintro e w6 ⟨rfl, rfl⟩))
  · go_ret
    exact ⟨rfl, Below.refl _ _⟩
  have HB5 : Hid (Below w.heap.size w w5) := Lib.hid ((((hb1.trans (hb2.mono hb1.size)).trans (hb3.mono (Nat.le_trans hb1.size hb2.size))).trans (hb4.mono (Nat.le_trans (Nat.le_trans hb1.size hb2.size) hb3.size))).trans (hu5.below (Nat.le_trans (Nat.le_trans (Nat.le_trans hb1.size hb2.size) hb3.size) hb4.size) (fun k hk => by rw [hk]; exact hb1.size)))
  have HI4 : Hid (It0 w5 w2.heap.size 0 0 bs 0) := ⟨rfl, rfl⟩
  have hws : w.heap.size ≤ w2.heap.size := Nat.le_trans hb1.size hb2.size
  clear hb1 hb2 hb3 hb4 hu5
  generalize w2.heap.size = p at *
  go_loopw [5] (fun i wr => ∃ k : Nat, k ≤ 0 ∧ i = .int .i64 k ∧ Hid (It0 wr p 0 0 bs k) ∧ Hid (Below w.heap.size w wr)) (fun i _ => 0 - (intOf i).toNat)
  case atStart => exact ⟨0, Nat.zero_le _, rfl, HI4, HB5⟩
  case round =>
    obtain ⟨k, hk, rfl, HI, HB⟩ := hrel
    by_cases hlt : k < 0
    · exact absurd hlt (Nat.not_lt_zero _)
    · have hlt' : ¬ (k : Int) < 0 := by omega
      go_wp2_with fail
      go_loopw [10] (fun i wq => ∃ j : Nat, j ≤ 2 ∧ i = .int .i64 j ∧ Hid (It0 wq p 0 0 bs k) ∧ Hid (Below w.heap.size w wq)) (fun i _ => 2 - (intOf i).toNat)
      case atStart => exact ⟨0, by omega, rfl, HI, HB⟩
      case round =>
        obtain ⟨j, hj, rfl, HI7, HB7⟩ := hrel
        by_cases hjt : j < 2
        · have hjt' : (j : Int) < 2 := by omega
          go_wp2_with (go_at_call 33; refine (endI0 _ p 0 0 k bs HI7.out (by omega)).mono ?_; rintro e w8 ⟨rfl, hi8, hu8⟩; unfold none_; have HI8 := Lib.hid hi8; have HB8 : Hid (Below w.heap.size w w8) := Lib.hid (HB7.out.trans (hu8.below HB7.out.size (fun j hj => by rw [hj]; exact hws))); clear hi8 hu8)
          go_roundw
          case rel => exact ⟨j + 1, by omega, by go_num, HI8, HB8⟩
          case measure => simp [intOf]; omega
        · have hjt' : ¬ (j : Int) < 2 := by omega
          go_wp2_with fail
          go_ret
          exact ⟨rfl, HB7.out⟩
set_option maxRecDepth 100000 in
theorem walk1 (a0 : Option Addr) (cap0 : Nat) (bs : Nat → Int) (w : World) (HC : Hid (Calls Try.prog 6 #[.slice a0 1 cap0] w (Copied bs 1 w))) (HZ : Hid (Calls Try.prog 13 #[.slice a0 1 cap0] w (SomeBool w))) :
    Calls Try.prog 4 #[.slice a0 1 cap0] w fun e w' => e = .returned (.bool true) ∧ Below w.heap.size w w' := by
  have hm := m73
  go_enter Try.func4, Try.ntmps4
  go_wp2_with (first | (go_at_call 13; refine HZ.out.mono ?_; rintro e w1 ⟨b, rfl, rfl⟩) | (go_at_call 6; refine HC.out.mono ?_; intro e w1 hcp; obtain ⟨g, rfl, hrow, hsz, hb1⟩ := copied_some hcp (by omega); have HR1 := Lib.hid hrow; clear hcp hrow) | (go_at_call 7; refine (newcB _).mono ?_; rintro e w2 ⟨rfl, hc2, hb2⟩; have HC2 := Lib.hid hc2; clear hc2; have HR2 := Lib.hid (HR1.out.kept hb2)) | (go_at_call 10; refine (newI1 g bs _ HR2.out).mono ?_; rintro e w3 ⟨rfl, hi3, hb3⟩; have HI3 := Lib.hid hi3; have HC3 := Lib.hid (Blk.low HC2.out hb3); clear hi3) | (go_at_call 9; refine (withinB _ _ _).mono ?_; rintro e w4 ⟨rfl, hv4, hb4⟩; have HV4 := Lib.hid hv4; have HC4 := Lib.hid (Blk.low HC3.out hb4); clear hv4) | (go_at_call 8; refine (applyB _ _ _ _ _ _ HV4.out HC4.out).mono ?_; rintro e w5 ⟨rfl, hc5, hu5⟩; have HC5 := Lib.hid hc5; clear hc5) | (go_at_call 14; refine (count _ _ _ HC5.out).mono ?_; rintro e w6 ⟨rfl, rfl⟩) | (go_at_call 11; refine (initer _ _ _ HC5.out).mono ?_; rintro e w6 ⟨rfl, rfl⟩))
  · go_ret
    exact ⟨rfl, Below.refl _ _⟩
  have HB5 : Hid (Below w.heap.size w w5) := Lib.hid ((((hb1.trans (hb2.mono hb1.size)).trans (hb3.mono (Nat.le_trans hb1.size hb2.size))).trans (hb4.mono (Nat.le_trans (Nat.le_trans hb1.size hb2.size) hb3.size))).trans (hu5.below (Nat.le_trans (Nat.le_trans (Nat.le_trans hb1.size hb2.size) hb3.size) hb4.size) (fun k hk => by rw [hk]; exact hb1.size)))
  have HI4 := Lib.hid ((HI3.out.kept (Upd.of_below (S := fun _ => False) hb4) id id).kept hu5 (by have := HC2.out.lt; omega) (by have := HR1.out.lt; omega))
  have hws : w.heap.size ≤ w2.heap.size := Nat.le_trans hb1.size hb2.size
  clear hb1 hb2 hb3 hb4 hu5
  generalize w2.heap.size = p at *
  go_loopw [5] (fun i wr => ∃ k : Nat, k ≤ 1 ∧ i = .int .i64 k ∧ Hid (It1 wr p g 1 bs k) ∧ Hid (Below w.heap.size w wr)) (fun i _ => 1 - (intOf i).toNat)
  case atStart => exact ⟨0, Nat.zero_le _, rfl, HI4, HB5⟩
  case round =>
    obtain ⟨k, hk, rfl, HI, HB⟩ := hrel
    by_cases hlt : k < 1
    · have hlt' : (k : Int) < 1 := by omega
      have HCL := Lib.hid (HI.out.cell hlt)
      go_wp2_with (first | (go_at_call 34; refine (nextI1 _ p g 1 k bs HI.out hlt).mono ?_; rintro e w6 ⟨rfl, hi6, hu6⟩; have HI6 := Lib.hid hi6; have c6 := hi6.cell hlt; have HB6 : Hid (Below w.heap.size w w6) := Lib.hid (HB.out.trans (hu6.below HB.out.size (fun j hj => by rw [hj]; exact hws))); unfold some_; clear hi6 hu6) | (go_at_call 12; refine (asint _ _).mono ?_; rintro e w7 ⟨rfl, rfl⟩))
      go_roundw
      case rel => exact ⟨k + 1, by omega, by go_num, HI6, HB6⟩
      case measure => simp [intOf]; omega
    · have hlt' : ¬ (k : Int) < 1 := by omega
      go_wp2_with fail
      go_loopw [10] (fun i wq => ∃ j : Nat, j ≤ 2 ∧ i = .int .i64 j ∧ Hid (It1 wq p g 1 bs k) ∧ Hid (Below w.heap.size w wq)) (fun i _ => 2 - (intOf i).toNat)
      case atStart => exact ⟨0, by omega, rfl, HI, HB⟩
      case round =>
        obtain ⟨j, hj, rfl, HI7, HB7⟩ := hrel
        by_cases hjt : j < 2
        · have hjt' : (j : Int) < 2 := by omega
          go_wp2_with (go_at_call 34; refine (endI1 _ p g 1 k bs HI7.out (by omega)).mono ?_; rintro e w8 ⟨rfl, hi8, hu8⟩; unfold none_; have HI8 := Lib.hid hi8; have HB8 : Hid (Below w.heap.size w w8) := Lib.hid (HB7.out.trans (hu8.below HB7.out.size (fun j hj => by rw [hj]; exact hws))); clear hi8 hu8)
          go_roundw
          case rel => exact ⟨j + 1, by omega, by go_num, HI8, HB8⟩
          case measure => simp [intOf]; omega
        · have hjt' : ¬ (j : Int) < 2 := by omega
          go_wp2_with fail
          go_ret
          exact ⟨rfl, HB7.out⟩
set_option maxRecDepth 100000 in
theorem walk2 (a0 : Option Addr) (n : Nat) (cap0 : Nat) (bs : Nat → Int) (w : World) (h2n : 2 ≤ n) (hn : n ≤ 131072) (HC : Hid (Calls Try.prog 6 #[.slice a0 n cap0] w (Copied bs n w))) (HZ : Hid (Calls Try.prog 13 #[.slice a0 n cap0] w (SomeBool w))) :
    Calls Try.prog 4 #[.slice a0 n cap0] w fun e w' => e = .returned (.bool true) ∧ Below w.heap.size w w' := by
  have hm := m77
  go_enter Try.func4, Try.ntmps4
  go_wp2_with (first | (go_at_call 13; refine HZ.out.mono ?_; rintro e w1 ⟨b, rfl, rfl⟩) | (go_at_call 6; refine HC.out.mono ?_; intro e w1 hcp; obtain ⟨g, rfl, hrow, hsz, hb1⟩ := copied_some hcp (by omega); have HR1 := Lib.hid hrow; clear hcp hrow) | (go_at_call 7; refine (newcB _).mono ?_; rintro e w2 ⟨rfl, hc2, hb2⟩; have HC2 := Lib.hid hc2; clear hc2; have HR2 := Lib.hid (HR1.out.kept hb2)) | (go_at_call 10; refine (newI2 g n bs _ HR2.out h2n hn).mono ?_; rintro e w3 ⟨rfl, hi3, hb3⟩; have HI3 := Lib.hid hi3; have HC3 := Lib.hid (Blk.low HC2.out hb3); clear hi3) | (go_at_call 9; refine (withinB _ _ _).mono ?_; rintro e w4 ⟨rfl, hv4, hb4⟩; have HV4 := Lib.hid hv4; have HC4 := Lib.hid (Blk.low HC3.out hb4); clear hv4) | (go_at_call 8; refine (applyB _ _ _ _ _ _ HV4.out HC4.out).mono ?_; rintro e w5 ⟨rfl, hc5, hu5⟩; have HC5 := Lib.hid hc5; clear hc5) | (go_at_call 14; refine (count _ _ _ HC5.out).mono ?_; rintro e w6 ⟨rfl, rfl⟩) | (go_at_call 11; refine (initer _ _ _ HC5.out).mono ?_; rintro e w6 ⟨rfl, rfl⟩))
  · go_ret
    exact ⟨rfl, Below.refl _ _⟩
  have HB5 : Hid (Below w.heap.size w w5) := Lib.hid ((((hb1.trans (hb2.mono hb1.size)).trans (hb3.mono (Nat.le_trans hb1.size hb2.size))).trans (hb4.mono (Nat.le_trans (Nat.le_trans hb1.size hb2.size) hb3.size))).trans (hu5.below (Nat.le_trans (Nat.le_trans (Nat.le_trans hb1.size hb2.size) hb3.size) hb4.size) (fun k hk => by rw [hk]; exact hb1.size)))
  have HI4 := Lib.hid ((HI3.out.kept (Upd.of_below (S := fun _ => False) hb4) id id).kept hu5 (by have := HC2.out.lt; omega) (by have := HR1.out.lt; omega))
  have hws : w.heap.size ≤ w2.heap.size := Nat.le_trans hb1.size hb2.size
  clear hb1 hb2 hb3 hb4 hu5
  generalize w2.heap.size = p at *
  go_loopw [5] (fun i wr => ∃ k : Nat, k ≤ n ∧ i = .int .i64 k ∧ Hid (It2 wr p g n bs k) ∧ Hid (Below w.heap.size w wr)) (fun i _ => n - (intOf i).toNat)
  case atStart => exact ⟨0, Nat.zero_le _, rfl, HI4, HB5⟩
  case round =>
    obtain ⟨k, hk, rfl, HI, HB⟩ := hrel
    by_cases hlt : k < n
    · have hlt' : (k : Int) < n := by omega
      have HCL := Lib.hid (HI.out.cell hlt)
      go_wp2_with (first | (go_at_call 35; refine (nextI2 _ p g n k bs HI.out hlt).mono ?_; rintro e w6 ⟨rfl, hi6, hu6⟩; have HI6 := Lib.hid hi6; have c6 := hi6.cell hlt; have HB6 : Hid (Below w.heap.size w w6) := Lib.hid (HB.out.trans (hu6.below HB.out.size (fun j hj => by rw [hj]; exact hws))); unfold some_; clear hi6 hu6) | (go_at_call 12; refine (asint _ _).mono ?_; rintro e w7 ⟨rfl, rfl⟩))
      go_roundw
      case rel => exact ⟨k + 1, by omega, by go_num, HI6, HB6⟩
      case measure => simp [intOf]; omega
    · have hlt' : ¬ (k : Int) < n := by omega
      go_wp2_with fail
      go_loopw [10] (fun i wq => ∃ j : Nat, j ≤ 2 ∧ i = .int .i64 j ∧ Hid (It2 wq p g n bs k) ∧ Hid (Below w.heap.size w wq)) (fun i _ => 2 - (intOf i).toNat)
      case atStart => exact ⟨0, by omega, rfl, HI, HB⟩
      case round =>
        obtain ⟨j, hj, rfl, HI7, HB7⟩ := hrel
        by_cases hjt : j < 2
        · have hjt' : (j : Int) < 2 := by omega
          go_wp2_with (go_at_call 35; refine (endI2 _ p g n k bs HI7.out (by omega)).mono ?_; rintro e w8 ⟨rfl, hi8, hu8⟩; unfold none_; have HI8 := Lib.hid hi8; have HB8 : Hid (Below w.heap.size w w8) := Lib.hid (HB7.out.trans (hu8.below HB7.out.size (fun j hj => by rw [hj]; exact hws))); clear hi8 hu8)
          go_roundw
          case rel => exact ⟨j + 1, by omega, by go_num, HI8, HB8⟩
          case measure => simp [intOf]; omega
        · have hjt' : ¬ (j : Int) < 2 := by omega
          go_wp2_with fail
          go_ret
          exact ⟨rfl, HB7.out⟩
theorem walkBig (a0 : Option Addr) (n cap0 : Nat) (w : World) (h0 : n ≤ 9223372036854775807) (hb : ¬ n ≤ 131072) (HZ : Hid (Calls Try.prog 13 #[.slice a0 n cap0] w (SomeBool w))) :
    Calls Try.prog 4 #[.slice a0 n cap0] w fun e w' => e = .returned (.bool true) ∧ Below w.heap.size w w' := by
  go_enter Try.func4, Try.ntmps4
  go_wp2_with (go_at_call 13; refine HZ.out.mono ?_; rintro e w1 ⟨b, rfl, rfl⟩)
  all_goals (go_ret; exact ⟨rfl, Below.refl _ _⟩)
theorem walk (a0 : Option Addr) (len0 cap0 : Nat) (z0 : List Int) (w : World) (w0 : inp.IsRow .i64 w a0 len0 cap0 z0) :
    Calls Try.prog 4 #[.slice a0 len0 cap0] w fun e w' => e = .returned (.bool true) ∧ Below w.heap.size w w' := by
  obtain ⟨hl, hnil⟩ := row_len w0
  have hin : In w a0 len0 (fB fun i => z0.getD i 0) := In.of_ints w0
  have HZ := Lib.hid (zb13 a0 len0 cap0 w hl)
  by_cases hb : len0 ≤ 131072
  · have HC := Lib.hid (clone a0 cap0 len0 _ w hin hnil hb)
    rcases (show len0 = 0 ∨ len0 = 1 ∨ 2 ≤ len0 by omega) with rfl | rfl | h2
    · exact walk0 _ _ _ _ HC HZ
    · exact walk1 _ _ _ _ HC HZ
    · exact walk2 _ _ _ _ _ h2 hb HC HZ
  · exact walkBig _ _ _ _ hl hb HZ
end Go.Proofs.Ytenkhaopiiokmaa.fnWithInputIterYieldsTheValuesInOrder
