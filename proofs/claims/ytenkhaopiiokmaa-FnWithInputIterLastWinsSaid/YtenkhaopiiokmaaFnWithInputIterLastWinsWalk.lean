/- Law FnWithInputIterLastWins: the walk, at no number, one, more. Printed by gen_iter.py. -/
import Derived.Test.YtenkhaopiiokmaaNext
namespace Go.Proofs.Ytenkhaopiiokmaa.fnWithInputIterLastWins
open Go.ChangeShapes Go.WideShapes Go.ChangeAt Go.RowKit
open upd fill iter next
theorem row_len {w : World} {a : Option Addr} {n cap : Nat} {z : List Int} (h : inp.IsRow .i64 w a n cap z) : n ≤ 9223372036854775807 ∧ (a = none → n = 0 ∧ cap = 0) := by
  rcases h with ⟨rfl, rfl, rfl, _⟩ | ⟨x, rfl, h1, h2, _⟩
  · exact ⟨by omega, fun _ => ⟨rfl, rfl⟩⟩
  · exact ⟨by unfold maxLen at h2; omega, fun h => by cases h⟩
theorem zb5f (a a' : Option Addr) (n cap n' cap' : Nat) (b : Bool) (w : World) (hn : n ≤ 9223372036854775807) (hn' : n' ≤ 9223372036854775807) (h : ¬ (n ≤ 1048576 ∧ n' ≤ 1048576)) : Calls Try.prog 5 #[.slice a n cap, .slice a' n' cap', .bool b] w fun e w' => e = .returned (.bool false) ∧ w = w' := by
  by_cases h1 : n ≤ 1048576
  · have h2 : ¬ n' ≤ 1048576 := fun h2 => h ⟨h1, h2⟩
    clear h
    go_enter Try.func5, Try.ntmps5
    go_wp2_with fail
    all_goals (go_ret; exact ⟨rfl, rfl⟩)
  · clear h
    go_enter Try.func5, Try.ntmps5
    go_wp2_with fail
    all_goals (go_ret; exact ⟨rfl, rfl⟩)
theorem walkOut (a0 a1 : Option Addr) (n0 cap0 n1 cap1 : Nat) (cl : Bool) (w : World) (HZ : Hid (Calls Try.prog 5 #[.slice a0 n0 cap0, .slice a1 n1 cap1, .bool cl] w fun e w' => e = .returned (.bool false) ∧ w = w')) :
    Calls Try.prog 3 #[.slice a0 n0 cap0, .slice a1 n1 cap1, .bool cl] w fun e w' => e = .returned (.bool true) ∧ Below w.heap.size w w' := by
  go_enter Try.func3, Try.ntmps3
  go_wp2_with (go_at_call 5; refine HZ.out.mono ?_; rintro e w1 ⟨rfl, rfl⟩)
  go_ret
  exact ⟨rfl, Below.refl _ _⟩
theorem walkBig (a0 a1 : Option Addr) (n0 cap0 n1 cap1 : Nat) (cl : Bool) (w : World) (h0 : n0 ≤ 1048576) (h1 : n1 ≤ 1048576) (hb : ¬ n0 + n1 ≤ 131072) (HZ : Hid (Calls Try.prog 5 #[.slice a0 n0 cap0, .slice a1 n1 cap1, .bool cl] w (SomeBool w))) :
    Calls Try.prog 3 #[.slice a0 n0 cap0, .slice a1 n1 cap1, .bool cl] w fun e w' => e = .returned (.bool true) ∧ Below w.heap.size w w' := by
  go_enter Try.func3, Try.ntmps3
  go_wp2_with (go_at_call 5; refine HZ.out.mono ?_; rintro e w1 ⟨b, rfl, rfl⟩)
  all_goals (go_ret; exact ⟨rfl, Below.refl _ _⟩)
set_option maxRecDepth 100000 in
set_option maxHeartbeats 400000 in
theorem walkClear (a0 a1 : Option Addr) (n0 cap0 n1 cap1 : Nat) (bs0 bs1 : Nat → Int) (w : World) (hn : n0 + n1 ≤ 131072) (HZ : Hid (Calls Try.prog 5 #[.slice a0 n0 cap0, .slice a1 n1 cap1, .bool true] w (SomeBool w)))
    (HA : Hid (Calls Try.prog 6 #[.slice a0 n0 cap0] w (Copied bs0 n0 w))) (HB : Hid (∀ w1, Below w.heap.size w w1 → Calls Try.prog 6 #[.slice a1 n1 cap1] w1 (Copied bs1 n1 w1))) :
    Calls Try.prog 3 #[.slice a0 n0 cap0, .slice a1 n1 cap1, .bool true] w fun e w' => e = .returned (.bool true) ∧ Below w.heap.size w w' := by
  go_enter Try.func3, Try.ntmps3
  go_wp2_with (first | (have hguard := hb1; clear hguard; go_at_call 6; refine (HB.out _ hb1).mono ?_; rintro e w2 ⟨ad, cd, rfl, _, hb2⟩; have HB2 := Lib.hid (hb1.trans (hb2.mono hb1.size))) | (have hguard := HC6; clear hguard; go_at_call 9; refine (withinN _).mono ?_; rintro e w7 ⟨rfl, hv7, hb7⟩; have HV7 := Lib.hid hv7; have HC7 := Lib.hid (Blk.low HC6.out hb7); have HB7 := Lib.hid (HB6.out.trans (hb7.mono HB6.out.size)); clear hv7) | (have hguard := HV7; clear hguard; go_at_call 8; refine (applyN _ _ _ _ HV7.out HC7.out).mono ?_; rintro e w8 ⟨rfl, hc8, hu8⟩; have HC8 := Lib.hid hc8; have HB8 := Lib.hid (HB7.out.trans (hu8.below HB7.out.size (fun k hk => by rw [hk]; exact HB2.out.size))); clear hc8) | (go_at_call 5; refine HZ.out.mono ?_; rintro e w1 ⟨b, rfl, rfl⟩) | (go_at_call 6; refine HA.out.mono ?_; rintro e w1 ⟨ac, cc, rfl, hor1, hb1⟩; have HO1 := Lib.hid hor1; clear hor1) | (go_at_call 7; refine (newcB _).mono ?_; rintro e w3 ⟨rfl, hc3, hb3⟩; have HC3 := Lib.hid hc3; have HB3 := Lib.hid (HB2.out.trans (hb3.mono HB2.out.size)); clear hc3) | (go_at_call 10; refine (newAny _ _ _ bs0 _ (HO1.out.imp id (fun ⟨g, h1, h2, h3⟩ => ⟨g, h1, h2, (h3.kept hb2).kept hb3⟩)) (by omega)).mono ?_; rintro e w4 ⟨t, p, rfl, hb4⟩; have HC4 := Lib.hid (Blk.low HC3.out hb4); have HB4 := Lib.hid (HB3.out.trans (hb4.mono HB3.out.size))) | (go_at_call 9; refine (withinB _ _ _).mono ?_; rintro e w5 ⟨rfl, hv5, hb5⟩; have HV5 := Lib.hid hv5; have HC5 := Lib.hid (Blk.low HC4.out hb5); have HB5 := Lib.hid (HB4.out.trans (hb5.mono HB4.out.size)); clear hv5) | (go_at_call 8; refine (applyB _ _ _ _ _ _ HV5.out HC5.out).mono ?_; rintro e w6 ⟨rfl, hc6, hu6⟩; have HC6 := Lib.hid hc6; have HB6 := Lib.hid (HB5.out.trans (hu6.below HB5.out.size (fun k hk => by rw [hk]; exact HB2.out.size))); clear hc6) | (go_at_call 11; refine (initer _ _ _ HC8.out).mono ?_; rintro e w9 ⟨rfl, rfl⟩))
  · go_ret
    exact ⟨rfl, Below.refl _ _⟩
  go_ret
  exact ⟨rfl, HB8.out⟩
set_option maxRecDepth 100000 in
set_option maxHeartbeats 400000 in
theorem walk0 (a0 a1 : Option Addr) (n0 cap0 cap1 : Nat) (bs0 bs1 : Nat → Int) (w : World) (hn : n0 + 0 ≤ 131072) (HZ : Hid (Calls Try.prog 5 #[.slice a0 n0 cap0, .slice a1 0 cap1, .bool false] w (SomeBool w)))
    (HA : Hid (Calls Try.prog 6 #[.slice a0 n0 cap0] w (Copied bs0 n0 w))) (HB : Hid (∀ w1, Below w.heap.size w w1 → Calls Try.prog 6 #[.slice a1 0 cap1] w1 (Copied bs1 0 w1))) :
    Calls Try.prog 3 #[.slice a0 n0 cap0, .slice a1 0 cap1, .bool false] w fun e w' => e = .returned (.bool true) ∧ Below w.heap.size w w' := by
  have hm := m72
  go_enter Try.func3, Try.ntmps3
  go_wp2_with (first | (have hguard := hb1; clear hguard; go_at_call 6; refine (HB.out _ hb1).mono ?_; rintro e w2 ⟨ad, cd, rfl, _, hb2⟩; have HB2 := Lib.hid (hb1.trans (hb2.mono hb1.size))) | (have hguard := HC6; clear hguard; go_at_call 10; refine (newI0 _ _ 0 bs1 _).mono ?_; rintro e w7 ⟨rfl, hi7, hb7⟩; have HI7 := Lib.hid hi7; have HC7 := Lib.hid (Blk.low HC6.out hb7); have HB7 := Lib.hid (HB6.out.trans (hb7.mono HB6.out.size)); clear hi7) | (have hguard := HC7; clear hguard; go_at_call 9; refine (withinB _ _ _).mono ?_; rintro e w8 ⟨rfl, hv8, hb8⟩; have HV8 := Lib.hid hv8; have HC8 := Lib.hid (Blk.low HC7.out hb8); have HB8 := Lib.hid (HB7.out.trans (hb8.mono HB7.out.size)); clear hv8) | (have hguard := HV8; clear hguard; go_at_call 8; refine (applyB _ _ _ _ _ _ HV8.out HC8.out).mono ?_; rintro e w9 ⟨rfl, hc9, hu9⟩; have HC9 := Lib.hid hc9; have HB9 := Lib.hid (HB8.out.trans (hu9.below HB8.out.size (fun k hk => by rw [hk]; exact HB2.out.size))); clear hc9) | (go_at_call 5; refine HZ.out.mono ?_; rintro e w1 ⟨b, rfl, rfl⟩) | (go_at_call 6; refine HA.out.mono ?_; rintro e w1 ⟨ac, cc, rfl, hor1, hb1⟩; have HO1 := Lib.hid hor1; clear hor1) | (go_at_call 7; refine (newcB _).mono ?_; rintro e w3 ⟨rfl, hc3, hb3⟩; have HC3 := Lib.hid hc3; have HB3 := Lib.hid (HB2.out.trans (hb3.mono HB2.out.size)); clear hc3) | (go_at_call 10; refine (newAny _ _ _ bs0 _ (HO1.out.imp id (fun ⟨g, h1, h2, h3⟩ => ⟨g, h1, h2, (h3.kept hb2).kept hb3⟩)) (by omega)).mono ?_; rintro e w4 ⟨t, p, rfl, hb4⟩; have HC4 := Lib.hid (Blk.low HC3.out hb4); have HB4 := Lib.hid (HB3.out.trans (hb4.mono HB3.out.size))) | (go_at_call 9; refine (withinB _ _ _).mono ?_; rintro e w5 ⟨rfl, hv5, hb5⟩; have HV5 := Lib.hid hv5; have HC5 := Lib.hid (Blk.low HC4.out hb5); have HB5 := Lib.hid (HB4.out.trans (hb5.mono HB4.out.size)); clear hv5) | (go_at_call 8; refine (applyB _ _ _ _ _ _ HV5.out HC5.out).mono ?_; rintro e w6 ⟨rfl, hc6, hu6⟩; have HC6 := Lib.hid hc6; have HB6 := Lib.hid (HB5.out.trans (hu6.below HB5.out.size (fun k hk => by rw [hk]; exact HB2.out.size))); clear hc6) | (go_at_call 11; refine (initer _ _ _ HC9.out).mono ?_; rintro e w10 ⟨rfl, rfl⟩))
  · go_ret
    exact ⟨rfl, Below.refl _ _⟩
  have HI9 : Hid (It0 w9 w6.heap.size 0 0 bs1 0) := ⟨rfl, rfl⟩
  have hws : w.heap.size ≤ w6.heap.size := HB6.out.size
  clear hb1 hb2 hb3 hb4 hb5 hb7 hb8 hu6 hu9
  generalize w6.heap.size = p6 at *
  go_loopw [9] (fun i wr => ∃ k : Nat, k ≤ 0 ∧ i = .int .i64 k ∧ Hid (It0 wr p6 0 0 bs1 k) ∧ Hid (Below w.heap.size w wr)) (fun i _ => 0 - (intOf i).toNat)
  case atStart => exact ⟨0, Nat.zero_le _, rfl, HI9, HB9⟩
  case round =>
    obtain ⟨k, hk, rfl, HI, HBr⟩ := hrel
    by_cases hlt : k < 0
    · exact absurd hlt (Nat.not_lt_zero _)
    · have hlt' : ¬ (k : Int) < 0 := by omega
      go_wp2_with (go_at_call 33; refine (endI0 _ p6 0 0 k bs1 HI.out (by omega)).mono ?_; rintro e w12 ⟨rfl, hi8, hu8⟩; unfold none_; have HBs : Hid (Below w.heap.size w w12) := Lib.hid (HBr.out.trans (hu8.below HBr.out.size (fun j hj => by rw [hj]; exact hws))); clear hi8 hu8)
      go_ret
      exact ⟨rfl, HBs.out⟩
set_option maxRecDepth 100000 in
set_option maxHeartbeats 400000 in
theorem walk1 (a0 a1 : Option Addr) (n0 cap0 n1 cap1 : Nat) (bs0 bs1 : Nat → Int) (w : World) (hn : n0 + n1 ≤ 131072) (h2n : Hid (n1 = 1)) (HZ : Hid (Calls Try.prog 5 #[.slice a0 n0 cap0, .slice a1 n1 cap1, .bool false] w (SomeBool w)))
    (HA : Hid (Calls Try.prog 6 #[.slice a0 n0 cap0] w (Copied bs0 n0 w))) (HB : Hid (∀ w1, Below w.heap.size w w1 → Calls Try.prog 6 #[.slice a1 n1 cap1] w1 (Copied bs1 n1 w1))) :
    Calls Try.prog 3 #[.slice a0 n0 cap0, .slice a1 n1 cap1, .bool false] w fun e w' => e = .returned (.bool true) ∧ Below w.heap.size w w' := by
  have hm := m73
  go_enter Try.func3, Try.ntmps3
  go_wp2_with (first | (have hguard := hb1; clear hguard; go_at_call 6; refine (HB.out _ hb1).mono ?_; intro e w2 hcp; obtain ⟨g, rfl, hrow, hsz, hb2⟩ := copied_some hcp (by rw [h2n.out]; omega); have HR2 := Lib.hid hrow; have HB2 := Lib.hid (hb1.trans (hb2.mono hb1.size)); clear hcp hrow) | (have hguard := HR6; clear hguard; go_at_call 10; refine (newI1' g n1 bs1 _ HR6.out h2n.out).mono ?_; rintro e w7 ⟨rfl, hi7, hb7⟩; have HI7 := Lib.hid hi7; have HC7 := Lib.hid (Blk.low HC6.out hb7); have HB7 := Lib.hid (HB6.out.trans (hb7.mono HB6.out.size)); clear hi7) | (have hguard := HC7; clear hguard; go_at_call 9; refine (withinB _ _ _).mono ?_; rintro e w8 ⟨rfl, hv8, hb8⟩; have HV8 := Lib.hid hv8; have HC8 := Lib.hid (Blk.low HC7.out hb8); have HB8 := Lib.hid (HB7.out.trans (hb8.mono HB7.out.size)); clear hv8) | (have hguard := HV8; clear hguard; go_at_call 8; refine (applyB _ _ _ _ _ _ HV8.out HC8.out).mono ?_; rintro e w9 ⟨rfl, hc9, hu9⟩; have HC9 := Lib.hid hc9; have HB9 := Lib.hid (HB8.out.trans (hu9.below HB8.out.size (fun k hk => by rw [hk]; exact HB2.out.size))); clear hc9) | (go_at_call 5; refine HZ.out.mono ?_; rintro e w1 ⟨b, rfl, rfl⟩) | (go_at_call 6; refine HA.out.mono ?_; rintro e w1 ⟨ac, cc, rfl, hor1, hb1⟩; have HO1 := Lib.hid hor1; clear hor1) | (go_at_call 7; refine (newcB _).mono ?_; rintro e w3 ⟨rfl, hc3, hb3⟩; have HC3 := Lib.hid hc3; have HB3 := Lib.hid (HB2.out.trans (hb3.mono HB2.out.size)); have HR3 := Lib.hid (HR2.out.kept hb3); clear hc3) | (go_at_call 10; refine (newAny _ _ _ bs0 _ (HO1.out.imp id (fun ⟨g, h1, h2, h3⟩ => ⟨g, h1, h2, (h3.kept hb2).kept hb3⟩)) (by omega)).mono ?_; rintro e w4 ⟨t, p, rfl, hb4⟩; have HC4 := Lib.hid (Blk.low HC3.out hb4); have HB4 := Lib.hid (HB3.out.trans (hb4.mono HB3.out.size)); have HR4 := Lib.hid (HR3.out.kept hb4)) | (go_at_call 9; refine (withinB _ _ _).mono ?_; rintro e w5 ⟨rfl, hv5, hb5⟩; have HV5 := Lib.hid hv5; have HC5 := Lib.hid (Blk.low HC4.out hb5); have HB5 := Lib.hid (HB4.out.trans (hb5.mono HB4.out.size)); have HR5 := Lib.hid (HR4.out.kept hb5); clear hv5) | (go_at_call 8; refine (applyB _ _ _ _ _ _ HV5.out HC5.out).mono ?_; rintro e w6 ⟨rfl, hc6, hu6⟩; have HC6 := Lib.hid hc6; have HB6 := Lib.hid (HB5.out.trans (hu6.below HB5.out.size (fun k hk => by rw [hk]; exact HB2.out.size))); have HR6 := Lib.hid (row_upd HR5.out hu6 (by have := HR2.out.lt; omega)); clear hc6) | (go_at_call 11; refine (initer _ _ _ HC9.out).mono ?_; rintro e w10 ⟨rfl, rfl⟩))
  · go_ret
    exact ⟨rfl, Below.refl _ _⟩
  have HI9 := Lib.hid ((HI7.out.kept (Upd.of_below (S := fun _ => False) hb8) id id).kept hu9 (by have := HC6.out.lt; omega) (by have := HR2.out.lt; omega))
  have hws : w.heap.size ≤ w6.heap.size := HB6.out.size
  clear hb1 hb2 hb3 hb4 hb5 hb7 hb8 hu6 hu9
  generalize w6.heap.size = p6 at *
  go_loopw [9] (fun i wr => ∃ k : Nat, k ≤ n1 ∧ i = .int .i64 k ∧ Hid (It1 wr p6 g n1 bs1 k) ∧ Hid (Below w.heap.size w wr)) (fun i _ => n1 - (intOf i).toNat)
  case atStart => exact ⟨0, Nat.zero_le _, rfl, HI9, HB9⟩
  case round =>
    obtain ⟨k, hk, rfl, HI, HBr⟩ := hrel
    by_cases hlt : k < n1
    · have hlt' : (k : Int) < n1 := by omega
      go_wp2_with (first | (go_at_call 34; refine (nextI1 _ p6 g n1 k bs1 HI.out hlt).mono ?_; rintro e w11 ⟨rfl, hi6, hu6⟩; have HI6 := Lib.hid hi6; have c6 := hi6.cell hlt; have HBs : Hid (Below w.heap.size w w11) := Lib.hid (HBr.out.trans (hu6.below HBr.out.size (fun j hj => by rw [hj]; exact hws))); unfold some_; clear hi6 hu6) | (go_at_call 12; refine (asint _ _).mono ?_; rintro e w7 ⟨rfl, rfl⟩))
      go_roundw
      case rel => exact ⟨k + 1, by omega, by go_num, HI6, HBs⟩
      case measure => simp [intOf]; omega
    · have hlt' : ¬ (k : Int) < n1 := by omega
      go_wp2_with (go_at_call 34; refine (endI1 _ p6 g n1 k bs1 HI.out (by omega)).mono ?_; rintro e w12 ⟨rfl, hi8, hu8⟩; unfold none_; have HBs : Hid (Below w.heap.size w w12) := Lib.hid (HBr.out.trans (hu8.below HBr.out.size (fun j hj => by rw [hj]; exact hws))); clear hi8 hu8)
      go_ret
      exact ⟨rfl, HBs.out⟩
set_option maxRecDepth 100000 in
set_option maxHeartbeats 400000 in
theorem walk2 (a0 a1 : Option Addr) (n0 cap0 n1 cap1 : Nat) (bs0 bs1 : Nat → Int) (w : World) (hn : n0 + n1 ≤ 131072) (h2n : 2 ≤ n1) (HZ : Hid (Calls Try.prog 5 #[.slice a0 n0 cap0, .slice a1 n1 cap1, .bool false] w (SomeBool w)))
    (HA : Hid (Calls Try.prog 6 #[.slice a0 n0 cap0] w (Copied bs0 n0 w))) (HB : Hid (∀ w1, Below w.heap.size w w1 → Calls Try.prog 6 #[.slice a1 n1 cap1] w1 (Copied bs1 n1 w1))) :
    Calls Try.prog 3 #[.slice a0 n0 cap0, .slice a1 n1 cap1, .bool false] w fun e w' => e = .returned (.bool true) ∧ Below w.heap.size w w' := by
  have hm := m77
  go_enter Try.func3, Try.ntmps3
  go_wp2_with (first | (have hguard := hb1; clear hguard; go_at_call 6; refine (HB.out _ hb1).mono ?_; intro e w2 hcp; obtain ⟨g, rfl, hrow, hsz, hb2⟩ := copied_some hcp (by omega); have HR2 := Lib.hid hrow; have HB2 := Lib.hid (hb1.trans (hb2.mono hb1.size)); clear hcp hrow) | (have hguard := HR6; clear hguard; go_at_call 10; refine (newI2 g n1 bs1 _ HR6.out h2n (by omega)).mono ?_; rintro e w7 ⟨rfl, hi7, hb7⟩; have HI7 := Lib.hid hi7; have HC7 := Lib.hid (Blk.low HC6.out hb7); have HB7 := Lib.hid (HB6.out.trans (hb7.mono HB6.out.size)); clear hi7) | (have hguard := HC7; clear hguard; go_at_call 9; refine (withinB _ _ _).mono ?_; rintro e w8 ⟨rfl, hv8, hb8⟩; have HV8 := Lib.hid hv8; have HC8 := Lib.hid (Blk.low HC7.out hb8); have HB8 := Lib.hid (HB7.out.trans (hb8.mono HB7.out.size)); clear hv8) | (have hguard := HV8; clear hguard; go_at_call 8; refine (applyB _ _ _ _ _ _ HV8.out HC8.out).mono ?_; rintro e w9 ⟨rfl, hc9, hu9⟩; have HC9 := Lib.hid hc9; have HB9 := Lib.hid (HB8.out.trans (hu9.below HB8.out.size (fun k hk => by rw [hk]; exact HB2.out.size))); clear hc9) | (go_at_call 5; refine HZ.out.mono ?_; rintro e w1 ⟨b, rfl, rfl⟩) | (go_at_call 6; refine HA.out.mono ?_; rintro e w1 ⟨ac, cc, rfl, hor1, hb1⟩; have HO1 := Lib.hid hor1; clear hor1) | (go_at_call 7; refine (newcB _).mono ?_; rintro e w3 ⟨rfl, hc3, hb3⟩; have HC3 := Lib.hid hc3; have HB3 := Lib.hid (HB2.out.trans (hb3.mono HB2.out.size)); have HR3 := Lib.hid (HR2.out.kept hb3); clear hc3) | (go_at_call 10; refine (newAny _ _ _ bs0 _ (HO1.out.imp id (fun ⟨g, h1, h2, h3⟩ => ⟨g, h1, h2, (h3.kept hb2).kept hb3⟩)) (by omega)).mono ?_; rintro e w4 ⟨t, p, rfl, hb4⟩; have HC4 := Lib.hid (Blk.low HC3.out hb4); have HB4 := Lib.hid (HB3.out.trans (hb4.mono HB3.out.size)); have HR4 := Lib.hid (HR3.out.kept hb4)) | (go_at_call 9; refine (withinB _ _ _).mono ?_; rintro e w5 ⟨rfl, hv5, hb5⟩; have HV5 := Lib.hid hv5; have HC5 := Lib.hid (Blk.low HC4.out hb5); have HB5 := Lib.hid (HB4.out.trans (hb5.mono HB4.out.size)); have HR5 := Lib.hid (HR4.out.kept hb5); clear hv5) | (go_at_call 8; refine (applyB _ _ _ _ _ _ HV5.out HC5.out).mono ?_; rintro e w6 ⟨rfl, hc6, hu6⟩; have HC6 := Lib.hid hc6; have HB6 := Lib.hid (HB5.out.trans (hu6.below HB5.out.size (fun k hk => by rw [hk]; exact HB2.out.size))); have HR6 := Lib.hid (row_upd HR5.out hu6 (by have := HR2.out.lt; omega)); clear hc6) | (go_at_call 11; refine (initer _ _ _ HC9.out).mono ?_; rintro e w10 ⟨rfl, rfl⟩))
  · go_ret
    exact ⟨rfl, Below.refl _ _⟩
  have HI9 := Lib.hid ((HI7.out.kept (Upd.of_below (S := fun _ => False) hb8) id id).kept hu9 (by have := HC6.out.lt; omega) (by have := HR2.out.lt; omega))
  have hws : w.heap.size ≤ w6.heap.size := HB6.out.size
  clear hb1 hb2 hb3 hb4 hb5 hb7 hb8 hu6 hu9
  generalize w6.heap.size = p6 at *
  go_loopw [9] (fun i wr => ∃ k : Nat, k ≤ n1 ∧ i = .int .i64 k ∧ Hid (It2 wr p6 g n1 bs1 k) ∧ Hid (Below w.heap.size w wr)) (fun i _ => n1 - (intOf i).toNat)
  case atStart => exact ⟨0, Nat.zero_le _, rfl, HI9, HB9⟩
  case round =>
    obtain ⟨k, hk, rfl, HI, HBr⟩ := hrel
    by_cases hlt : k < n1
    · have hlt' : (k : Int) < n1 := by omega
      go_wp2_with (first | (go_at_call 35; refine (nextI2 _ p6 g n1 k bs1 HI.out hlt).mono ?_; rintro e w11 ⟨rfl, hi6, hu6⟩; have HI6 := Lib.hid hi6; have c6 := hi6.cell hlt; have HBs : Hid (Below w.heap.size w w11) := Lib.hid (HBr.out.trans (hu6.below HBr.out.size (fun j hj => by rw [hj]; exact hws))); unfold some_; clear hi6 hu6) | (go_at_call 12; refine (asint _ _).mono ?_; rintro e w7 ⟨rfl, rfl⟩))
      go_roundw
      case rel => exact ⟨k + 1, by omega, by go_num, HI6, HBs⟩
      case measure => simp [intOf]; omega
    · have hlt' : ¬ (k : Int) < n1 := by omega
      go_wp2_with (go_at_call 35; refine (endI2 _ p6 g n1 k bs1 HI.out (by omega)).mono ?_; rintro e w12 ⟨rfl, hi8, hu8⟩; unfold none_; have HBs : Hid (Below w.heap.size w w12) := Lib.hid (HBr.out.trans (hu8.below HBr.out.size (fun j hj => by rw [hj]; exact hws))); clear hi8 hu8)
      go_ret
      exact ⟨rfl, HBs.out⟩
theorem walk (a0 : Option Addr) (len0 cap0 : Nat) (z0 : List Int) (a1 : Option Addr) (len1 cap1 : Nat) (z1 : List Int) (a2 : Bool) (w : World) (w0 : inp.IsRow .i64 w a0 len0 cap0 z0) (w1 : inp.IsRow .i64 w a1 len1 cap1 z1) :
    Calls Try.prog 3 #[.slice a0 len0 cap0, .slice a1 len1 cap1, .bool a2] w fun e w' => e = .returned (.bool true) ∧ Below w.heap.size w w' := by
  obtain ⟨hl0, hnil0⟩ := row_len w0
  obtain ⟨hl1, hnil1⟩ := row_len w1
  have hin0 : In w a0 len0 (fB fun i => z0.getD i 0) := In.of_ints w0
  have hin1 : In w a1 len1 (fB fun i => z1.getD i 0) := In.of_ints w1
  by_cases hs : len0 ≤ 1048576 ∧ len1 ≤ 1048576
  · have HZ := Lib.hid (zb5 a0 a1 len0 cap0 len1 cap1 a2 w hl0 hl1)
    by_cases hb : len0 + len1 ≤ 131072
    · have HA := Lib.hid (clone a0 cap0 len0 _ w hin0 hnil0 (by omega))
      have HB : Hid (∀ w', Below w.heap.size w w' → Calls Try.prog 6 #[.slice a1 len1 cap1] w' (Copied (fun i => z1.getD i 0) len1 w')) := Lib.hid (fun w' hw => clone a1 cap1 len1 _ w' (hin1.kept hw) hnil1 (by omega))
      cases a2
      · rcases (show len1 = 0 ∨ len1 = 1 ∨ 2 ≤ len1 by omega) with rfl | rfl | h2
        · exact walk0 _ _ _ _ _ _ _ _ hb HZ HA HB
        · exact walk1 _ _ _ _ _ _ _ _ _ hb rfl HZ HA HB
        · exact walk2 _ _ _ _ _ _ _ _ _ hb h2 HZ HA HB
      · exact walkClear _ _ _ _ _ _ _ _ _ hb HZ HA HB
    · exact walkBig _ _ _ _ _ _ _ _ hs.1 hs.2 hb HZ
  · exact walkOut _ _ _ _ _ _ _ _ (Lib.hid (zb5f _ _ _ _ _ _ _ _ hl0 hl1 hs))
end Go.Proofs.Ytenkhaopiiokmaa.fnWithInputIterLastWins
