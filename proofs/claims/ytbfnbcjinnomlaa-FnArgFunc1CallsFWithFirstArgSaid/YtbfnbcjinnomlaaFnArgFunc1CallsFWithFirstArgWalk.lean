/- The walk of the law FnArgFunc1CallsFWithFirstArg: it returns true at every two strings and list of strings. -/
import Derived.Test.YtbfnbcjinnomlaaCall1
namespace Go.Proofs.Ytbfnbcjinnomlaa.fnArgFunc1CallsFWithFirstArg
open Go.ChangeShapes Go.WideShapes Go.ChangeAt Go.RowKit
open fill strs calls argfunc trim call1

set_option maxHeartbeats 2000000 in
theorem walk (a0 : ByteArray) (p : ByteArray) (a1 : Option Addr) (len1 cap1 : Nat) (z1 : List ByteArray) (w : World) (w0 : a0.size ≤ maxLen) (wp : p.size ≤ maxLen) (w1 : inp.IsStrs w a1 len1 cap1 z1) :
    Calls Try.prog 10 #[.string a0, .string p, .slice a1 len1 cap1] w fun e w' => e = .returned (.bool true) ∧ Below w.heap.size w w' := by
  obtain ⟨ks, rfl, hs, hm, hnil, hin⟩ := open_in a1 len1 cap1 z1 w w1
  clear w1 hs
  unfold maxLen at hm w0 wp
  have HZ := Lib.hid (zb21 a0 p a1 cap1 ks w hin w0 wp hm)
  by_cases h1 : 1048576 < a0.size
  · have h1' : (1048576 : Int) < a0.size := by omega
    clear hnil hin
    go_enter Try.func10, Try.ntmps10
    go_wp2_with (go_at_call 21; refine HZ.out.mono ?_; rintro e w1 ⟨b, rfl, rfl⟩)
    all_goals (go_ret; exact ⟨rfl, Below.refl _ _⟩)
  by_cases h3 : 1048576 < p.size
  · have h3' : (1048576 : Int) < p.size := by omega
    clear hnil hin
    go_enter Try.func10, Try.ntmps10
    go_wp2_with (go_at_call 21; refine HZ.out.mono ?_; rintro e w1 ⟨b, rfl, rfl⟩)
    all_goals (go_ret; exact ⟨rfl, Below.refl _ _⟩)
  by_cases h2 : 65536 < ks.length
  · have h2' : (65536 : Int) < ks.length := by omega
    clear hnil hin
    go_enter Try.func10, Try.ntmps10
    go_wp2_with (go_at_call 21; refine HZ.out.mono ?_; rintro e w1 ⟨b, rfl, rfl⟩)
    all_goals (go_ret; exact ⟨rfl, Below.refl _ _⟩)
  have hl : ks.length ≤ 65536 := by omega
  have hl0 : a0.size ≤ 1048576 := by omega
  have hl1 : p.size ≤ 1048576 := by omega
  have HC := Lib.hid (clone a1 cap1 ks w hin hnil hl)
  clear h1 h2 h3 w0 wp hm
  rcases hin with ⟨rfl, h0⟩ | ⟨x, rfl, hx, hc⟩
  · obtain rfl : ks = [] := List.length_eq_zero_iff.1 h0
    obtain ⟨_, rfl⟩ := hnil rfl
    have HC' : Hid (Calls Try.prog 19 #[.slice none 0 0] w (Copied [] w)) := HC.out
    have HZ' : Hid (Calls Try.prog 21 #[.string a0, .string p, .slice none 0 0] w (SomeBool w)) := HZ.out
    clear h0 hnil hl HC HZ
    show Calls Try.prog 10 #[.string a0, .string p, .slice none 0 0] w _
    go_enter Try.func10, Try.ntmps10
    go_wp2_with (go_at_call 21; refine HZ'.out.mono ?_; rintro e w1 ⟨b, rfl, rfl⟩)
    all_goals first | (go_ret; exact ⟨rfl, Below.refl _ _⟩) | skip
    go_loop [7, 8] (fun t i => (∃ m : Int, t = .int .i64 m) ∧ i = .int .i64 0) (fun _ _ => 0)
    case atStart => exact ⟨⟨_, rfl⟩, rfl⟩
    case round =>
      obtain ⟨⟨m, rfl⟩, rfl⟩ := hrel
      go_wp2_with (first | (go_at_call 19; refine HC'.out.mono ?_; rintro e w1 ⟨ac, cc, rfl, hin1, hb1⟩) | (go_at_call 17; refine (zarg1 _).mono ?_; rintro e w2 ⟨rfl, hh⟩; have hin2 : InS w2 ac [] := In.kept hin1 hh.1) | (go_at_call 22; refine (call1.call1 _ _ _ hl0 _ _ [] _ hin2 (by simp) hh.2.1 hh.2.2).mono ?_; rintro e w3 ⟨rfl, hb3⟩) | (go_at_call 23; refine (model _ _ _ hl0 hl1).mono ?_; rintro e w4 ⟨rfl, hb4⟩))
      all_goals go_ret
      all_goals first | exact ⟨rfl, Below.refl _ _⟩ | skip
      have b2 := hb1.trans (hh.1.mono hb1.size)
      have b3 := b2.trans (hb3.mono b2.size)
      exact ⟨by simp, b3.trans (hb4.mono b3.size)⟩
  · have HX := Lib.hid hc
    clear hc hnil
    go_enter Try.func10, Try.ntmps10
    go_wp2_with (go_at_call 21; refine HZ.out.mono ?_; rintro e w1 ⟨b, rfl, rfl⟩)
    all_goals first | (go_ret; exact ⟨rfl, Below.refl _ _⟩) | skip
    go_loop [7, 8] (fun t i => ∃ (k : Nat) (m : Int), k ≤ ks.length ∧ i = .int .i64 k ∧ t = .int .i64 m) (fun _ i => ks.length - (intOf i).toNat)
    case atStart => exact ⟨0, _, Nat.zero_le _, rfl, rfl⟩
    case round =>
      obtain ⟨k, m, hk, rfl, rfl⟩ := hrel
      by_cases hlt : k < ks.length
      · have c0 := HX.out k hlt
        unfold fS at c0
        generalize ks.getD k ByteArray.empty = s' at c0
        go_wp2_with fail
        all_goals first | (go_ret; exact ⟨rfl, Below.refl _ _⟩) | skip
        go_round
        case rel => exact ⟨k + 1, _, by omega, by go_num, rfl⟩
        case measure => simp [intOf]; omega
      · go_wp2_with (first | (go_at_call 19; refine HC.out.mono ?_; rintro e w1 ⟨ac, cc, rfl, hin1, hb1⟩) | (go_at_call 17; refine (zarg1 _).mono ?_; rintro e w2 ⟨rfl, hh⟩; have hin2 : InS w2 ac ks := In.kept hin1 hh.1) | (go_at_call 22; refine (call1.call1 _ _ _ hl0 _ _ ks _ hin2 hl hh.2.1 hh.2.2).mono ?_; rintro e w3 ⟨rfl, hb3⟩) | (go_at_call 23; refine (model _ _ _ hl0 hl1).mono ?_; rintro e w4 ⟨rfl, hb4⟩))
        all_goals go_ret
        all_goals first | exact ⟨rfl, Below.refl _ _⟩ | skip
        have b2 := hb1.trans (hh.1.mono hb1.size)
        have b3 := b2.trans (hb3.mono b2.size)
        exact ⟨by simp, b3.trans (hb4.mono b3.size)⟩
end Go.Proofs.Ytbfnbcjinnomlaa.fnArgFunc1CallsFWithFirstArg
