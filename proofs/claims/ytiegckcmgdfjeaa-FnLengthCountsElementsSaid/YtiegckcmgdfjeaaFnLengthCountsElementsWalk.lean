/- The walk of the law FnLengthCountsElements: it returns true at every list of strings and int. -/
import Derived.Test.YtiegckcmgdfjeaaObj
import Derived.Test.YtiegckcmgdfjeaaDistinct
namespace Go.Proofs.Ytiegckcmgdfjeaa.fnLengthCountsElements
open Go.ChangeShapes Go.WideShapes Go.ChangeAt Go.RowKit
open types fill strs dist obj distn

set_option maxHeartbeats 1000000 in
theorem walk (a0 : Option Addr) (len0 cap0 : Nat) (z0 : List ByteArray) (a1 : Int) (w : World) (w0 : inp.IsStrs w a0 len0 cap0 z0) (_w1 : (Lit.int .i64 a1).wf = true) :
    Calls Try.prog 8 #[.slice a0 len0 cap0, .int .i64 a1] w fun e w' => e = .returned (.bool true) ∧ Below w.heap.size w w' := by
  obtain ⟨ks, rfl, hs, hm, hnil, hin⟩ := open_in a0 len0 cap0 z0 w w0
  clear w0 _w1
  unfold maxLen at hm
  have HZ := Lib.hid (zb26 a0 cap0 ks a1 w hin hm)
  by_cases hb : 4096 < ks.length
  · have hb' : (4096 : Int) < ks.length := by omega
    clear hnil hin hs
    go_enter Try.func8, Try.ntmps8
    go_wp2_with (go_at_call 26; refine HZ.out.mono ?_; rintro e w1 ⟨b, rfl, rfl⟩)
    all_goals (go_ret; exact ⟨rfl, Below.refl _ _⟩)
  · have hl : ks.length ≤ 4096 := by omega
    have HK := Lib.hid (kb27 a0 cap0 ks w hin hm)
    have HC := Lib.hid (clone a0 cap0 ks w hin hnil hl)
    have HS := Lib.hid hs
    clear hnil hin hs hb
    by_cases hn0 : a1 < 0
    · go_enter Try.func8, Try.ntmps8
      go_wp2_with (first | (go_at_call 26; refine HZ.out.mono ?_; rintro e w1 ⟨b, rfl, rfl⟩) | (go_at_call 27; refine HK.out.mono ?_; rintro e w1 ⟨t, rfl, rfl⟩))
      all_goals (go_ret; exact ⟨rfl, Below.refl _ _⟩)
    · by_cases hn1 : 65536 < a1
      · go_enter Try.func8, Try.ntmps8
        go_wp2_with (first | (go_at_call 26; refine HZ.out.mono ?_; rintro e w1 ⟨b, rfl, rfl⟩) | (go_at_call 27; refine HK.out.mono ?_; rintro e w1 ⟨t, rfl, rfl⟩))
        all_goals (go_ret; exact ⟨rfl, Below.refl _ _⟩)
      · obtain ⟨n, rfl⟩ := Int.eq_ofNat_of_zero_le (show 0 ≤ a1 by omega)
        have hn : n ≤ 65536 := by omega
        clear hn0 hn1
        go_enter Try.func8, Try.ntmps8
        go_wp2_with (first | (go_at_call 26; refine HZ.out.mono ?_; rintro e w1 ⟨b, rfl, rfl⟩) | (go_at_call 27; refine HK.out.mono ?_; rintro e w1 ⟨t, rfl, rfl⟩) | (go_at_call 28; refine HC.out.mono ?_; rintro e w1 ⟨ac, cc, rfl, hin1, hb1⟩) | (go_at_call 29; refine (zlen_obj _ _ ks _ hin1 hl HS.out).mono ?_; rintro e w2 ⟨rfl, hb2⟩; have hin2 : InS w2 ac ks := In.kept hin1 hb2) | (go_at_call 30; refine (distn.distinct _ _ ks _ hin2 hl).mono ?_; rintro e w3 ⟨rfl, hb3⟩) | (go_at_call 31; refine (zlen_arr _ _ hn).mono ?_; rintro e w4 ⟨rfl, hb4⟩))
        all_goals go_ret
        all_goals first | exact ⟨rfl, Below.refl _ _⟩ | skip
        have b2 := hb1.trans (hb2.mono hb1.size)
        have b3 := b2.trans (hb3.mono b2.size)
        exact ⟨by simp, b3.trans (hb4.mono b3.size)⟩
end Go.Proofs.Ytiegckcmgdfjeaa.fnLengthCountsElements
