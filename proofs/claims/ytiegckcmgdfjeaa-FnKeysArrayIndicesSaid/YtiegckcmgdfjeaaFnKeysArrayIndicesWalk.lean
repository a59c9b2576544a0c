/- The walk of the law FnKeysArrayIndices: it returns true at every two ints. -/
import Derived.Test.YtiegckcmgdfjeaaKeys
namespace Go.Proofs.Ytiegckcmgdfjeaa.fnKeysArrayIndices
open Go.ChangeShapes Go.WideShapes Go.ChangeAt Go.RowKit
open types fill keysarr

theorem walk (a0 : Int) (a1 : Int) (w : World) (_w0 : (Lit.int .i64 a0).wf = true) (_w1 : (Lit.int .i64 a1).wf = true) :
    Calls Try.prog 6 #[.int .i64 a0, .int .i64 a1] w fun e w' => e = .returned (.bool true) ∧ Below w.heap.size w w' := by
  clear _w0 _w1
  by_cases h0 : a0 < 0
  · go_enter Try.func6, Try.ntmps6
    go_wp2_with fail
    go_ret
    exact ⟨rfl, Below.refl _ _⟩
  · by_cases h1 : 65536 < a0
    · go_enter Try.func6, Try.ntmps6
      go_wp2_with fail
      go_ret
      exact ⟨rfl, Below.refl _ _⟩
    · obtain ⟨n, rfl⟩ := Int.eq_ofNat_of_zero_le (show 0 ≤ a0 by omega)
      have hn : n ≤ 65536 := by omega
      clear h0 h1
      go_enter Try.func6, Try.ntmps6
      go_wp2_with (go_at_call 23; refine (zkeys_arr _ _ hn).mono ?_; rintro e w1 ⟨B, rfl, hr, hb⟩)
      have HR := Lib.hid hr
      have HB := Lib.hid hb
      clear hr hb
      go_loop [7] (fun i => ∃ k : Nat, k ≤ n ∧ i = .int .i64 k) (fun i => n - (intOf i).toNat)
      case atStart => exact ⟨0, Nat.zero_le _, rfl⟩
      case round =>
        obtain ⟨k, hk, rfl⟩ := hrel
        by_cases hlt : k < n
        · have c0 := HR.out.cell (j := k) (v := fInt k) (by simp [hlt])
          unfold fInt at c0
          go_wp2_with fail
          go_round
          case rel => exact ⟨k + 1, by omega, by go_num⟩
          case measure => simp [intOf]; omega
        · go_wp2_with (go_at_call 24; refine (zkeys_int _ _).mono ?_; rintro e w2 ⟨rfl, hb2⟩)
          go_ret
          exact ⟨rfl, HB.out.trans (hb2.mono HB.out.size)⟩
end Go.Proofs.Ytiegckcmgdfjeaa.fnKeysArrayIndices
