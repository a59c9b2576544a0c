/- The walk of the law FnScopeStackAgreesWithPersistentList: it returns true at every script. -/
import Derived.Test.YtkahmfdebkfcjaaLaws
namespace Go.Proofs.Ytkahmfdebkfcjaa.fnScopeStackAgreesWithPersistentList
open Go.ChangeShapes Go.WideShapes Go.ChangeAt Go.RowKit
open upd stack full plain step fill init laws

theorem walk (a0 : Option Addr) (len0 cap0 : Nat) (z0 : List Int) (w : World) (w0 : inp.IsRow .u8 w a0 len0 cap0 z0) :
    Calls Try.prog 3 #[.slice a0 len0 cap0] w fun e w' => e = .returned (.bool true) ∧ Below w.heap.size w w' := by
  obtain ⟨bs, hbs, hin, hnil, hm⟩ := open_in a0 len0 cap0 z0 w w0
  clear w0
  have HZ := Lib.hid (zb6 a0 len0 cap0 w hm)
  by_cases hb : 65536 < len0
  · have hb' : (65536 : Int) < len0 := by omega
    clear hnil hin hbs
    go_enter Try.func3, Try.ntmps3
    go_wp2_with (go_at_call 6; refine HZ.out.mono ?_; rintro e w1 ⟨b, rfl, rfl⟩)
    all_goals (go_ret; exact ⟨rfl, Below.refl _ _⟩)
  · have hl : len0 ≤ 65536 := by omega
    have HC := Lib.hid (clone a0 cap0 len0 bs w hin hnil hl)
    have HBS := Lib.hid hbs
    clear hnil hin hbs hb
    go_enter Try.func3, Try.ntmps3
    go_wp2_with (first | (go_at_call 6; refine HZ.out.mono ?_; rintro e w1 ⟨b, rfl, rfl⟩) | (go_at_call 7; refine HC.out.mono ?_; rintro e w1 ⟨ac, cc, rfl, hin1, _, hb1⟩; have HIN := Lib.hid hin1; clear hin1) | (go_at_call 8; refine (znew _).mono ?_; rintro e w2 ⟨rfl, hs2, hb2, hz2⟩; have HS2 := Lib.hid hs2; have HZ2 := Lib.hid hz2; clear hs2 hz2) | (go_at_call 9; refine (newmodel _).mono ?_; rintro e w3 ⟨rfl, rfl⟩; rw [HZ2.out]; have HST := Lib.hid (state_new HS2.out HZ2.out); have HB3 : Hid (Below w1.heap.size w1 (w2.alloc (.cells #[.slice none 0 0, .slice none 0 0, .int .i64 (-1), .slice none 0 0, .slice none 0 0, .slice none 0 0] 40))) := hb2.alloc (by have := hb2.size; omega) _; have hz3 : w1.heap.size ≤ (w2.alloc (.cells #[.slice none 0 0, .slice none 0 0, .int .i64 (-1), .slice none 0 0, .slice none 0 0, .slice none 0 0] 40)).heap.size := (by have := hb2.size; simp; omega); generalize w2.alloc (.cells #[.slice none 0 0, .slice none 0 0, .int .i64 (-1), .slice none 0 0, .slice none 0 0, .slice none 0 0] 40) = w4 at HST HB3 hz3 ⊢) | (go_at_call 10; refine (apply_any _ _ _ _ _ _ _ bs w1 HST.out hl HBS.out HIN.out (Nat.le_refl _) HB3.out hz3).mono ?_; rintro e w5 ⟨rfl, hst5, hb5⟩; have HST5 := Lib.hid hst5; clear hst5; have hz5 := Nat.le_trans hz3 hb5.size) | (go_at_call 11; refine (drain.drain _ _ _ _ _ HST5.out hz5 (by omega)).mono ?_; rintro e w6 ⟨rfl, hb6⟩))
    all_goals go_ret
    all_goals first | exact ⟨rfl, Below.refl _ _⟩ | skip
    have b4 := hb1.trans (HB3.out.mono hb1.size)
    have b5 := b4.trans (hb5.mono hb1.size)
    exact ⟨rfl, b5.trans (hb6.mono hb1.size)⟩
end Go.Proofs.Ytkahmfdebkfcjaa.fnScopeStackAgreesWithPersistentList
