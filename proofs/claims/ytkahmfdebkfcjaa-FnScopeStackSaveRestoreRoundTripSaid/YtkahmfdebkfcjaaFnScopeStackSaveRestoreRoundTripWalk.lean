/- The walk of the law FnScopeStackSaveRestoreRoundTrip: it returns true at every script. -/
import Derived.Test.YtkahmfdebkfcjaaLaws
namespace Go.Proofs.Ytkahmfdebkfcjaa.fnScopeStackSaveRestoreRoundTrip
open Go.ChangeShapes Go.WideShapes Go.ChangeAt Go.RowKit
open upd stack full plain step fill init laws

theorem zindex (w : World) (base b : Nat) (dv : Value) (d : List (Sc × Int)) (idx lim : Int) (h : Stk w base b dv d idx lim) : Calls Try.prog 13 #[.pointer (some ⟨b, 0, none⟩)] w fun e w' => e = .returned (.int .i64 idx) ∧ w = w' := by
  obtain ⟨c0, c1, c2, f0, f1, f2⟩ := h.cells
  clear h
  go_enter Try.func13, Try.ntmps13
  go_wp2_with fail
  go_ret
  exact ⟨rfl, rfl⟩
theorem zlimit (w : World) (base b : Nat) (dv : Value) (d : List (Sc × Int)) (idx lim : Int) (h : Stk w base b dv d idx lim) : Calls Try.prog 14 #[.pointer (some ⟨b, 0, none⟩)] w fun e w' => e = .returned (.int .i64 lim) ∧ w = w' := by
  obtain ⟨c0, c1, c2, f0, f1, f2⟩ := h.cells
  clear h
  go_enter Try.func14, Try.ntmps14
  go_wp2_with fail
  go_ret
  exact ⟨rfl, rfl⟩
theorem zdatalen (w : World) (base b : Nat) (dv : Value) (d : List (Sc × Int)) (idx lim : Int) (h : Stk w base b dv d idx lim) : Calls Try.prog 15 #[.pointer (some ⟨b, 0, none⟩)] w fun e w' => e = .returned (.int .i64 d.length) ∧ w = w' := by
  obtain ⟨c0, c1, c2, f0, f1, f2⟩ := h.cells
  obtain ⟨sa, sl, sc, rfl, rfl⟩ : ∃ sa sl sc, dv = .slice sa sl sc ∧ sl = d.length := by
    rcases own_form h.row with ⟨h, h0, _⟩ | ⟨g, cap, h, _⟩
    · exact ⟨_, _, _, h, h0.symm⟩
    · exact ⟨_, _, _, h, rfl⟩
  clear h
  go_enter Try.func15, Try.ntmps15
  go_wp2_with fail
  go_ret
  exact ⟨rfl, rfl⟩

set_option maxHeartbeats 1000000 in
theorem walk (a0 : Option Addr) (len0 cap0 : Nat) (z0 : List Int) (w : World) (w0 : inp.IsRow .u8 w a0 len0 cap0 z0) :
    Calls Try.prog 4 #[.slice a0 len0 cap0] w fun e w' => e = .returned (.bool true) ∧ Below w.heap.size w w' := by
  obtain ⟨bs, hbs, hin, hnil, hm⟩ := open_in a0 len0 cap0 z0 w w0
  clear w0
  have HZ := Lib.hid (zb12 a0 len0 cap0 w hm)
  by_cases hb : 65536 < len0
  · have hb' : (65536 : Int) < len0 := by omega
    clear hnil hin hbs
    go_enter Try.func4, Try.ntmps4
    go_wp2_with (go_at_call 12; refine HZ.out.mono ?_; rintro e w1 ⟨b, rfl, rfl⟩)
    all_goals (go_ret; exact ⟨rfl, Below.refl _ _⟩)
  · have hl : len0 ≤ 65536 := by omega
    have HC := Lib.hid (clone a0 cap0 len0 bs w hin hnil hl)
    have HBS := Lib.hid hbs
    clear hnil hin hbs hb
    go_enter Try.func4, Try.ntmps4
    go_wp2_with (first | (go_at_call 12; refine HZ.out.mono ?_; rintro e w1 ⟨b, rfl, rfl⟩) | (go_at_call 7; refine HC.out.mono ?_; rintro e w1 ⟨ac, cc, rfl, hin1, _, hb1⟩; have HIN := Lib.hid hin1; clear hin1) | (go_at_call 8; refine (znew _).mono ?_; rintro e w2 ⟨rfl, hs2, hb2, hz2⟩; have HS2 := Lib.hid hs2; have HZ2 := Lib.hid hz2; clear hs2 hz2) | (go_at_call 9; refine (newmodel _).mono ?_; rintro e w3 ⟨rfl, rfl⟩; rw [HZ2.out]; have HST := Lib.hid (state_new HS2.out HZ2.out); have HB3 : Hid (Below w1.heap.size w1 (w2.alloc (.cells #[.slice none 0 0, .slice none 0 0, .int .i64 (-1), .slice none 0 0, .slice none 0 0, .slice none 0 0] 40))) := hb2.alloc (by have := hb2.size; omega) _; have hz3 : w1.heap.size ≤ (w2.alloc (.cells #[.slice none 0 0, .slice none 0 0, .int .i64 (-1), .slice none 0 0, .slice none 0 0, .slice none 0 0] 40)).heap.size := (by have := hb2.size; simp; omega); generalize w2.alloc (.cells #[.slice none 0 0, .slice none 0 0, .int .i64 (-1), .slice none 0 0, .slice none 0 0, .slice none 0 0] 40) = w4 at HST HB3 hz3 ⊢) | (go_at_call 10; refine (apply_any _ _ _ _ _ _ _ bs w1 HST.out hl HBS.out HIN.out (Nat.le_refl _) HB3.out hz3).mono ?_; rintro e w5 ⟨rfl, hst5, hb5⟩; obtain ⟨d, md, idx, lim, head, sv, col, dv, a1, a2, a3, a4, a5, k1, k2, k3, k4, k5, l1, l2, l3, l4, l5, hinv, htie, hd, n1, n2, n3, n4, n5, hfull⟩ := hst5; have HF5 := Lib.hid hfull; have HI := Lib.hid hinv; have HTI := Lib.hid htie; clear hfull hinv htie; have hz5 := Nat.le_trans hz3 hb5.size) | (go_at_call 16; refine (zsave _ _ _ _ _ _ _ HF5.out.stk).mono ?_; rintro e w6 ⟨rfl, hS6, hu6⟩; have HS6 := Lib.hid hS6; have HU6 := Lib.hid hu6; clear hS6 hu6) | (go_at_call 17; refine (zrestore _ _ _ _ _ _ _ _ _ HS6.out).mono ?_; rintro e w7 ⟨rfl, hS7, hu7⟩; have HS7 := Lib.hid hS7; have HU7 := Lib.hid hu7; clear hS7 hu7) | (go_at_call 13; first | ((with_reducible refine (zindex _ _ _ _ _ _ _ HS7.out).mono ?_); rintro e w9 ⟨rfl, rfl⟩) | ((with_reducible refine (zindex _ _ _ _ _ _ _ HF5.out.stk).mono ?_); rintro e w9 ⟨rfl, rfl⟩)) | (go_at_call 14; first | ((with_reducible refine (zlimit _ _ _ _ _ _ _ HS7.out).mono ?_); rintro e w9 ⟨rfl, rfl⟩) | ((with_reducible refine (zlimit _ _ _ _ _ _ _ HF5.out.stk).mono ?_); rintro e w9 ⟨rfl, rfl⟩)) | (go_at_call 15; first | ((with_reducible refine (zdatalen _ _ _ _ _ _ _ HS7.out).mono ?_); rintro e w9 ⟨rfl, rfl⟩) | ((with_reducible refine (zdatalen _ _ _ _ _ _ _ HF5.out.stk).mono ?_); rintro e w9 ⟨rfl, rfl⟩)) | (go_at_call 11; obtain ⟨col7, hF7⟩ := HF5.out.stack HS7.out ((HU6.out.trans HU7.out).mono (fun _ _ h => .inl h)) (.inl rfl); have hz7 : w1.heap.size ≤ w7.heap.size := Nat.le_trans hz5 (HU6.out.trans HU7.out).size; have HB7 : Hid (Below w1.heap.size w5 w7) := (HU6.out.trans HU7.out).below hz5 (fun k hk => by rw [hk]; exact HF5.out.hb); refine (drain.drain _ _ _ len0 _ ⟨d, md, _, _, _, sv, _, _, _, _, _, _, _, _, _, _, _, _, l1, l2, l3, l4, l5, HI.out, HTI.out, hd, n1, n2, n3, n4, n5, hF7⟩ hz7 (by omega)).mono ?_; rintro e w8 ⟨rfl, hb8⟩))
    all_goals go_ret
    all_goals first | exact ⟨rfl, Below.refl _ _⟩ | skip
    have b4 := hb1.trans (HB3.out.mono hb1.size)
    have b5 := b4.trans (hb5.mono hb1.size)
    have b7 := b5.trans (HB7.out.mono hb1.size)
    exact ⟨rfl, b7.trans (hb8.mono hb1.size)⟩
end Go.Proofs.Ytkahmfdebkfcjaa.fnScopeStackSaveRestoreRoundTrip
