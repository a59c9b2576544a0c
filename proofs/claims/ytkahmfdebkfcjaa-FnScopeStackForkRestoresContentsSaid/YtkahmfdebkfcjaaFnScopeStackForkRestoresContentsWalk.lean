/- The walk of the law FnScopeStackForkRestoresContents: it returns true at every two scripts. -/
import Derived.Test.YtkahmfdebkfcjaaLaws
namespace Go.Proofs.Ytkahmfdebkfcjaa.fnScopeStackForkRestoresContents
open Go.ChangeShapes Go.WideShapes Go.ChangeAt Go.RowKit
open upd stack full plain step fill init laws

/-- the stack behind the save: in order, and as it was up to the limit -/
def Kept (d d' : List (Sc × Int)) (idx' lim : Int) (n : Nat) : Prop := Wf d' idx' lim ∧ (∀ j : Nat, (j : Int) ≤ lim → d'[j]? = d[j]?) ∧ d.length ≤ d'.length ∧ d'.length ≤ n

theorem Kept.push {d d' : List (Sc × Int)} {idx' lim : Int} {n : Nat} (h : Kept d d' idx' lim n) (v : Sc) : Kept d (put d' (top idx' lim) (v, idx')) (top idx' lim) lim (n + 1) := by
  obtain ⟨h1, h2, h3, h4⟩ := h
  have hp := put_len_ge d' (top idx' lim) (v, idx') h1.top_le
  exact ⟨h1.push v, fun j hj => (keep_push h1 v j hj).trans (h2 j hj), by omega, by omega⟩

/-- the stack and the model while only the stack is at work -/
def Rel (base b mb : Nat) (wr : World) (d : List (Sc × Int)) (lim head : Int) (a1 a2 a3 a4 a5 : Option Addr) (k1 k2 k3 k4 k5 : Nat) (l1 l2 l3 l4 l5 : List Int) (n : Nat) : Prop :=
  ∃ d' idx' col dv, Kept d d' idx' lim n ∧ Full base b mb wr col dv d' idx' lim head a1 a2 a3 a4 a5 k1 k2 k3 k4 k5 l1 l2 l3 l4 l5

set_option maxHeartbeats 4000000 in
theorem walk (a0 : Option Addr) (len0 cap0 : Nat) (z0 : List Int) (a1' : Option Addr) (len1 cap1 : Nat) (z1 : List Int) (w : World) (w0 : inp.IsRow .u8 w a0 len0 cap0 z0) (w1' : inp.IsRow .u8 w a1' len1 cap1 z1) :
    Calls Try.prog 5 #[.slice a0 len0 cap0, .slice a1' len1 cap1] w fun e w' => e = .returned (.bool true) ∧ Below w.heap.size w w' := by
  obtain ⟨bs, hbs, hin, hnil, hm⟩ := open_in a0 len0 cap0 z0 w w0
  obtain ⟨bs', hbs', hin', hnil', hm'⟩ := open_in a1' len1 cap1 z1 w w1'
  clear w0 w1'
  have HZ := Lib.hid (zb18 a0 a1' len0 cap0 len1 cap1 w hm hm')
  by_cases hb : 65536 < len0
  · have hb' : (65536 : Int) < len0 := by omega
    clear hnil hin hbs hnil' hin' hbs'
    go_enter Try.func5, Try.ntmps5
    go_wp2_with (go_at_call 18; refine HZ.out.mono ?_; rintro e w1 ⟨b, rfl, rfl⟩)
    all_goals (go_ret; exact ⟨rfl, Below.refl _ _⟩)
  by_cases hb2 : 65536 < len1
  · have hb' : (65536 : Int) < len1 := by omega
    clear hnil hin hbs hnil' hin' hbs'
    go_enter Try.func5, Try.ntmps5
    go_wp2_with (go_at_call 18; refine HZ.out.mono ?_; rintro e w1 ⟨b, rfl, rfl⟩)
    all_goals (go_ret; exact ⟨rfl, Below.refl _ _⟩)
  have hl : len0 ≤ 65536 := by omega
  have hl' : len1 ≤ 65536 := by omega
  have HC := Lib.hid (clone a0 cap0 len0 bs w hin hnil hl)
  have HIN' := Lib.hid hin'; have HNIL' := Lib.hid hnil'
  have HBS := Lib.hid hbs; have HBS' := Lib.hid hbs'
  have hdc1 : decide ((65536 : Int) < len0) = false := by simp; omega
  have hdc2 : decide ((65536 : Int) < len1) = false := by simp; omega
  clear hnil hin hbs hb hb2 hnil' hin' hbs' hm hm'
  go_enter Try.func5, Try.ntmps5
  go_wp2_with (first | (go_at_call 18; refine HZ.out.mono ?_; rintro e w1 ⟨b, rfl, rfl⟩) | (go_at_call 7; first | ((with_reducible refine HC.out.mono ?_); rintro e wA ⟨ac, cc, rfl, hin1, _, hbA⟩; have HINA := Lib.hid hin1; clear hin1) | ((with_reducible refine (clone a1' cap1 len1 bs' _ (In.kept HIN'.out hbA) HNIL'.out hl').mono ?_); rintro e w1 ⟨ac2, cc2, rfl, hin2, _, hb1⟩; have HIN := Lib.hid (In.kept HINA.out hb1); have HIN2 := Lib.hid hin2; clear hin2)) | (go_at_call 8; refine (znew _).mono ?_; rintro e w2 ⟨rfl, hs2, hb2, hz2⟩; have HS2 := Lib.hid hs2; have HZ2 := Lib.hid hz2; clear hs2 hz2) | (go_at_call 9; refine (newmodel _).mono ?_; rintro e w3 ⟨rfl, rfl⟩; rw [HZ2.out]; have HST := Lib.hid (state_new HS2.out HZ2.out); have HB3 : Hid (Below w1.heap.size w1 (w2.alloc (.cells #[.slice none 0 0, .slice none 0 0, .int .i64 (-1), .slice none 0 0, .slice none 0 0, .slice none 0 0] 40))) := hb2.alloc (by have := hb2.size; omega) _; have hz3 : w1.heap.size ≤ (w2.alloc (.cells #[.slice none 0 0, .slice none 0 0, .int .i64 (-1), .slice none 0 0, .slice none 0 0, .slice none 0 0] 40)).heap.size := (by have := hb2.size; simp; omega); generalize w2.alloc (.cells #[.slice none 0 0, .slice none 0 0, .int .i64 (-1), .slice none 0 0, .slice none 0 0, .slice none 0 0] 40) = w4 at HST HB3 hz3 ⊢) | (go_at_call 10; refine (apply_any _ _ _ _ _ _ _ bs w1 HST.out hl HBS.out HIN.out (Nat.le_refl _) HB3.out hz3).mono ?_; rintro e w5 ⟨rfl, hst5, hb5⟩; obtain ⟨d, md, idx, lim, head, sv, col, dv, a1, a2, a3, a4, a5, k1, k2, k3, k4, k5, l1, l2, l3, l4, l5, hinv, htie, hd, n1, n2, n3, n4, n5, hfull⟩ := hst5; have HF5 := Lib.hid hfull; have HI := Lib.hid hinv; have HTI := Lib.hid htie; clear hfull hinv htie; have hz5 := Nat.le_trans hz3 hb5.size) | (go_at_call 16; refine (zsave _ _ _ _ _ _ _ HF5.out.stk).mono ?_; rintro e w6 ⟨rfl, hS6, hu6⟩; obtain ⟨col6, hF6⟩ := HF5.out.stack hS6 (hu6.mono (fun _ _ h => .inl h)) (.inl rfl); have HF6 := Lib.hid hF6; have HB6 : Hid (Below w1.heap.size w5 w6) := hu6.below hz5 (fun k hk => by rw [hk]; exact HF5.out.hb); clear hS6 hu6 hF6))
  all_goals first | (go_ret; exact ⟨rfl, Below.refl _ _⟩) | skip
  have hz6 : w1.heap.size ≤ w6.heap.size := Nat.le_trans hz5 HB6.out.size
  have HK0 : Hid (Kept d d idx (max idx lim) len0) := ⟨⟨by have := HI.out.l1; omega, by have h1 := HI.out.l2; have h2 := HI.out.empty; omega, by obtain ⟨l, h, _⟩ := HI.out.ch; exact ⟨l, h⟩⟩, fun _ _ => rfl, Nat.le_refl _, hd⟩
  have HR0 : Hid (Rel w1.heap.size w1.heap.size (w1.heap.size + 1) w6 d (max idx lim) head a1 a2 a3 a4 a5 k1 k2 k3 k4 k5 l1 l2 l3 l4 l5 len0) := ⟨d, idx, col6, dv, HK0.out, HF6.out⟩
  have HBW6 : Hid (Below w1.heap.size w1 w6) := (HB3.out.trans hb5).trans HB6.out
  generalize hM : max idx lim = M at HR0
  have HM := Lib.hid hM
  clear hM
  rcases HIN2.out with ⟨rfl, h0⟩ | ⟨x, rfl, hx, hc⟩
  · subst h0
    go_loop [10] (fun i => i = .int .i64 0) (fun _ => 0)
    case atStart => exact rfl
    case round =>
      obtain rfl := hrel
      go_wp2_with (first | (go_at_call 17; refine (zrestore _ _ _ _ _ _ _ _ _ HF6.out.stk).mono ?_; rintro e w8 ⟨rfl, hS8, hu8⟩; obtain ⟨col8, hF8⟩ := HF6.out.stack hS8 (hu8.mono (fun _ _ h => .inl h)) (.inl rfl); have HF8 := Lib.hid hF8; have HB8 : Hid (Below w1.heap.size w6 w8) := hu8.below hz6 (fun k hk => by rw [hk]; exact HF6.out.hb); clear hS8 hu8 hF8) | (go_at_call 11; refine (drain.drain _ _ _ len0 _ ⟨d, md, _, _, _, sv, _, _, _, _, _, _, _, _, _, _, _, _, l1, l2, l3, l4, l5, HI.out, HTI.out, by omega, by omega, by omega, by omega, by omega, by omega, HF8.out⟩ (Nat.le_trans hz6 HB8.out.size) (by omega)).mono ?_; rintro e w10 ⟨rfl, hb9⟩))
      all_goals go_ret
      have b1 := hbA.trans (hb1.mono hbA.size)
      have b9 := b1.trans ((HBW6.out.trans HB8.out).mono b1.size)
      exact ⟨rfl, b9.trans (hb9.mono b1.size)⟩
  · have HC2 := Lib.hid hc
    clear hc
    go_loopw [10] (fun i wr => ∃ k : Nat, k ≤ len1 ∧ i = .int .i64 k ∧ Hid (Rel w1.heap.size w1.heap.size (w1.heap.size + 1) wr d M head a1 a2 a3 a4 a5 k1 k2 k3 k4 k5 l1 l2 l3 l4 l5 (len0 + k)) ∧ Hid (Below w1.heap.size w1 wr)) (fun i _ => len1 - (intOf i).toNat)
    case atStart => exact ⟨0, Nat.zero_le _, rfl, HR0, HBW6⟩
    case round =>
      obtain ⟨k, hk, rfl, HR, HBR⟩ := hrel
      clear HR0 HBW6
      obtain ⟨d', idx', col', dv', hkept, hfull'⟩ := HR.out
      have HK := Lib.hid hkept; have HF := Lib.hid hfull'
      have hkl := hkept.2.2.2
      have hwf := Lib.hid hkept.1
      clear hkept hfull' HR
      have hbw : w1.heap.size ≤ wr.heap.size := HBR.out.size
      by_cases hlt : k < len1
      · have hby := HBS'.out k
        have c0 : wr.cell? (x.add k) = some (fB bs' k) := later hx HC2.out HBR.out k hlt
        unfold fB at c0
        generalize bs' k = bk at c0 hby
        by_cases hr : bk % 2 = 0
        · have hq : (bk % 2 == 0) = true := by simp [hr]
          clear hr
          go_wp2_with (go_at_call 19; refine (zpush _ _ _ _ _ _ _ _ HF.out.stk hwf.out hbw (by omega)).mono ?_; rintro e wb ⟨rfl, dv2, hS2, hu2, hl2⟩; obtain ⟨col2, hF2⟩ := HF.out.stack hS2 hu2 hl2; have HR2 : Hid (Rel w1.heap.size w1.heap.size (w1.heap.size + 1) wb d M head a1 a2 a3 a4 a5 k1 k2 k3 k4 k5 l1 l2 l3 l4 l5 (len0 + (k + 1))) := ⟨_, _, col2, dv2, HK.out.push _, hF2⟩; have HBb := Lib.hid (below_stk HBR.out HF.out.stk HF.out.hb hu2 hbw); clear hS2 hu2 hl2 hF2)
          go_roundw
          case rel => exact ⟨k + 1, by omega, by go_num, HR2, HBb⟩
          case measure => simp [intOf]; omega
        · have hq : (bk % 2 == 0) = false := by simp; omega
          clear hr
          by_cases hi : idx' < 0
          · have hd : decide (idx' < 0) = true := by simp [hi]
            have HR2 : Hid (Rel w1.heap.size w1.heap.size (w1.heap.size + 1) wr d M head a1 a2 a3 a4 a5 k1 k2 k3 k4 k5 l1 l2 l3 l4 l5 (len0 + (k + 1))) := ⟨_, _, col', dv', ⟨HK.out.1, HK.out.2.1, HK.out.2.2.1, by omega⟩, HF.out⟩
            go_wp2_with (go_at_call 20; refine (zempty _ _ _ _ _ _ _ HF.out.stk).mono ?_; rintro e w9 ⟨rfl, rfl⟩)
            go_roundw
            case rel => exact ⟨k + 1, by omega, by go_num, HR2, HBR⟩
            case measure => simp [intOf]; omega
          · have hd : decide (idx' < 0) = false := by simp; omega
            obtain ⟨kk, v, nx, e1, e2, e3, e4, hwf2⟩ := hwf.out.pop (by omega)
            have HE1 := Lib.hid e1; have HE2 := Lib.hid e2; have HW2 := Lib.hid hwf2
            clear e1 e2 hwf2
            go_wp2_with (first | (go_at_call 20; refine (zempty _ _ _ _ _ _ _ HF.out.stk).mono ?_; rintro e w9 ⟨rfl, rfl⟩) | (go_at_call 21; refine (zpop _ _ _ _ _ _ _ _ _ _ HF.out.stk HE1.out HE2.out).mono ?_; rintro e wb ⟨rfl, hS2, hu2⟩; obtain ⟨col2, hF2⟩ := HF.out.stack hS2 (hu2.mono (fun _ _ h => .inl h)) (.inl rfl); have HR2 : Hid (Rel w1.heap.size w1.heap.size (w1.heap.size + 1) wb d M head a1 a2 a3 a4 a5 k1 k2 k3 k4 k5 l1 l2 l3 l4 l5 (len0 + (k + 1))) := ⟨_, _, col2, dv', ⟨HW2.out, HK.out.2.1, HK.out.2.2.1, by omega⟩, hF2⟩; have HBb := Lib.hid (below_stk HBR.out HF.out.stk HF.out.hb (hu2.mono (fun _ _ h => .inl h)) hbw); clear hS2 hu2 hF2))
            go_roundw
            case rel => exact ⟨k + 1, by omega, by go_num, HR2, HBb⟩
            case measure => simp [intOf]; omega
      · go_wp2_with (first | (go_at_call 17; refine (zrestore _ _ _ _ _ _ _ _ _ HF.out.stk).mono ?_; rintro e w8 ⟨rfl, hS8, hu8⟩; obtain ⟨col8, hF8⟩ := HF.out.stack hS8 (hu8.mono (fun _ _ h => .inl h)) (.inl rfl); have HF8 := Lib.hid hF8; have HB8 : Hid (Below w1.heap.size wr w8) := hu8.below hbw (fun k hk => by rw [hk]; exact HF.out.hb); clear hS8 hu8 hF8) | (go_at_call 11; refine (drain.drain _ _ _ (len0 + len1) _ ⟨d', md, _, _, _, sv, _, _, _, _, _, _, _, _, _, _, _, _, l1, l2, l3, l4, l5, HI.out.back (fun j hj => HK.out.2.1 j (by rw [← HM.out]; exact hj)) HK.out.2.2.1, HTI.out, by omega, by omega, by omega, by omega, by omega, by omega, HF8.out⟩ (Nat.le_trans hbw HB8.out.size) (by omega)).mono ?_; rintro e w10 ⟨rfl, hb9⟩))
        all_goals go_ret
        have b1 := hbA.trans (hb1.mono hbA.size)
        have b9 := b1.trans ((HBR.out.trans HB8.out).mono b1.size)
        exact ⟨rfl, b9.trans (hb9.mono b1.size)⟩
end Go.Proofs.Ytkahmfdebkfcjaa.fnScopeStackForkRestoresContents
