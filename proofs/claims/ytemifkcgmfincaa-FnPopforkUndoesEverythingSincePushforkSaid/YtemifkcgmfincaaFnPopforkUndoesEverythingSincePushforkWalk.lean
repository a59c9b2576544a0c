/- The walk of the law FnPopforkUndoesEverythingSincePushfork: it returns true at every input. -/
import Derived.Test.YtemifkcgmfincaaUndo
import Derived.StillTailTactics
set_option linter.unusedVariables false
namespace Go.Proofs.Ytemifkcgmfincaa.fnPopforkUndoesEverythingSincePushfork
open Go.ChangeShapes Go.WideShapes Go.ChangeAt Go.RowKit
open upd env plain ops forks popf fill init steps undo

set_option maxRecDepth 100000 in
set_option maxHeartbeats 8000000 in
theorem walk (a0 : Option Addr) (len0 cap0 : Nat) (z0 : List Int) (a1 : Option Addr) (len1 cap1 : Nat) (z1 : List Int) (a2 : Option Addr) (len2 cap2 : Nat) (z2 : List Int) (a3 : Int) (a4 : Int) (a5 : Int) (w : World) (w0 : inp.IsRow .i64 w a0 len0 cap0 z0) (w1 : inp.IsRow .i64 w a1 len1 cap1 z1) (w2 : inp.IsRow .i64 w a2 len2 cap2 z2) (w3 : (Lit.int .i64 a3).wf = true) (w4 : (Lit.int .i64 a4).wf = true) (w5 : (Lit.int .i64 a5).wf = true) :
    Calls Try.prog 3 #[.slice a0 len0 cap0, .slice a1 len1 cap1, .slice a2 len2 cap2, .int .i64 a3, .int .i64 a4, .int .i64 a5] w fun e w' => e = .returned (.bool true) ∧ Below w.heap.size w w' := by
  obtain ⟨bv, hbv, hin0, hnil0, hm0⟩ := open_ints a0 len0 cap0 z0 w w0
  obtain ⟨bs, hbs, hin1, hnil1, hm1⟩ := open_ints a1 len1 cap1 z1 w w1
  obtain ⟨bj, hbj, hin2, hnil2, hm2⟩ := open_ints a2 len2 cap2 z2 w w2
  clear w0 w1 w2 w3 w4 w5
  have HZ := Lib.hid (zb9 a0 a1 a2 len0 cap0 len1 cap1 len2 cap2 a3 a4 a5 w hm0 hm1 hm2)
  have HI0 := Lib.hid hin0; have HI1 := Lib.hid hin1; have HI2 := Lib.hid hin2
  have HN0 := Lib.hid hnil0; have HN1 := Lib.hid hnil1; have HN2 := Lib.hid hnil2
  clear hin0 hin1 hin2 hnil0 hnil1 hnil2 hbv hbs hbj
  by_cases hb0 : 4096 < len0
  · have hb' : (4096 : Int) < len0 := by omega
    go_enter Try.func3, Try.ntmps3
    go_wp2_with (go_at_call 9; refine HZ.out.mono ?_; rintro e w1 ⟨b, rfl, rfl⟩)
    all_goals (go_ret; exact ⟨rfl, Below.refl _ _⟩)
  have hl0 : len0 ≤ 4096 := by omega
  by_cases hb1 : 4096 < len1
  · have hb' : (4096 : Int) < len1 := by omega
    go_enter Try.func3, Try.ntmps3
    go_wp2_with (go_at_call 9; refine HZ.out.mono ?_; rintro e w1 ⟨b, rfl, rfl⟩)
    all_goals (go_ret; exact ⟨rfl, Below.refl _ _⟩)
  have hl1 : len1 ≤ 4096 := by omega
  by_cases hb2 : 4096 < len2
  · have hb' : (4096 : Int) < len2 := by omega
    go_enter Try.func3, Try.ntmps3
    go_wp2_with (go_at_call 9; refine HZ.out.mono ?_; rintro e w1 ⟨b, rfl, rfl⟩)
    all_goals (go_ret; exact ⟨rfl, Below.refl _ _⟩)
  have hl2 : len2 ≤ 4096 := by omega
  clear hb0 hb1 hb2 hm0 hm1 hm2
  obtain ⟨q, hq, hq1⟩ : ∃ q : Nat, (len1 : Int) / 3 = q ∧ 3 * q ≤ len1 := ⟨len1 / 3, by omega, by omega⟩
  have hq4 : q ≤ 4096 := by omega
  have hs : (len0 : Int) + len1 + len2 ≤ 12288 := by omega
  have HC0 := Lib.hid (cloneI a0 cap0 len0 bv w HI0.out HN0.out hl0)
  go_enter Try.func3, Try.ntmps3
  go_wp2_with (first | (go_at_call 9; refine HZ.out.mono ?_; rintro e w1 ⟨b, rfl, rfl⟩) | (have hguard := HIN1; clear hguard; go_at_call 10; refine (cloneI a2 cap2 len2 bj _ (HI2.out.kept HB1.out) HN2.out hl2).mono ?_; rintro e w3 ⟨ac2, cc2, rfl, hin3, _, hb3⟩; have HIN2 := Lib.hid hin3; have HJ0 := Lib.hid (HIN0.out.kept hb3); have HJ1 := Lib.hid (HIN1.out.kept hb3); have HB2 := Lib.hid (HB1.out.trans (hb3.mono HB1.out.size)); clear hin3 hb3 HIN0 HIN1 HB1) | (have hguard := HIN0; clear hguard; go_at_call 10; refine (cloneI a1 cap1 len1 bs _ (HI1.out.kept HB0.out) HN1.out hl1).mono ?_; rintro e w2 ⟨ac1, cc1, rfl, hin2, _, hb2⟩; have HIN1 := Lib.hid hin2; have HB1 := Lib.hid (HB0.out.trans (hb2.mono HB0.out.size)); have HINx := Lib.hid (HIN0.out.kept hb2); clear HIN0 hin2 hb2 HB0; have HIN0 := HINx; clear HINx) | (go_at_call 10; refine HC0.out.mono ?_; rintro e w1 ⟨ac0, cc0, rfl, hin1, _, hb1⟩; have HIN0 := Lib.hid hin1; have HB0 := Lib.hid hb1; clear hin1 hb1 HC0) | (go_at_call 11; refine (s_new _).mono ?_; rintro e w4 ⟨eb, rfl, h4⟩; have HA4 := Lib.hid h4; clear h4))
  · go_ret
    exact ⟨rfl, Below.refl _ _⟩
  clear HI0 HI1 HI2 HN0 HN1 HN2 HZ
  go_loopw [66] (fun i wr => ∃ k : Nat, k ≤ len0 ∧ i = .int .i64 k ∧ Hid (At w3.heap.size eb w3 wr (undo.st bv bs k 0 0 0))) (fun i _ => len0 - (intOf i).toNat)
  case atStart => exact ⟨0, Nat.zero_le _, rfl, HA4.out⟩
  case round =>
    obtain ⟨k, hk, rfl, HA⟩ := hrel
    clear HA4
    by_cases hlt : k < len0
    · obtain ⟨xa, rfl, hxb, hx0⟩ := cp_cell HJ0.out (k := k) hlt
      have c0 : wr.cell? (xa.add k) = some (.int .i64 (bv k)) := HA.out.row hxb hx0
      clear hx0
      go_wp2_with (go_at_call 12; refine (undo.p_push HA.out (by omega)).mono ?_; rintro e w5 ⟨rfl, h5⟩; have H5 := Lib.hid h5; clear h5)
      go_roundw
      case rel => exact ⟨k + 1, by omega, by go_num, H5.out⟩
      case measure => simp [intOf] <;> omega
    obtain rfl : k = len0 := by omega
    clear hlt
    go_wp2_with fail
    go_loopw [17] (fun i wr => ∃ j : Nat, j ≤ q ∧ i = .int .i64 j ∧ Hid (At w3.heap.size eb w3 wr (undo.st bv bs k j 0 0))) (fun i _ => q - (intOf i).toNat)
    case atStart => exact ⟨0, Nat.zero_le _, rfl, HA.out⟩
    case round =>
      obtain ⟨j, hj, rfl, HB⟩ := hrel
      clear HA
      by_cases hlt : j < q
      · obtain ⟨p, hp⟩ : ∃ p : Nat, p = 3 * j := ⟨_, rfl⟩
        obtain ⟨xa, rfl, hxb, hx0⟩ := cp_cell HJ1.out (k := p) (by omega)
        obtain ⟨xa', e, _, hx1⟩ := cp_cell HJ1.out (k := p + 1) (by omega)
        cases e
        obtain ⟨xa', e, _, hx2⟩ := cp_cell HJ1.out (k := p + 2) (by omega)
        cases e
        have c0 : wr.cell? (xa.add p) = some (.int .i64 (bs p)) := HB.out.row hxb hx0
        have c1 : wr.cell? (xa.add (p + 1)) = some (.int .i64 (bs (p + 1))) := HB.out.row hxb hx1
        have c2 : wr.cell? (xa.add (p + 2)) = some (.int .i64 (bs (p + 2))) := HB.out.row hxb hx2
        rw [add_succ] at c1 c2
        have i0 : (0 : Int) ≤ p := by omega
        have i1 : (p : Int) < len1 := by omega
        have i2 : (p : Int) + 1 < len1 := by omega
        have i3 : (p : Int) + 2 < len1 := by omega
        have i4 : (0 : Int) ≤ (p : Int) + 1 := by omega
        have i5 : (0 : Int) ≤ (p : Int) + 2 := by omega
        have hpl : p ≤ 20000 := by omega
        have m1 : IntKind.i64.wrap (3 * (j : Int)) = p := (IntWalk.i64_in _ (by omega)).trans (by omega)
        have m2 : IntKind.i64.wrap ((p : Int) + 1) = (p : Int) + 1 := IntWalk.i64_in _ (by omega)
        have m3 : IntKind.i64.wrap ((p : Int) + 2) = (p : Int) + 2 := IntWalk.i64_in _ (by omega)
        have m4 : IntKind.i64.wrap ((j : Int) - 1) = (j : Int) - 1 := IntWalk.i64_in _ (by omega)
        have t1 : ((p : Int) + 1).toNat = p + 1 := by omega
        have t2 : ((p : Int) + 2).toNat = p + 2 := by omega
        have HP := Lib.hid hp
        clear hx0 hx1 hx2 hp
        go_wp2_with fail
        go_still_tail 20, (by kernel_rfl)
        go_wp2_with (go_at_call 13; refine (undo.p_scope (HB.out.still (by repeat (first | exact Upd.refl _ _ | apply Upd.drew | apply Upd.drewN))) HP.out (by omega)).mono ?_; rintro e w6 ⟨rfl, h6⟩; have H6 := Lib.hid h6; clear h6)
        go_roundw
        case rel => exact ⟨j + 1, by omega, by go_num, H6.out⟩
        case measure => simp [intOf] <;> omega
      obtain rfl : j = q := by omega
      clear hlt
      go_wp2_with (first | (go_at_call 14; refine (undo.p_off HB.out _).mono ?_; rintro e w5 ⟨rfl, h5⟩; have H5 := Lib.hid h5; clear h5) | (go_at_call 15; refine (undo.p_exp H5.out _).mono ?_; rintro e w6 ⟨rfl, h6⟩; have H6 := Lib.hid h6; clear h6) | (go_at_call 16; refine (undo.j_fork H6.out _ hl0 hq4).mono ?_; rintro e w7 ⟨rfl, h7⟩; have H7 := Lib.hid h7; clear h7))
      go_loopw [117, 18, 19] (fun i d s wr => ∃ t dp sp : Nat, t ≤ len2 ∧ dp ≤ 4096 + t ∧ sp ≤ 4096 + t ∧ i = .int .i64 t ∧ d = .int .i64 dp ∧ s = .int .i64 sp ∧ Hid (undo.JAt w3.heap.size eb w3 wr bv bs k j a5 a3 a4 dp sp t)) (fun i _ _ _ => len2 - (intOf i).toNat)
      case atStart => exact ⟨0, k, j, Nat.zero_le _, by omega, by omega, rfl, rfl, rfl, H7.out⟩
      case round =>
        obtain ⟨t, dp, sp, ht, hd, hsp, rfl, rfl, rfl, HJ⟩ := hrel
        clear HB H5 H6 H7
        by_cases hlt : t < len2
        · obtain ⟨xa, rfl, hxb, hx0⟩ := cp_cell HIN2.out (k := t) hlt
          have c0 : wr.cell? (xa.add t) = some (.int .i64 (bj t)) := by
            obtain ⟨s, hs1, _⟩ := HJ.out
            exact hs1.row hxb hx0
          clear hx0
          go_wp2_with (first | (go_at_call 12; refine (undo.j_push HJ.out _ (by omega)).mono ?_; rintro e w5 ⟨rfl, h5⟩; clear HJ; have HJ := Lib.hid h5; clear h5) | (go_at_call 17; refine (undo.j_pop HJ.out (by omega)).mono ?_; rintro e w5 ⟨v, rfl, h5⟩; clear HJ; have HJ := Lib.hid h5; clear h5) | (go_at_call 13; refine (undo.j_scope HJ.out _ _ _ _ _ (by omega)).mono ?_; rintro e w5 ⟨rfl, h5⟩; clear HJ; have HJ := Lib.hid h5; clear h5) | (go_at_call 18; refine (undo.j_popscope HJ.out (by omega)).mono ?_; rintro e w5 ⟨v, v', rfl, h5⟩; clear HJ; have HJ := Lib.hid h5; clear h5) | (go_at_call 14; refine (undo.j_off HJ.out _).mono ?_; rintro e w6 ⟨rfl, h6⟩; clear HJ; have HJ := Lib.hid h6; clear h6) | (go_at_call 15; refine (undo.j_exp HJ.out _).mono ?_; rintro e w7 ⟨rfl, h7⟩; clear HJ; have HJ := Lib.hid h7; clear h7))
          all_goals
            go_roundw
            case rel => first
              | exact ⟨t + 1, dp + 1, sp, by omega, by omega, by omega, by go_num, by go_num, rfl, HJ.out.up (by omega)⟩
              | exact ⟨t + 1, dp, sp + 1, by omega, by omega, by omega, by go_num, rfl, by go_num, HJ.out.up (by omega)⟩
              | exact ⟨t + 1, dp - 1, sp, by omega, by omega, by omega, by go_num, by (congr 1; omega), rfl, HJ.out.up (by omega)⟩
              | exact ⟨t + 1, dp, sp - 1, by omega, by omega, by omega, by go_num, rfl, by (congr 1; omega), HJ.out.up (by omega)⟩
              | exact ⟨t + 1, dp, sp, by omega, by omega, by omega, by go_num, rfl, rfl, HJ.out.up (by omega)⟩
            case measure => simp [intOf] <;> omega
        obtain rfl : t = len2 := by omega
        clear hlt
        go_wp2_with (first | (go_at_call 19; refine (undo.r_popfork HJ.out).mono ?_; rintro e w5 ⟨rfl, h5⟩; have HR := Lib.hid h5; clear h5 HJ) | (go_at_call 20; refine (undo.r_forks HR.out).mono ?_; rintro e w6 ⟨rfl, rfl⟩) | (go_at_call 21; refine (undo.r_off HR.out).mono ?_; rintro e w6 ⟨rfl, rfl⟩) | (go_at_call 22; refine (undo.r_exp HR.out).mono ?_; rintro e w6 ⟨rfl, rfl⟩))
        go_loopw [22] (fun i wr => ∃ m : Nat, m ≤ k ∧ i = .int .i64 ((m : Int) - 1) ∧ Hid (undo.RAt w3.heap.size eb w3 wr bv bs k j a3 a4 m j)) (fun i _ => (intOf i + 1).toNat)
        case atStart => exact ⟨k, Nat.le_refl _, rfl, HR.out⟩
        case round =>
          obtain ⟨m0, hm, rfl, HQ⟩ := hrel
          clear HR
          by_cases hlt : 0 < m0
          · obtain ⟨m, rfl⟩ : ∃ m, m0 = m + 1 := ⟨m0 - 1, by omega⟩
            obtain ⟨xa, rfl, hxb, hx0⟩ := cp_cell HJ0.out (k := m) (by omega)
            have HX := Lib.hid hx0
            have e1 : (((m + 1 : Nat) : Int) - 1) = m := by omega
            rw [e1]
            have i0 : (0 : Int) ≤ m := by omega
            have i1 : (m : Int) < k := by omega
            have c0 : wr.cell? (xa.add m) = some (.int .i64 (bv m)) := HQ.out.row hxb hx0
            clear hx0 e1 hlt
            go_wp2_with fail
            go_region_law (first | (go_simp; go_at_call 23; refine (undo.r_empty (HQ.out.still (by repeat (first | exact Upd.refl _ _ | apply Upd.drew | apply Upd.drewN))) false (decide_eq_false (by omega))).mono ?_; rintro e w6 ⟨rfl, rfl⟩) | (go_simp; go_at_call 17; refine (undo.r_pop (HQ.out.still (by repeat (first | exact Upd.refl _ _ | apply Upd.drew | apply Upd.drewN))) (by omega)).mono ?_; rintro e w6 ⟨rfl, h6⟩; have H6 := Lib.hid h6; have c1 := h6.row hxb HX.out; simp only [fI] at c1; clear h6))
            all_goals go_wp2_with fail
            all_goals
              go_roundw
              case rel => exact ⟨m, by omega, rfl, H6.out.still (by repeat (first | exact Upd.refl _ _ | apply Upd.drew | apply Upd.drewN))⟩
              case measure => simp [intOf] <;> omega
          obtain rfl : m0 = 0 := by omega
          have e1 : (((0 : Nat) : Int) - 1) = -1 := rfl
          rw [e1]
          clear hlt e1
          go_wp2_with (go_at_call 23; refine (undo.r_empty HQ.out true (decide_eq_true (by omega))).mono ?_; rintro e w6 ⟨rfl, rfl⟩)
          go_loopw [23, 24, 25] (fun i _ _ wr => ∃ m : Nat, m ≤ j ∧ i = .int .i64 ((m : Int) - 1) ∧ Hid (∃ o, undo.RAt w3.heap.size eb w3 wr bv bs k j o a4 0 m)) (fun i _ _ _ => (intOf i + 1).toNat)
          case atStart => exact ⟨j, Nat.le_refl _, rfl, _, HQ.out⟩
          case round =>
            obtain ⟨m0, hm, rfl, HS0⟩ := hrel
            clear HQ
            obtain ⟨o, hS⟩ := HS0.out
            have HS := Lib.hid hS
            clear hS HS0
            by_cases hlt : 0 < m0
            · obtain ⟨m, rfl⟩ : ∃ m, m0 = m + 1 := ⟨m0 - 1, by omega⟩
              obtain ⟨p, hp⟩ : ∃ p : Nat, p = 3 * m := ⟨_, rfl⟩
              obtain ⟨xa, rfl, hxb, hx0⟩ := cp_cell HJ1.out (k := p) (by omega)
              obtain ⟨xa', e, _, hx1⟩ := cp_cell HJ1.out (k := p + 1) (by omega)
              cases e
              obtain ⟨xa', e, _, hx2⟩ := cp_cell HJ1.out (k := p + 2) (by omega)
              cases e
              have HX0 := Lib.hid hx0
              have HX1 := Lib.hid hx1
              have HX2 := Lib.hid hx2
              have HP := Lib.hid hp
              have e1 : (((m + 1 : Nat) : Int) - 1) = m := by omega
              rw [e1]
              have i0 : (0 : Int) ≤ m := by omega
              have q1 : (3 : Int) * m = p := by omega
              have i1 : (p : Int) < len1 := by omega
              have i2 : (p : Int) + 1 < len1 := by omega
              have i3 : (p : Int) + 2 < len1 := by omega
              have i4 : (0 : Int) ≤ (p : Int) + 1 := by omega
              have i5 : (0 : Int) ≤ (p : Int) + 2 := by omega
              have hpl : p ≤ 20000 := by omega
              have m1 : IntKind.i64.wrap (3 * (m : Int)) = p := (IntWalk.i64_in _ (by omega)).trans (by omega)
              have m0 : IntKind.i64.wrap (p : Int) = p := IntWalk.i64_in _ (by omega)
              have m2 : IntKind.i64.wrap ((p : Int) + 1) = (p : Int) + 1 := IntWalk.i64_in _ (by omega)
              have m3 : IntKind.i64.wrap ((p : Int) + 2) = (p : Int) + 2 := IntWalk.i64_in _ (by omega)
              have t1 : ((p : Int) + 1).toNat = p + 1 := by omega
              have t2 : ((p : Int) + 2).toNat = p + 2 := by omega
              clear hx0 hx1 hx2 hp e1 hlt
              go_wp2_with (first | (go_at_call 24; refine (undo.r_cempty HS.out false (decide_eq_false (by omega))).mono ?_; rintro e w6 ⟨rfl, rfl⟩) | (go_at_call 18; refine (undo.r_popscope HS.out (by omega) HP.out).mono ?_; rintro e w8 ⟨rfl, h8⟩; have H8 := Lib.hid h8; have c0 := h8.row hxb HX0.out; have c1 := h8.row hxb HX1.out; have c2 := h8.row hxb HX2.out; rw [add_succ] at c1 c2; simp only [fI] at c0 c1 c2; clear h8))
              go_quiet ((go_at_call 21; exact undo.r_qoff H8.out _))
              go_wp2_with fail
              go_roundw
              case rel => exact ⟨m, by omega, rfl, _, H8.out.still (by repeat (first | exact Upd.refl _ _ | apply Upd.drew | apply Upd.drewN))⟩
              case measure => simp [intOf] <;> omega
            · obtain rfl : m0 = 0 := by omega
              have e1 : (((0 : Nat) : Int) - 1) = -1 := rfl
              rw [e1]
              go_wp2_with (go_at_call 24; refine (undo.r_cempty HS.out true (decide_eq_true (by omega))).mono ?_; rintro e w6 ⟨rfl, rfl⟩)
              go_ret
              exact ⟨rfl, HB2.out.trans (HS.out.below.mono HB2.out.size)⟩
end Go.Proofs.Ytemifkcgmfincaa.fnPopforkUndoesEverythingSincePushfork
