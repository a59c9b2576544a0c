/- The walk of the law FnPopscopeFreesNoScopeBelowAFork: it returns true at every input. -/
import Derived.Test.YtemifkcgmfincaaSteps
import Derived.StillTailTactics
set_option linter.unusedVariables false
namespace Go.Proofs.Ytemifkcgmfincaa.fnPopscopeFreesNoScopeBelowAFork
open Go.ChangeShapes Go.WideShapes Go.ChangeAt Go.RowKit
open upd env plain ops forks popf fill init steps

/-- scope i -/
def g (bs : Nat → Int) (i : Nat) : Sc := (0, bs (3 * i), bs (3 * i + 1), bs (3 * i + 2), (i : Int) - 1)
/-- k scopes; the index at j - 1 -/
def st (bs : Nat → Int) (k j : Nat) (cl : Int) (F : List Fk) (o : Int) : St := ⟨[], -1, -1, Lg (g bs) k, (j : Int) - 1, cl, F, o, 0⟩
def fk (q : Nat) (pc o : Int) : Fk := ⟨pc, -1, -1, (q : Int) - 1, -1, o, 0⟩
theorem p_scope {base eb : Nat} {W w : World} {bs : Nat → Int} {k p : Nat} (h : At base eb W w (st bs k k (-1) [] 0)) (hp : p = 3 * k) (hk : k ≤ 4096) :
    Calls Try.prog 13 #[.pointer (some ⟨eb, 0, none⟩), .int .i64 0, .int .i64 (bs p), .int .i64 (bs (p + 1)), .int .i64 (bs (p + 2)), .int .i64 ((k : Int) - 1)] w fun e w' => e = .returned (.tuple #[]) ∧ At base eb W w' (st bs (k + 1) (k + 1) (-1) [] 0) := by
  subst hp
  refine (s_scope h 0 (bs (3 * k)) (bs (3 * k + 1)) (bs (3 * k + 2)) ((k : Int) - 1) (Lg_wf _ _) (by simp [st, Lg_len]; omega)).mono fun e w' ⟨h1, h2⟩ => ⟨h1, h2.re ?_⟩
  have e1 := Lg_put (g bs) k
  have e2 := Lg_top k
  have e3 : ((k + 1 : Nat) : Int) - 1 = k := by omega
  simp only [st, e2, e3]
  rw [e2] at e1
  simp only [g] at e1 ⊢
  rw [e1]
theorem p_off {base eb : Nat} {W w : World} {bs : Nat → Int} {k : Nat} (h : At base eb W w (st bs k k (-1) [] 0)) (v : Int) :
    Calls Try.prog 14 #[.pointer (some ⟨eb, 0, none⟩), .int .i64 v] w fun e w' => e = .returned (.tuple #[]) ∧ At base eb W w' (st bs k k (-1) [] v) := s_off h v
theorem p_fork {base eb : Nat} {W w : World} {bs : Nat → Int} {k : Nat} {o : Int} (h : At base eb W w (st bs k k (-1) [] o)) (pc : Int) :
    Calls Try.prog 16 #[.pointer (some ⟨eb, 0, none⟩), .int .i64 pc] w fun e w' => e = .returned (.tuple #[]) ∧ At base eb W w' (st bs k k ((k : Int) - 1) [fk k pc o] o) := by
  refine (s_fork h pc (by simp [st])).mono fun e w' ⟨h1, h2⟩ => ⟨h1, h2.re ?_⟩
  have e : max ((k : Int) - 1) (-1) = (k : Int) - 1 := by omega
  simp [st, fk, e]
theorem p_pop {base eb : Nat} {W w : World} {bs : Nat → Int} {k j p : Nat} {cl o : Int} {F : List Fk} (h : At base eb W w (st bs k (j + 1) cl F o)) (hj : j < k) (hp : p = 3 * j) (o' : Int) (ho : (if cl < (j : Int) then bs p else o) = o') :
    Calls Try.prog 18 #[.pointer (some ⟨eb, 0, none⟩)] w fun e w' => e = .returned (.tuple #[.int .i64 (bs (p + 1)), .int .i64 (bs (p + 2))]) ∧ At base eb W w' (st bs k j cl F o') := by
  subst hp
  refine (s_popscope h (k := j) (x0 := 0) (x1 := bs (3 * j)) (x2 := bs (3 * j + 1)) (x3 := bs (3 * j + 2)) (x4 := (j : Int) - 1) (n := (j : Int) - 1) (by simp [st]) (Lg_at (g bs) k j hj)).mono fun e w' ⟨h1, h2⟩ => ⟨h1, h2.re ?_⟩
  have e3 : ((j + 1 : Nat) : Int) - 1 = j := by omega
  simp only [st, popOff, e3, ho]
theorem p_popfork {base eb : Nat} {W w : World} {bs : Nat → Int} {k j : Nat} {pc o o' cl : Int} (h : At base eb W w (st bs k j cl [fk k pc o] o')) :
    Calls Try.prog 19 #[.pointer (some ⟨eb, 0, none⟩)] w fun e w' => e = .returned (.int .i64 pc) ∧ At base eb W w' (st bs k k (-1) [] o) :=
  s_popfork h (r := []) (f := fk k pc o) rfl (by simp)

set_option maxRecDepth 100000 in
set_option maxHeartbeats 4000000 in
theorem walk (a0 : Option Addr) (len0 cap0 : Nat) (z0 : List Int) (a1 : Int) (a2 : Int) (w : World) (w0 : inp.IsRow .i64 w a0 len0 cap0 z0) (w1 : (Lit.int .i64 a1).wf = true) (w2 : (Lit.int .i64 a2).wf = true) :
    Calls Try.prog 7 #[.slice a0 len0 cap0, .int .i64 a1, .int .i64 a2] w fun e w' => e = .returned (.bool true) ∧ Below w.heap.size w w' := by
  obtain ⟨bs, hbs, hin, hnil, hm⟩ := open_ints a0 len0 cap0 z0 w w0
  clear w0 w1 w2
  have HZ := Lib.hid (zb34 a0 len0 cap0 a1 a2 w hm)
  by_cases hb : 4096 < len0
  · have hb' : (4096 : Int) < len0 := by omega
    clear hnil hin hbs
    go_enter Try.func7, Try.ntmps7
    go_wp2_with (go_at_call 34; refine HZ.out.mono ?_; rintro e w1 ⟨b, rfl, rfl⟩)
    all_goals (go_ret; exact ⟨rfl, Below.refl _ _⟩)
  · have hl : len0 ≤ 4096 := by omega
    have HC := Lib.hid (cloneI a0 cap0 len0 bs w hin hnil hl)
    clear hnil hin hbs hb
    obtain ⟨q, hq, hq1⟩ : ∃ q : Nat, (len0 : Int) / 3 = q ∧ 3 * q ≤ len0 := ⟨len0 / 3, by omega, by omega⟩
    by_cases hq0 : q = 0
    · subst hq0
      go_enter Try.func7, Try.ntmps7
      go_wp2_with (first | (go_at_call 34; refine HZ.out.mono ?_; rintro e w1 ⟨b, rfl, rfl⟩))
      all_goals (go_ret; exact ⟨rfl, Below.refl _ _⟩)
    · have hq2 : 0 < q := by omega
      have hq3 : ((q : Int) == 0) = false := by simp; omega
      have hq4 : q ≤ 4096 := by omega
      clear hq0
      go_enter Try.func7, Try.ntmps7
      go_wp2_with (first | (go_at_call 34; refine HZ.out.mono ?_; rintro e w1 ⟨b, rfl, rfl⟩) | (go_at_call 10; refine HC.out.mono ?_; rintro e w1 ⟨ac, cc, rfl, hin1, _, hb1⟩; have HIN := Lib.hid hin1; have HB1 := Lib.hid hb1; clear hin1 hb1) | (go_at_call 11; refine (s_new _).mono ?_; rintro e w2 ⟨eb, rfl, h2⟩; have HA2 := Lib.hid h2; clear h2))
      · go_ret
        exact ⟨rfl, Below.refl _ _⟩
      go_loopw [9] (fun i wr => ∃ k : Nat, k ≤ q ∧ i = .int .i64 k ∧ Hid (At w1.heap.size eb w1 wr (st bs k k (-1) [] 0))) (fun i _ => q - (intOf i).toNat)
      case atStart => exact ⟨0, Nat.zero_le _, rfl, HA2.out⟩
      case round =>
        obtain ⟨k, hk, rfl, HA⟩ := hrel
        clear HA2
        by_cases hlt : k < q
        · obtain ⟨p, hp⟩ : ∃ p : Nat, p = 3 * k := ⟨_, rfl⟩
          obtain ⟨xa, rfl, hxb, hx0⟩ := cp_cell HIN.out (k := p) (by omega)
          obtain ⟨xa', e, _, hx1⟩ := cp_cell HIN.out (k := p + 1) (by omega)
          cases e
          obtain ⟨xa', e, _, hx2⟩ := cp_cell HIN.out (k := p + 2) (by omega)
          cases e
          have c0 : wr.cell? (xa.add p) = some (.int .i64 (bs p)) := HA.out.row hxb hx0
          have c1 : wr.cell? (xa.add (p + 1)) = some (.int .i64 (bs (p + 1))) := HA.out.row hxb hx1
          have c2 : wr.cell? (xa.add (p + 2)) = some (.int .i64 (bs (p + 2))) := HA.out.row hxb hx2
          rw [add_succ] at c1 c2
          have i0 : (0 : Int) ≤ p := by omega
          have i1 : (p : Int) < len0 := by omega
          have i2 : (p : Int) + 1 < len0 := by omega
          have i3 : (p : Int) + 2 < len0 := by omega
          have i4 : (0 : Int) ≤ (p : Int) + 1 := by omega
          have i5 : (0 : Int) ≤ (p : Int) + 2 := by omega
          have hpl : p ≤ 20000 := by omega
          have m1 : IntKind.i64.wrap (3 * (k : Int)) = p := (IntWalk.i64_in _ (by omega)).trans (by omega)
          have m2 : IntKind.i64.wrap ((p : Int) + 1) = (p : Int) + 1 := IntWalk.i64_in _ (by omega)
          have m3 : IntKind.i64.wrap ((p : Int) + 2) = (p : Int) + 2 := IntWalk.i64_in _ (by omega)
          have m4 : IntKind.i64.wrap ((k : Int) - 1) = (k : Int) - 1 := IntWalk.i64_in _ (by omega)
          have t1 : ((p : Int) + 1).toNat = p + 1 := by omega
          have t2 : ((p : Int) + 2).toNat = p + 2 := by omega
          have HP := Lib.hid hp
          clear hx0 hx1 hx2 hp
          go_wp2_with fail
          go_still_tail 20, (by kernel_rfl)
          go_wp2_with (go_at_call 13; refine (p_scope (HA.out.still (by repeat (first | exact Upd.refl _ _ | apply Upd.drew | apply Upd.drewN))) HP.out (by omega)).mono ?_; rintro e w3 ⟨rfl, h3⟩; have H3 := Lib.hid h3; clear h3)
          go_roundw
          case rel => exact ⟨k + 1, by omega, by go_num, H3.out⟩
          case measure => simp [intOf] <;> omega
        · obtain rfl : k = q := by omega
          clear hlt
          go_wp2_with (first | (go_at_call 14; refine (p_off HA.out _).mono ?_; rintro e w3 ⟨rfl, h3⟩; have H3 := Lib.hid h3; clear h3) | (go_at_call 16; refine (p_fork H3.out _).mono ?_; rintro e w4 ⟨rfl, h4⟩; have H4 := Lib.hid h4; clear h4))
          go_loopw [10, 11, 12] (fun i _ _ wr => ∃ j : Nat, j ≤ k ∧ i = .int .i64 ((j : Int) - 1) ∧ Hid (At w1.heap.size eb w1 wr (st bs k j ((k : Int) - 1) [fk k a2 a1] a1))) (fun i _ _ _ => (intOf i + 1).toNat)
          case atStart => exact ⟨k, Nat.le_refl _, rfl, H4.out⟩
          case round =>
            obtain ⟨j, hj, rfl, HB⟩ := hrel
            clear HA H3 H4
            by_cases hlt : 0 < j
            · obtain ⟨m, rfl⟩ : ∃ m, j = m + 1 := ⟨j - 1, by omega⟩
              obtain ⟨p, hp⟩ : ∃ p : Nat, p = 3 * m := ⟨_, rfl⟩
              obtain ⟨xa, rfl, hxb, hx1⟩ := cp_cell HIN.out (k := p + 1) (by omega)
              obtain ⟨xa', e, _, hx2⟩ := cp_cell HIN.out (k := p + 2) (by omega)
              cases e
              have HX1 := Lib.hid hx1
              have HX2 := Lib.hid hx2
              have HP := Lib.hid hp
              have e1 : (((m + 1 : Nat) : Int) - 1) = m := by omega
              rw [e1]
              have i0 : (0 : Int) ≤ m := by omega
              have q1 : (3 : Int) * m = p := by omega
              have i2 : (p : Int) + 1 < len0 := by omega
              have i3 : (p : Int) + 2 < len0 := by omega
              have i4 : (0 : Int) ≤ (p : Int) + 1 := by omega
              have i5 : (0 : Int) ≤ (p : Int) + 2 := by omega
              have hpl : p ≤ 20000 := by omega
              have m1 : IntKind.i64.wrap (3 * (m : Int)) = p := (IntWalk.i64_in _ (by omega)).trans (by omega)
              have m2 : IntKind.i64.wrap ((p : Int) + 1) = (p : Int) + 1 := IntWalk.i64_in _ (by omega)
              have m3 : IntKind.i64.wrap ((p : Int) + 2) = (p : Int) + 2 := IntWalk.i64_in _ (by omega)
              have t1 : ((p : Int) + 1).toNat = p + 1 := by omega
              have t2 : ((p : Int) + 2).toNat = p + 2 := by omega
              have HO : Hid ((if ((k : Int) - 1 < (m : Int)) then bs p else a1) = a1) := if_neg (by omega)
              clear hx1 hx2 hp e1 hlt
              go_wp2_with (first | (go_at_call 18; refine (p_pop HB.out (by omega) HP.out _ HO.out).mono ?_; rintro e w5 ⟨rfl, h5⟩; have H5 := Lib.hid h5; have c1 := h5.row hxb HX1.out; have c2 := h5.row hxb HX2.out; rw [add_succ] at c1 c2; simp only [fI] at c1 c2; clear h5) | (go_at_call 21; refine (s_offset H5.out (o := a1) rfl).mono ?_; rintro e w6 ⟨rfl, rfl⟩))
              go_roundw
              case rel => exact ⟨m, by omega, rfl, H5.out⟩
              case measure => simp [intOf] <;> omega
            · obtain rfl : j = 0 := by omega
              have e1 : (((0 : Nat) : Int) - 1) = -1 := rfl
              rw [e1]
              go_wp2_with (first | (go_at_call 24; refine (s_cempty HB.out (b := true) rfl).mono ?_; rintro e w6 ⟨rfl, rfl⟩) | (go_at_call 19; refine (p_popfork HB.out).mono ?_; rintro e w7 ⟨rfl, h7⟩; have H7 := Lib.hid h7; clear h7) | (go_at_call 21; refine (s_offset H7.out (o := a1) rfl).mono ?_; rintro e w8 ⟨rfl, rfl⟩) | (go_at_call 35; refine (s_cindex H7.out (i := (k : Int) - 1) rfl).mono ?_; rintro e w9 ⟨rfl, rfl⟩))
              go_loopw [13, 14, 15] (fun i _ _ wr => ∃ j : Nat, j ≤ k ∧ i = .int .i64 ((j : Int) - 1) ∧ Hid (∃ o, At w1.heap.size eb w1 wr (st bs k j (-1) [] o))) (fun i _ _ _ => (intOf i + 1).toNat)
              case atStart => exact ⟨k, Nat.le_refl _, rfl, _, H7.out⟩
              case round =>
                obtain ⟨j, hj, rfl, HB0⟩ := hrel
                clear HB H7
                obtain ⟨o, hB⟩ := HB0.out
                have HB := Lib.hid hB
                clear hB HB0
                by_cases hlt : 0 < j
                · obtain ⟨m, rfl⟩ : ∃ m, j = m + 1 := ⟨j - 1, by omega⟩
                  obtain ⟨p, hp⟩ : ∃ p : Nat, p = 3 * m := ⟨_, rfl⟩
                  obtain ⟨xa, rfl, hxb, hx0⟩ := cp_cell HIN.out (k := p) (by omega)
                  obtain ⟨xa', e, _, hx1⟩ := cp_cell HIN.out (k := p + 1) (by omega)
                  cases e
                  obtain ⟨xa', e, _, hx2⟩ := cp_cell HIN.out (k := p + 2) (by omega)
                  cases e
                  have HX0 := Lib.hid hx0
                  have HX1 := Lib.hid hx1
                  have HX2 := Lib.hid hx2
                  have HP := Lib.hid hp
                  have e1 : (((m + 1 : Nat) : Int) - 1) = m := by omega
                  rw [e1]
                  have i0 : (0 : Int) ≤ m := by omega
                  have q1 : (3 : Int) * m = p := by omega
                  have i1 : (p : Int) < len0 := by omega
                  have i2 : (p : Int) + 1 < len0 := by omega
                  have i3 : (p : Int) + 2 < len0 := by omega
                  have i4 : (0 : Int) ≤ (p : Int) + 1 := by omega
                  have i5 : (0 : Int) ≤ (p : Int) + 2 := by omega
                  have hpl : p ≤ 20000 := by omega
                  have m1 : IntKind.i64.wrap (3 * (m : Int)) = p := (IntWalk.i64_in _ (by omega)).trans (by omega)
                  have m0 : IntKind.i64.wrap (p : Int) = p := IntWalk.i64_in _ (by omega)
                  have m2 : IntKind.i64.wrap ((p : Int) + 1) = (p : Int) + 1 := IntWalk.i64_in _ (by omega)
                  have m3 : IntKind.i64.wrap ((p : Int) + 2) = (p : Int) + 2 := IntWalk.i64_in _ (by omega)
                  have t1 : ((p : Int) + 1).toNat = p + 1 := by omega
                  have t2 : ((p : Int) + 2).toNat = p + 2 := by omega
                  have HO : Hid ((if ((-1 : Int) < (m : Int)) then bs p else o) = bs p) := if_pos (by omega)
                  clear hx0 hx1 hx2 hp e1 hlt
                  go_wp2_with (first | (go_at_call 18; refine (p_pop HB.out (by omega) HP.out _ HO.out).mono ?_; rintro e w8 ⟨rfl, h8⟩; have H8 := Lib.hid h8; have c0 := h8.row hxb HX0.out; have c1 := h8.row hxb HX1.out; have c2 := h8.row hxb HX2.out; rw [add_succ] at c1 c2; simp only [fI] at c0 c1 c2; clear h8))
                  go_quiet ((go_at_call 21; exact q_offset H8.out (o := bs p) rfl _))
                  go_wp2_with fail
                  go_roundw
                  case rel => exact ⟨m, by omega, rfl, _, H8.out.still (by repeat (first | exact Upd.refl _ _ | apply Upd.drew | apply Upd.drewN))⟩
                  case measure => simp [intOf] <;> omega
                · obtain rfl : j = 0 := by omega
                  have e1 : (((0 : Nat) : Int) - 1) = -1 := rfl
                  rw [e1]
                  go_wp2_with (first | (go_at_call 24; refine (s_cempty HB.out (b := true) rfl).mono ?_; rintro e w6 ⟨rfl, rfl⟩))
                  go_ret
                  exact ⟨rfl, HB1.out.trans (HB.out.2.1.mono HB1.out.size)⟩
end Go.Proofs.Ytemifkcgmfincaa.fnPopscopeFreesNoScopeBelowAFork
