/- The walk of the law FnIndexIgnoresScopesOffTheChain: it returns true at every input. -/
import Derived.Test.YtemifkcgmfincaaChain
import Derived.StillTailTactics
set_option linter.unusedVariables false
namespace Go.Proofs.Ytemifkcgmfincaa.fnIndexIgnoresScopesOffTheChain
open Go.ChangeShapes Go.WideShapes Go.ChangeAt Go.RowKit
open upd env plain ops forks popf fill init steps idx chain

/-- an environment of before: nothing below the world's size turns any more -/
theorem past {base eb : Nat} {W w w' : World} {s : St} (h : At base eb W w s) (hb : Below w.heap.size w w') : At base eb W w' s := by
  obtain ⟨⟨col, h⟩, hb0, hz⟩ := h
  have h1 : EnvAt base w eb (fun k => if k < w.heap.size then col k else 100) s := h.frame (S := fun _ => False) (Upd.refl _ _) (fun _ _ _ => id) (fun k hk => if_pos hk)
  have hu : Upd (fun k => w.heap.size ≤ k) w w' := ⟨hb.os, hb.tape, hb.output, hb.size, fun k hk _ => hb.block k hk⟩
  refine ⟨⟨_, h1.frame hu (fun k _ hk hs => ?_) (fun _ _ => rfl)⟩, hb0.trans (hb.mono hz), Nat.le_trans hz hb.size⟩
  simp only [if_neg (show ¬ k < w.heap.size by omega)] at hk
  omega

theorem outerS (s : Int) (i : Nat) (w : World) (hi : i ≤ 4096) : Calls Try.prog 31 #[.int .i64 s, .int .i64 i] w fun e w' => e = .returned (.int .i64 (outer s i)) ∧ w' = w := (outer31 s i w hi).mono fun _ _ ⟨h1, h2⟩ => ⟨h1, h2.symm⟩
def st (f : Nat → Sc) (k : Nat) : St := ⟨[], -1, -1, Lg f k, (k : Int) - 1, -1, [], 0, 0⟩
theorem p_scope {base eb : Nat} {W w : World} {f : Nat → Sc} {k : Nat} (h : At base eb W w (st f k)) (x0 x1 x4 : Int) (hf : f k = (x0, x1, 0, 0, x4)) (hk : k ≤ 4096) :
    Calls Try.prog 13 #[.pointer (some ⟨eb, 0, none⟩), .int .i64 x0, .int .i64 x1, .int .i64 0, .int .i64 0, .int .i64 x4] w fun e w' => e = .returned (.tuple #[]) ∧ At base eb W w' (st f (k + 1)) := by
  refine (s_scope h x0 x1 0 0 x4 (Lg_wf _ _) (by simp [st, Lg_len]; omega)).mono fun e w' ⟨h1, h2⟩ => ⟨h1, h2.re ?_⟩
  have e1 := Lg_put f k
  have e2 := Lg_top k
  have e3 : ((k + 1 : Nat) : Int) - 1 = k := by omega
  simp only [st, e2, e3]
  rw [e2, hf] at e1
  rw [e1]

set_option maxRecDepth 100000 in
set_option maxHeartbeats 8000000 in
theorem walk (a0 : Option Addr) (len0 cap0 : Nat) (z0 : List Int) (a1 : Int) (a2 : Int) (w : World) (w0 : inp.IsRow .i64 w a0 len0 cap0 z0) (w1 : (Lit.int .i64 a1).wf = true) (w2 : (Lit.int .i64 a2).wf = true) :
    Calls Try.prog 5 #[.slice a0 len0 cap0, .int .i64 a1, .int .i64 a2] w fun e w' => e = .returned (.bool true) ∧ Below w.heap.size w w' := by
  obtain ⟨bs, hbs, hin, hnil, hm⟩ := open_ints a0 len0 cap0 z0 w w0
  clear w0 w1 w2 hbs
  have HZ := Lib.hid (zb28 a0 len0 cap0 a1 a2 w hm)
  by_cases hb : 4096 < len0
  · have hb' : (4096 : Int) < len0 := by omega
    clear hnil hin
    go_enter Try.func5, Try.ntmps5
    go_wp2_with (go_at_call 28; refine HZ.out.mono ?_; rintro e w1 ⟨b, rfl, rfl⟩)
    all_goals (go_ret; exact ⟨rfl, Below.refl _ _⟩)
  have hl : len0 ≤ 4096 := by omega
  have HC := Lib.hid (cloneI a0 cap0 len0 bs w hin hnil hl)
  clear hnil hin hb
  obtain ⟨q, hq, hq1⟩ : ∃ q : Nat, (len0 : Int) / 3 = q ∧ 3 * q ≤ len0 := ⟨len0 / 3, by omega, by omega⟩
  by_cases hq0 : q = 0
  · subst hq0
    go_enter Try.func5, Try.ntmps5
    go_wp2_with (first | (go_at_call 28; refine HZ.out.mono ?_; rintro e w1 ⟨b, rfl, rfl⟩))
    all_goals (go_ret; exact ⟨rfl, Below.refl _ _⟩)
  have hq2 : 0 < q := by omega
  have hq3 : ((q : Int) == 0) = false := by simp; omega
  have hq4 : q ≤ 4096 := by omega
  clear hq0
  obtain ⟨full, hfull⟩ := chn_ex (fun i => outer (bs (3 * i + 2)) i) q (fun i hi => outer_bd _ _ (by omega)) q ((q : Int) - 1) (by omega) (by omega) (by omega)
  have hfl : full.length ≤ q := by have := hfull.ge; omega
  have HFL := Lib.hid hfull
  have HLT : Hid (∀ c ∈ full, 3 * c + 2 < len0) := fun c hc => by have := hfull.lt c hc; omega
  clear hfull
  go_enter Try.func5, Try.ntmps5
  go_wp2_with (first | (go_at_call 28; refine HZ.out.mono ?_; rintro e w1 ⟨b, rfl, rfl⟩) | (go_at_call 10; refine HC.out.mono ?_; rintro e w1 ⟨ac, cc, rfl, hin1, _, hb1⟩; have HIN1 := Lib.hid hin1; have HB1 := Lib.hid hb1; clear hin1 hb1) | (go_at_call 29; refine (chain29 _ _ _ q bs full _ HIN1.out hl hq1 HFL.out).mono ?_; rintro e w2 ⟨ah, ch, rfl, ho2, hb2⟩; have HIN := Lib.hid (HIN1.out.kept hb2); have HB2 := Lib.hid (HB1.out.trans (hb2.mono HB1.out.size)); have HCI : Hid (In w2 ah full.length (fun i => (vals full).getD i .nilIface)) := (by obtain ⟨x, y, hxy, hz, _⟩ := own_In ho2; simp only [Value.slice.injEq, true_and] at hxy; obtain ⟨rfl, _⟩ := hxy; exact hz); clear ho2 hb2) | (go_at_call 30; refine (has30 _ _ _ _ _ a1 bs full _ HIN.out hl HCI.out HLT.out (by omega)).mono ?_; rintro e w3 ⟨bh, rfl, hbh, rfl⟩; have HBH := Lib.hid hbh; clear hbh; cases bh) | (go_at_call 11; refine (s_new _).mono ?_; rintro e w4 ⟨eb, rfl, h4⟩; have HA4 := Lib.hid h4; clear h4))
  all_goals try (go_ret; exact ⟨rfl, by first | exact Below.refl _ _ | exact HB2.out⟩)
  obtain ⟨r, hr1, hr2⟩ := both bs (fun i => outer (bs (3 * i + 2)) i) a1 full full [] _ rfl HFL.out (HBH.out (by trivial))
  have HR1 := Lib.hid hr1
  have HR2 := Lib.hid hr2
  clear HZ HC HIN1 HBH hr1 hr2 HFL
  go_loopw [10] (fun i wr => ∃ k : Nat, k ≤ q ∧ i = .int .i64 k ∧ Hid (At w2.heap.size eb w2 wr (st (f1 bs (fun i => outer (bs (3 * i + 2)) i)) k))) (fun i _ => q - (intOf i).toNat)
  case atStart => exact ⟨0, Nat.zero_le _, rfl, HA4.out⟩
  case round =>
    obtain ⟨k, hk, rfl, HA⟩ := hrel
    clear HA4
    by_cases hlt : k < q
    · obtain ⟨p, hp⟩ : ∃ p : Nat, p = 3 * k := ⟨_, rfl⟩
      obtain ⟨xa, rfl, hxb, hx0⟩ := cp_cell HIN.out (k := p) (by omega)
      obtain ⟨xa', e, _, hx1⟩ := cp_cell HIN.out (k := p + 1) (by omega)
      cases e
      obtain ⟨xa', e, _, hx2⟩ := cp_cell HIN.out (k := p + 2) (by omega)
      cases e
      have c0 : wr.cell? (xa.add p) = some (.int .i64 (bs p)) := HA.out.row hxb hx0
      have c1 : wr.cell? (xa.add (p + 1)) = some (.int .i64 (bs (p + 1))) := HA.out.row hxb hx1
      have c2 : wr.cell? (xa.add (p + 2)) = some (.int .i64 (bs (p + 2))) := HA.out.row hxb hx2
      rw [add_succ] at c1 c2
      have i0 : (0 : Int) ≤ p := by omega
      have i1 : (p : Int) < len0 := by omega
      have i2 : (p : Int) + 1 < len0 := by omega
      have i3 : (p : Int) + 2 < len0 := by omega
      have i4 : (0 : Int) ≤ (p : Int) + 1 := by omega
      have i5 : (0 : Int) ≤ (p : Int) + 2 := by omega
      have hpl : p ≤ 20000 := by omega
      have m1 : IntKind.i64.wrap (3 * (k : Int)) = p := (IntWalk.i64_in _ (by omega)).trans (by omega)
      have m2 : IntKind.i64.wrap ((p : Int) + 1) = (p : Int) + 1 := IntWalk.i64_in _ (by omega)
      have m3 : IntKind.i64.wrap ((p : Int) + 2) = (p : Int) + 2 := IntWalk.i64_in _ (by omega)
      have t1 : ((p : Int) + 1).toNat = p + 1 := by omega
      have t2 : ((p : Int) + 2).toNat = p + 2 := by omega
      have HP := Lib.hid hp
      have hf : f1 bs (fun i => outer (bs (3 * i + 2)) i) k = (bs p, bs (p + 1), 0, 0, outer (bs (p + 2)) k) := by rw [hp]; rfl
      have HFF := Lib.hid hf
      clear hx0 hx1 hx2 hp hf
      go_wp2_with fail
      go_still_tail 20, (by kernel_rfl)
      still_call (outerS _ _ _ (by omega))
      refine wpStill_nil ?_
      go_wp2_with (go_at_call 13; refine (p_scope (HA.out.still (by repeat (first | exact Upd.refl _ _ | apply Upd.drew | apply Upd.drewN))) _ _ _ HFF.out (by omega)).mono ?_; rintro e w5 ⟨rfl, h5⟩; have H5 := Lib.hid h5; clear h5)
      go_roundw
      case rel => exact ⟨k + 1, by omega, by go_num, H5.out⟩
      case measure => simp [intOf] <;> omega
    obtain rfl : k = q := by omega
    clear hlt
    have HB3 := Lib.hid (HB2.out.trans (HA.out.2.1.mono HB2.out.size))
    go_wp2_with (go_at_call 11; refine (s_new _).mono ?_; rintro e w5 ⟨eb2, rfl, h5⟩; have HE5 := Lib.hid h5; clear h5)
    have HIN2 := Lib.hid (HIN.out.kept HA.out.2.1)
    have HCI2 := Lib.hid (HCI.out.kept HA.out.2.1)
    clear HIN HCI HB1
    go_loopw [12, 13, 14] (fun t _ _ wx => ∃ m p : Nat, m + p = full.length ∧ t = .int .i64 ((m : Int) - 1) ∧ Hid (At wr.heap.size eb2 wr wx (st (f2 bs full) p))) (fun t _ _ _ => (intOf t + 1).toNat)
    case atStart => exact ⟨full.length, 0, by omega, rfl, HE5.out⟩
    case round =>
      obtain ⟨m0, p, hmp, rfl, HE⟩ := hrel
      clear HE5
      by_cases hlt : 0 < m0
      · obtain ⟨m, rfl⟩ : ∃ m, m0 = m + 1 := ⟨m0 - 1, by omega⟩
        obtain ⟨xc, rfl, hxcb, hxc⟩ := cp_cell HCI2.out (k := m) (by omega)
        obtain ⟨c, hc⟩ : ∃ c, c = full.getD m 0 := ⟨_, rfl⟩
        have hv : (vals full).getD m .nilIface = .int .i64 (c : Int) := by
          rw [hc]; simp [vals, List.getD, show m < full.length by omega]
        have hcm : c ∈ full := by
          have hg : full.getD m 0 = full[m]'(by omega) := by simp [List.getD, show m < full.length by omega]
          rw [hc, hg]; exact List.getElem_mem _
        have hcb := HLT.out c hcm
        rw [hv] at hxc
        have d0 : wr.cell? (xc.add m) = some (.int .i64 (c : Int)) := HE.out.row hxcb hxc
        obtain ⟨P, hP⟩ : ∃ P : Nat, P = 3 * c := ⟨_, rfl⟩
        obtain ⟨xa, rfl, hxb, hx0⟩ := cp_cell HIN2.out (k := P) (by omega)
        obtain ⟨xa', e, _, hx1⟩ := cp_cell HIN2.out (k := P + 1) (by omega)
        cases e
        have c0 : wr.cell? (xa.add P) = some (.int .i64 (bs P)) := HE.out.row hxb hx0
        have c1 : wr.cell? (xa.add (P + 1)) = some (.int .i64 (bs (P + 1))) := HE.out.row hxb hx1
        rw [add_succ] at c1
        have e1 : (((m + 1 : Nat) : Int) - 1) = m := by omega
        rw [e1]
        have hpp : (full.length : Int) - 1 - (m : Int) = p := by omega
        have i0 : (0 : Int) ≤ P := by omega
        have i1 : (P : Int) < len0 := by omega
        have i2 : (P : Int) + 1 < len0 := by omega
        have i4 : (0 : Int) ≤ (P : Int) + 1 := by omega
        have j0 : (0 : Int) ≤ m := by omega
        have j1 : (m : Int) < full.length := by omega
        have hpl : P ≤ 20000 := by omega
        have hp4 : p ≤ 4096 := by omega
        have m1 : IntKind.i64.wrap (3 * (c : Int)) = P := (IntWalk.i64_in _ (by omega)).trans (by omega)
        have m2 : IntKind.i64.wrap ((P : Int) + 1) = (P : Int) + 1 := IntWalk.i64_in _ (by omega)
        have m4 : IntKind.i64.wrap ((p : Int) - 1) = (p : Int) - 1 := IntWalk.i64_in _ (by omega)
        have t1 : ((P : Int) + 1).toNat = P + 1 := by omega
        have hf : f2 bs full p = (bs P, bs (P + 1), 0, 0, (p : Int) - 1) := by
          have : full.length - 1 - p = m := by omega
          simp only [f2, this, ← hc, ← hP]
        have HFF := Lib.hid hf
        clear hx0 hx1 hxc hv hcm hcb hc hP hf e1 hlt
        go_wp2_with fail
        go_still_tail 14, (by kernel_rfl)
        go_wp2_with (go_at_call 13; refine (p_scope (HE.out.still (by repeat (first | exact Upd.refl _ _ | apply Upd.drew | apply Upd.drewN))) _ _ _ HFF.out (by omega)).mono ?_; rintro e w5 ⟨rfl, h5⟩; have H5 := Lib.hid h5; clear h5)
        go_roundw
        case rel => exact ⟨m, p + 1, by omega, rfl, H5.out⟩
        case measure => simp [intOf] <;> omega
      · obtain rfl : m0 = 0 := by omega
        have e1 : (((0 : Nat) : Int) - 1) = -1 := rfl
        rw [e1]
        obtain rfl : p = full.length := by omega
        have HA2 := Lib.hid (past HA.out HE.out.2.1)
        clear hlt e1 HA
        go_wp2_with (first | (have hguard := HE3; clear hguard; go_at_call 32; refine (s_index HE3.out (n := full.length) rfl HR2.out (by simp only [st]; omega)).mono ?_; rintro e w7 ⟨rfl, h7⟩; have HU7 := Lib.hid h7; clear h7) | (go_at_call 32; refine (s_index HA2.out (n := k) rfl HR1.out (by simp only [st]; omega)).mono ?_; rintro e w6 ⟨rfl, h6⟩; have HE3 := Lib.hid (HE.out.still h6); have HU6 := Lib.hid h6; clear h6))
        go_ret
        exact ⟨by simp, HB3.out.trans ((HE.out.2.1.mono HB3.out.size).trans (Upd.below (HU6.out.trans HU7.out) (Nat.le_trans HB3.out.size HE.out.2.2) (fun _ h => h.elim)))⟩
end Go.Proofs.Ytemifkcgmfincaa.fnIndexIgnoresScopesOffTheChain
