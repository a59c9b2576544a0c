/- Inside a builtin's definition a plain name is a parameter or what lookupBuiltin answers. -/
import Derived.Test.YtmfpmpbilekbgaaLay
import Derived.Test.YtmfpmpbilekbgaaIn
import Derived.Test.YtmfpmpbilekbgaaGuardB
import Derived.Test.YtmfpmpbilekbgaaCopyZ
import Derived.Test.YtmfpmpbilekbgaaCount
import Derived.Test.YtmfpmpbilekbgaaPick
import Derived.Test.YtmfpmpbilekbgaaEq
import Derived.Test.YtmfpmpbilekbgaaUse
import Derived.Test.YtmfpmpbilekbgaaModel
set_option linter.unusedVariables false
namespace Go.Proofs.Ytmfpmpbilekbgaa.fnLookupBuiltinAgreesWithFuncOrVariable
open Go.ChangeShapes Go.WideShapes Go.ChangeAt Go.RowKit
open upd comp grow add lookv var newc push wrap pushv lookf doors codes lazy bi45 body lookb zs guard model count copy lay plain state same use

set_option maxRecDepth 100000 in
set_option maxHeartbeats 16000000 in
theorem walk' (va vb vc : Value) (la : List ByteArray) (lb : List Int) (lc : List ByteArray) (nm : ByteArray) (w : World) (ha : StrRow w va la) (hb : IntRow w vb lb) (hc : StrRow w vc lc) (hnm : nm.size ≤ maxLen) :
    Calls Try.prog 8 #[va, vb, vc, .string nm] w fun e w' => e = .returned (.bool true) ∧ Below w.heap.size w w' := by
  have HG := Lib.hid (g38 w va vb vc la lb lc nm ha hb hc hnm)
  have HSB := Lib.hid (strsBytes w va la ha)
  have HSP := Lib.hid (strsBytes w vc lc hc)
  have HCS : Hid (la.length ≤ 2097152 → Calls Try.prog 14 #[va] w (CopyS w la)) := fun h => strs w va la ha h
  have HCP : Hid (lc.length ≤ 2097152 → ∀ w1, Below w.heap.size w w1 → Calls Try.prog 14 #[vc] w1 (CopyS w1 lc)) := fun h w1 hb1 => strs w1 vc lc (hc.kept hb1) h
  have HIB := Lib.hid hb
  obtain ⟨aa, ca, rfl, hca, hcma, _⟩ := str_open ha
  obtain ⟨ab, cb0, rfl, hcb, hcmb, _⟩ := int_open hb
  obtain ⟨ap, cp, rfl, hcp, hcmp, _⟩ := str_open hc
  have HNN := Lib.hid (nonNeg w _ lb la.length hb)
  obtain ⟨n, hn⟩ : ∃ n, n = la.length := ⟨_, rfl⟩
  obtain ⟨m, hm⟩ : ∃ m, m = lb.length := ⟨_, rfl⟩
  obtain ⟨pn, hpn⟩ : ∃ pn, pn = lc.length := ⟨_, rfl⟩
  have HN := Lib.hid hn
  have HM := Lib.hid hm
  have HPN := Lib.hid hpn
  rw [← hn, ← hm, ← hpn] at HG
  rw [← hn, ← hm] at HNN
  rw [← hm] at HIB hcb ⊢
  rw [← hpn] at HSP HCP hcp ⊢
  rw [← hn] at HSB HCS hca ⊢
  unfold maxLen at hnm hcma hcmb hcmp
  clear ha hb hc hn hm hpn
  go_enter Try.func8, Try.ntmps8
  go_wp2_with fail
  go_at_call 38
  refine HG.out.mono ?_
  rintro e wg ⟨b, rfl, rfl, hb⟩
  cases b with
  | false =>
    clear hb HG HSB HSP HCS HCP HIB HNN
    go_wp2_with fail
    (go_ret; exact ⟨rfl, Below.refl _ _⟩)
  | true =>
  obtain ⟨⟨_, hsz⟩, _, _, hz⟩ := hb rfl
  have HSZ := Lib.hid hsz
  clear hb hsz HG
  by_cases hl0 : 65536 < n
  · clear HSB HSP HCS HCP HIB HNN HSZ
    go_wp2_with fail
    all_goals (go_ret; exact ⟨rfl, Below.refl _ _⟩)
  by_cases hl1 : 65536 < m
  · clear HSB HSP HCS HCP HIB HNN HSZ
    go_wp2_with fail
    all_goals (go_ret; exact ⟨rfl, Below.refl _ _⟩)
  by_cases hl2 : 65536 < pn
  · clear HSB HSP HCS HCP HIB HNN HSZ
    go_wp2_with fail
    all_goals (go_ret; exact ⟨rfl, Below.refl _ _⟩)
  by_cases hl3 : 65536 < nm.size
  · clear HSB HSP HCS HCP HIB HNN HSZ
    go_wp2_with fail
    all_goals (go_ret; exact ⟨rfl, Below.refl _ _⟩)
  go_wp2_with fail
  go_at_call 12
  refine HSB.out.mono ?_
  rintro e wg ⟨q, rfl, rfl⟩
  clear HSB
  go_wp2_with fail
  go_at_call 12
  refine HSP.out.mono ?_
  rintro e wg ⟨q2, rfl, rfl⟩
  clear HSP
  by_cases hs0 : nm.size = 0
  · have hs1 : ((nm.size : Int) == 0) = true := by rw [hs0]; rfl
    clear HCS HCP HIB HNN HSZ
    go_wp2_with fail
    all_goals (go_ret; exact ⟨rfl, Below.refl _ _⟩)
  have hp0 : 0 < nm.size := by omega
  have hs1 : ((nm.size : Int) == 0) = false := beq_eq_false_iff_ne.2 (by omega)
  by_cases hd : (((nm[0]'hp0).toNat : Int) == 36) = true
  · clear HCS HCP HIB HNN HSZ
    go_wp2_with fail
    all_goals (go_ret; exact ⟨rfl, Below.refl _ _⟩)
  have hd1 : (((nm[0]'hp0).toNat : Int) == 36) = false := by simpa using hd
  have HISF : Hid ((((nm[0]'hp0).toNat : Int) != 36) = true) := by unfold Hid; simp only [bne, hd1]; rfl
  clear hd
  go_wp2_with fail
  all_goals first | (go_ret; exact ⟨rfl, Below.refl _ _⟩) | skip
  go_at_call 13
  refine HNN.out.mono ?_
  rintro e wg ⟨b, rfl, rfl⟩
  clear HNN
  cases b with
  | false =>
    clear HCS HCP HIB HSZ
    go_wp2_with fail
    (go_ret; exact ⟨rfl, Below.refl _ _⟩)
  | true =>
  go_wp2_with fail
  clear hd1
  go_at_call 14
  refine (HCS.out (by omega)).mono ?_
  rintro e wc ⟨va', rfl, hra, _, hbc⟩
  have HBC := Lib.hid hbc
  have HRA0 := Lib.hid hra
  have HCI := Lib.hid (ints wc _ lb (HIB.out.kept hbc) (by have := HM.out; omega))
  clear HCS HIB hra hbc
  go_wp2_with fail
  go_at_call 15
  refine HCI.out.mono ?_
  rintro e wd0 ⟨vb', rfl, hrb0, _, hbd0⟩
  have HBD0 : Hid (Below w.heap.size w wd0) := HBC.out.trans (hbd0.mono HBC.out.size)
  have HRB0 := Lib.hid hrb0
  have HRA1 := Lib.hid (HRA0.out.kept hbd0)
  have HCP2 := Lib.hid (HCP.out (by omega) wd0 HBD0.out)
  clear HCI HRA0 HBC HCP hrb0 hbd0
  go_wp2_with fail
  go_at_call 14
  refine HCP2.out.mono ?_
  rintro e wd ⟨vc', rfl, hrp, _, hbd⟩
  have HBD : Hid (Below w.heap.size w wd) := HBD0.out.trans (hbd.mono HBD0.out.size)
  have HRB : Hid (IntRow wd vb' lb) := HRB0.out.kept hbd
  have hrb := HRB.out
  obtain ⟨aa2, ca2, rfl, hca2, hcma2, hra2⟩ := str_open (HRA1.out.kept hbd)
  obtain ⟨rb, cb, rfl, hcb2, hcmb2, _⟩ := int_open hrb
  obtain ⟨ap2, cp2, rfl, hcp2, hcmp2, hrp2⟩ := str_open hrp
  have HRA := Lib.hid hra2
  have HRP := Lib.hid hrp2
  rw [← HM.out] at HRB hcb2 ⊢
  rw [← HPN.out] at hcp2 ⊢
  rw [← HN.out] at hca2 ⊢
  unfold maxLen at hcma2 hcmb2 hcmp2
  clear HCP2 HRA1 HRB0 HBD0 hrb hrp hbd hra2 hrp2
  go_wp2_with fail
  go_at_call 16
  refine (newComp wd).mono ?_
  rintro e w0 ⟨rfl, ⟨col0, bb, sv0, bs0, hC0⟩, hB0⟩
  obtain ⟨base, hbase⟩ : ∃ base, base = wd.heap.size := ⟨_, rfl⟩
  have HBW : Hid (∀ wr, Below base w0 wr → Below wd.heap.size wd wr) := fun wr h => by rw [hbase] at h; exact hB0.trans h
  have HW0 : Hid (base ≤ w0.heap.size) := by unfold Hid; rw [hbase]; exact hB0.size
  rw [← hbase] at hC0 ⊢
  have HL0 := Lib.hid (LB.start hC0 la lb (fun _ => 0))
  have HFIN : Hid (∀ wr, Below base w0 wr → Below w.heap.size w wr) := fun wr h => HBD.out.trans ((HBW.out _ h).mono HBD.out.size)
  clear hC0 hB0 hbase HBD
  go_wp2_with fail
  go_loopw [10] (fun i wr => ∃ k : Nat, k ≤ n ∧ i = .int .i64 k ∧ Hid (LB base w0 col0 base bb sv0 bs0 [⟨1, [], []⟩] 2 la lb (fun _ => 0) k wr)) (fun i _ => n - (intOf i).toNat)
  case atStart => exact ⟨0, Nat.zero_le _, rfl, HL0⟩
  case round =>
    obtain ⟨k, hk, rfl, HL⟩ := hrel
    clear HL0
    by_cases hlt : k < n
    · obtain ⟨s, hs⟩ : ∃ s, la[k]? = some s := ⟨_, List.getElem?_eq_getElem (by have := HN.out; omega)⟩
      obtain ⟨x2, rfl, c0, _⟩ := HRA.out k s hs
      have c1 := cell_kept (HBW.out _ (HL.out.below HW0.out)) c0
      have HSTEP : Hid (∀ d : Nat, Calls Try.prog 17 #[.pointer (some ⟨base, 0, none⟩), .string s, .int .i64 (lb.getD k 0), .int .i64 0] (wr.drewN d) fun e w' => e = .returned (.tuple #[]) ∧ LB base w0 col0 base bb sv0 bs0 [⟨1, [], []⟩] 2 la lb (fun _ => 0) (k + 1) w') := by
        unfold Hid; intro d
        exact LB.step (HL.out.drew d) s hs (HSZ.out k s (by have := HN.out; omega) hs) (by omega) (by rw [start_zero]; omega) (Nat.zero_le _) HW0.out
      have HAT : Hid (∀ d : Nat, Calls Try.prog 18 #[.slice rb m cb, .int .i64 k] (wr.drewN d) fun e w' => e = .returned (.int .i64 (lb.getD k 0)) ∧ w' = wr.drewN d) := by
        unfold Hid; intro d
        exact atD wr _ lb (HRB.out.kept (HBW.out _ (HL.out.below HW0.out))) k d
      clear hs c0 HL
      go_wp2_with fail
      go_still_tail 8, (by kernel_rfl)
      still_call (HAT.out _)
      refine wpStill_nil ?_
      go_wp2_with fail
      go_at_call 17
      refine (HSTEP.out _).mono ?_
      rintro e w2 ⟨rfl, hL⟩
      have HL2 := Lib.hid hL
      clear hL HSTEP HAT
      go_wp2_with fail
      refine ⟨⟨k + 1, by omega, by go_num, HL2⟩, ?_⟩
      simp [intOf] <;> omega
    · obtain rfl : k = n := by omega
      obtain ⟨col, ps, hN, hA, cv, hC, hD⟩ := HL.out
      have HBR := Lib.hid (HL.out.below HW0.out)
      have HWR : Hid (base ≤ wr.heap.size) := by unfold Hid; have := HW0.out; have := hN.2.size; omega
      have HUS := Lib.hid (use39 hC rfl HWR.out (by omega) (by omega))
      obtain ⟨F, hF⟩ : ∃ F, F = bfuncs la lb (fun _ => 0) k := ⟨_, rfl⟩
      have HFL : Hid (F.length ≤ 2097152) := by unfold Hid; rw [hF, bfuncs_len]; omega
      rw [← hF] at HUS
      clear HL hN hA hC hD hF HRA HRB HSZ hk hlt
      go_wp2_with fail
      go_at_call 39
      refine HUS.out.mono ?_
      rintro e w1 ⟨rfl, V, hC1, hB1⟩
      obtain ⟨col1, hcol1⟩ : ∃ col1, col1 = turned col wr.heap.size := ⟨_, rfl⟩
      rw [← hcol1] at hC1
      have HB1 : Hid (Below base w0 w1) := HBR.out.trans hB1
      have HW1 : Hid (base ≤ w1.heap.size) := by unfold Hid; have := HWR.out; have := hB1.size; omega
      have HNW0 : Hid (Now base w1 col1 base cv bb ⟨1, [], []⟩ ([⟨0, [], F⟩] ++ [⟨2, lc.take 0, []⟩]) 3 w1) := ⟨col1, V, _, ⟨fun _ _ => rfl, Upd.refl _ _⟩, hC1⟩
      clear HUS hC1 hB1 hcol1 HBR HWR HW0
      go_wp2_with fail
      go_loopw [11] (fun i wr => ∃ j : Nat, j ≤ pn ∧ i = .int .i64 j ∧ Hid (Now base w1 col1 base cv bb ⟨1, [], []⟩ ([⟨0, [], F⟩] ++ [⟨2, lc.take j, []⟩]) 3 wr)) (fun i _ => pn - (intOf i).toNat)
      case atStart => exact ⟨0, Nat.zero_le _, rfl, HNW0⟩
      case round =>
        obtain ⟨j, hj, rfl, HNW⟩ := hrel
        clear HNW0
        have HBX : Hid (Below base w0 wr) := HB1.out.trans (now_below HNW.out HW1.out)
        by_cases hjl : j < pn
        · obtain ⟨s, hs⟩ : ∃ s, lc[j]? = some s := ⟨_, List.getElem?_eq_getElem (by have := HPN.out; omega)⟩
          obtain ⟨x2, rfl, c0, _⟩ := HRP.out j s hs
          have c1 := cell_kept (HBW.out _ HBX.out) c0
          have HCR : Hid (Calls Try.prog 40 #[.pointer (some ⟨base, 0, none⟩), .string s] wr fun e w' => e = .returned (lookv.two 2 ((lc.take j).length)) ∧ Now base w1 col1 base cv bb ⟨1, [], []⟩ ([⟨0, [], F⟩] ++ [⟨2, lc.take (j + 1), []⟩]) 3 w') := by
            have h := createN HNW.out s (by simp) (by simp; omega) HW1.out
            rw [take_snoc hs]; exact h
          unfold lookv.two at HCR
          clear hs c0 HNW HBX
          go_wp2_with fail
          go_at_call 40
          refine HCR.out.mono ?_
          rintro e w2 ⟨rfl, hn2⟩
          have HN2 := Lib.hid hn2
          clear hn2 HCR
          go_wp2_with fail
          refine ⟨⟨j + 1, by omega, by go_num, HN2⟩, ?_⟩
          simp [intOf] <;> omega
        · obtain rfl : j = pn := by omega
          have hcell : Hid (∀ (t : Nat) (s : ByteArray), lc[t]? = some s → ∃ x, ap2 = some x ∧ wr.cell? (x.add t) = some (.string s)) := by
            unfold Hid; intro t s hs
            obtain ⟨x, h1, h2, _⟩ := HRP.out t s hs
            exact ⟨x, h1, cell_kept (HBW.out _ HBX.out) h2⟩
          have HFX := Lib.hid (HFIN.out _ HBX.out)
          obtain ⟨col2, sv2, bs2, hX, hC2⟩ := HNW.out
          rw [HPN.out, List.take_length] at hC2
          have HC2 := Lib.hid hC2
          have HVL : Hid (∀ (k : Nat) (s : Sc), ([⟨0, [], F⟩, ⟨2, lc, []⟩] : List Sc)[k]? = some s → s.vars.length ≤ 2097152 ∧ s.funcs.length ≤ 2097152) := by
            unfold Hid; intro k s hk
            match k, hk with
            | 0, hk => simp at hk; subst hk; exact ⟨by simp, HFL.out⟩
            | 1, hk => simp at hk; subst hk; exact ⟨by have := HPN.out; simp only []; omega, by simp⟩
            | k + 2, hk => simp at hk
          have HLG := Lib.hid (zlookG' (L := [⟨0, [], F⟩, ⟨2, lc, []⟩]) hC2 nm (by simp) HVL.out hp0 true HISF.out)
          have HP0 := Lib.hid (PL.start lc nm)
          clear hX hC2 HNW HRP HBX HFIN HBW HB1 HW1 hjl hj
          go_wp2_with fail
          go_loop [12, 13] (fun l i => ∃ (t : Nat) (y : Int), t ≤ j ∧ i = .int .i64 t ∧ l = .int .i64 y ∧ -1 ≤ y ∧ Hid (PL lc nm t y)) (fun _ i => j - (intOf i).toNat)
          case atStart => exact ⟨0, -1, Nat.zero_le _, rfl, rfl, by omega, HP0⟩
          case round =>
            obtain ⟨t, y, ht, rfl, rfl, hy, HPL⟩ := hrel
            clear HP0
            by_cases htl : t < j
            · obtain ⟨s, hs⟩ : ∃ s, lc[t]? = some s := ⟨_, List.getElem?_eq_getElem (by have := HPN.out; omega)⟩
              obtain ⟨x2, rfl, c0⟩ := hcell.out t s hs
              have HS := Lib.hid hs
              clear hs
              by_cases hq : s = nm
              · subst hq
                have hne : (s.toList == s.toList) = true := by simp
                have HP2 : Hid (PL lc s (t + 1) t) := HPL.out.hit HS.out
                clear HPL
                go_wp2_with fail
                refine ⟨⟨t + 1, t, by omega, by go_num, rfl, by omega, HP2⟩, ?_⟩
                simp [intOf] <;> omega
              · have hne : (s.toList == nm.toList) = false := by
                  rw [beq_eq_false_iff_ne]; intro e; rw [Lib.toList_data, Lib.toList_data] at e; exact hq (ByteArray.ext (Array.toList_inj.1 e))
                have HP2 : Hid (PL lc nm (t + 1) y) := HPL.out.miss HS.out hq
                clear HPL
                go_wp2_with fail
                refine ⟨⟨t + 1, y, by omega, by go_num, rfl, hy, HP2⟩, ?_⟩
                simp [intOf] <;> omega
            · obtain rfl : t = j := by omega
              have hpd := PL.done (show PL lc nm lc.length y by rw [← HPN.out]; exact HPL.out)
              clear HPL hcell
              go_wp2_with fail
              go_at_call 31
              refine HLG.out.mono ?_
              rintro e w9 ⟨fa, fb, d, rfl, hw9, hlg⟩
              have hu9 : Upd (fun _ => False) wr w9 := by rw [hw9]; exact (Upd.refl _ _).drewN _
              have HF9 : Hid (Below w.heap.size w w9) := by unfold Hid; rw [hw9]; exact HFX.out.trans ⟨rfl, rfl, rfl, Nat.le_refl _, fun _ _ => rfl⟩
              clear HLG HFX
              rcases hpd with ⟨rfl, hnone⟩ | ⟨q, rfl, hlast⟩
              · obtain ⟨b0, hb0, vv, fv, ps9, fs9, hS⟩ := HC2.out.sc 0 ⟨0, [], F⟩ rfl
                have hb2 := HC2.out.al rfl
                have hbb : b0 = bb := by rw [hb0] at hb2; exact Option.some.inj hb2
                subst hbb
                have HAG : Hid (∀ e', LookB F fs9 nm 0 wr e' → ∃ a : Option Addr, (Ending.returned (.tuple #[.pointer fa, .pointer fb]) = .returned (.tuple #[.pointer a, .pointer none])) ∧ e' = .returned (.pointer a)) := fun e' h' => par_none (vs := lc) HC2.out hb0 hS hlg hnone h'
                have h7 : w9.cell? ⟨base, 7, none⟩ = some (.pointer (some ⟨b0, 0, none⟩)) := by rw [(HC2.out.blk.kept hu9 id).cell]; rfl
                have HLK := Lib.hid (zlookB h7 (hS.step (col' := col2) hu9 (fun _ h => h.elim) (fun _ _ => rfl)) nm 0 HFL.out)
                have HBK : Hid (∀ e', LookB F fs9 nm 0 w9 e' → LookB F fs9 nm 0 wr e') := fun e' h' => by
                  rw [hw9] at h'
                  exact h'
                clear hlg hnone hw9 hS hb0 hb2 h7 hu9 HC2
                go_wp2_with fail
                go_at_call 22
                refine HLK.out.mono ?_
                rintro e w10 ⟨hl, rfl⟩
                obtain ⟨a, h1, rfl⟩ := HAG.out _ (HBK.out _ hl)
                simp only [Ending.returned.injEq, Value.tuple.injEq, Array.mk.injEq, List.cons.injEq, Value.pointer.injEq, and_true] at h1
                obtain ⟨rfl, rfl⟩ := h1
                clear hl HLK HAG HBK
                have hp37 := eq37
                rcases fa with _ | fa
                all_goals go_wp2_with fail
                all_goals go_ret
                all_goals exact ⟨by first | rfl | simp, HF9.out⟩
              · obtain ⟨p, h1, hva⟩ := par_found hlg hlast
                simp only [Ending.returned.injEq, Value.tuple.injEq, Array.mk.injEq, List.cons.injEq, Value.pointer.injEq, and_true] at h1
                obtain ⟨rfl, rfl⟩ := h1
                have HVA := Lib.hid (Blk.kept hva hu9 id)
                have heq := eq'.eq50
                clear hlg hw9 hu9 hlast hva HC2
                go_wp2_with fail
                go_at_call 33
                refine (varIndex w9 p nm 2 q HVA.out).mono ?_
                rintro e w10 ⟨rfl, hb10⟩
                have HV10 : Hid (VarAt w10 p nm 2 q) := Blk.kept HVA.out (Upd.of_below (S := fun _ => False) hb10) id
                have HF10 : Hid (Below w.heap.size w w10) := HF9.out.trans (hb10.mono HF9.out.size)
                unfold lookv.two
                clear hb10 HVA HF9
                go_wp2_with fail
                go_at_call 34
                refine (varName w10 p nm 2 q HV10.out).mono ?_
                rintro e w11 ⟨rfl, rfl⟩
                go_wp2_with fail
                go_ret
                exact ⟨by first | rfl | simp, HF10.out⟩
theorem walk (a0 : Option Addr) (len0 cap0 : Nat) (z0 : List ByteArray) (a1 : Option Addr) (len1 cap1 : Nat) (z1 : List Int) (a2 : Option Addr) (len2 cap2 : Nat) (z2 : List ByteArray) (a3 : ByteArray) (w : World) (w0 : inp.IsStrs w a0 len0 cap0 z0) (w1 : inp.IsRow .i64 w a1 len1 cap1 z1) (w2 : inp.IsStrs w a2 len2 cap2 z2) (w3 : a3.size ≤ maxLen) :
    Calls Try.prog 8 #[.slice a0 len0 cap0, .slice a1 len1 cap1, .slice a2 len2 cap2, .string a3] w fun e w' => e = .returned (.bool true) ∧ Below w.heap.size w w' :=
  walk' _ _ _ _ _ _ a3 w (inrow.strRow w0) (inrow.intRow w1) (inrow.strRow w2) w3
end Go.Proofs.Ytmfpmpbilekbgaa.fnLookupBuiltinAgreesWithFuncOrVariable
