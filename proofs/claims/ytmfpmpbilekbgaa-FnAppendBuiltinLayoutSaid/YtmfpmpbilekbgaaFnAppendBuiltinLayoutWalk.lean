/- appendBuiltin lays each builtin as a jump over its body. -/
import Derived.Test.YtmfpmpbilekbgaaLay
import Derived.Test.YtmfpmpbilekbgaaIn
import Derived.Test.YtmfpmpbilekbgaaGuardB
import Derived.Test.YtmfpmpbilekbgaaCopyZ
import Derived.Test.YtmfpmpbilekbgaaCount
import Derived.Test.YtmfpmpbilekbgaaPick
import Derived.Test.YtmfpmpbilekbgaaEq
import Derived.Test.YtmfpmpbilekbgaaSlots
set_option linter.unusedVariables false
namespace Go.Proofs.Ytmfpmpbilekbgaa.fnAppendBuiltinLayout
open Go.ChangeShapes Go.WideShapes Go.ChangeAt Go.RowKit
open upd comp grow add lookv var newc push wrap pushv lookf doors codes lazy bi45 body lookb zs guard model count copy lay slots

set_option maxRecDepth 100000 in
set_option maxHeartbeats 16000000 in
theorem walk' (va vb vc : Value) (la : List ByteArray) (lb lc : List Int) (w : World) (ha : StrRow w va la) (hb : IntRow w vb lb) (hc : IntRow w vc lc) :
    Calls Try.prog 3 #[va, vb, vc] w fun e w' => e = .returned (.bool true) ∧ Below w.heap.size w w' := by
  have HG := Lib.hid (g11 w va vb vc la lb lc ha hb hc)
  have HSB := Lib.hid (strsBytes w va la ha)
  have HCS : Hid (la.length ≤ 2097152 → Calls Try.prog 14 #[va] w (CopyS w la)) := fun h => strs w va la ha h
  have HIB := Lib.hid hb
  have HIC := Lib.hid hc
  obtain ⟨aa, ca, rfl, hca, hcma, _⟩ := str_open ha
  obtain ⟨ab, cb0, rfl, hcb, hcmb, _⟩ := int_open hb
  obtain ⟨ac, cc0, rfl, hcc, hcmc, hac⟩ := int_open hc
  have HAC := Lib.hid hac
  have HNN := Lib.hid (nonNeg w _ lb la.length hb)
  obtain ⟨n, hn⟩ : ∃ n, n = la.length := ⟨_, rfl⟩
  obtain ⟨m, hm⟩ : ∃ m, m = lb.length := ⟨_, rfl⟩
  obtain ⟨mc, hmc⟩ : ∃ mc, mc = lc.length := ⟨_, rfl⟩
  have HN := Lib.hid hn
  have HM := Lib.hid hm
  have HMC := Lib.hid hmc
  rw [← hn, ← hm, ← hmc] at HG
  rw [← hn, ← hm] at HNN
  rw [← hm] at HIB hcb ⊢
  rw [← hmc] at HIC hcc ⊢
  rw [← hn] at HSB HCS hca ⊢
  unfold maxLen at hcma hcmb hcmc
  clear ha hb hc hn hm hmc hac
  go_enter Try.func3, Try.ntmps3
  go_wp2_with fail
  go_at_call 11
  refine HG.out.mono ?_
  rintro e wg ⟨b, rfl, rfl, hb⟩
  cases b with
  | false =>
    clear hb HG HSB HCS HIB HNN HIC HAC
    go_wp2_with fail
    (go_ret; exact ⟨rfl, Below.refl _ _⟩)
  | true =>
  obtain ⟨⟨_, hsz⟩, _, hz⟩ := hb rfl
  have HSZ := Lib.hid hsz
  clear hb hsz HG
  by_cases hl1 : 65536 < n
  · clear HSB HCS HIB HNN HSZ HIC HAC
    go_wp2_with fail
    all_goals (go_ret; exact ⟨rfl, Below.refl _ _⟩)
  by_cases hl2 : 65536 < m
  · clear HSB HCS HIB HNN HSZ HIC HAC
    go_wp2_with fail
    all_goals (go_ret; exact ⟨rfl, Below.refl _ _⟩)
  by_cases hl3 : 65536 < mc
  · clear HSB HCS HIB HNN HSZ HIC HAC
    go_wp2_with fail
    all_goals (go_ret; exact ⟨rfl, Below.refl _ _⟩)
  go_wp2_with fail
  go_at_call 12
  refine HSB.out.mono ?_
  rintro e wg ⟨q, rfl, rfl⟩
  clear HSB
  go_wp2_with fail
  all_goals first | (go_ret; exact ⟨rfl, Below.refl _ _⟩) | skip
  go_at_call 13
  refine HNN.out.mono ?_
  rintro e wg ⟨b, rfl, rfl⟩
  clear HNN
  cases b with
  | false =>
    clear HCS HIB HSZ HIC HAC
    go_wp2_with fail
    (go_ret; exact ⟨rfl, Below.refl _ _⟩)
  | true =>
  have HG0 := Lib.hid (GoodB.zero lc)
  go_wp2_with fail
  go_loop [7, 8] (fun t i => ∃ (j : Nat) (y : Nat), j ≤ n ∧ j ≤ mc ∧ i = .int .i64 j ∧ t = .int .i64 y ∧ y ≤ 65536 ∧ Hid (GoodB lc j ∧ y = tot (bodyOf lc) j)) (fun _ i => n - (intOf i).toNat)
  case atStart => exact ⟨0, 0, Nat.zero_le _, Nat.zero_le _, rfl, rfl, by omega, ⟨HG0.out, rfl⟩⟩
  case round =>
    obtain ⟨j, y, hj, hjc, rfl, rfl, hy, HGD⟩ := hrel
    clear HG0
    by_cases hjb : j < n ∧ j < mc
    · obtain ⟨hj1, hj2⟩ := hjb
      obtain ⟨z, hz0⟩ : ∃ z, lc[j]? = some z := ⟨_, List.getElem?_eq_getElem (by have := HMC.out; omega)⟩
      obtain ⟨x2, rfl, c0, hwf⟩ := HAC.out j z hz0
      have HZ : Hid (lc.getD j 0 = z) := by unfold Hid; simp [List.getD, hz0]
      clear hz0 hwf
      by_cases hneg : z < 0
      · clear HSZ HCS HIB HIC HAC HGD HZ
        go_wp2_with fail
        all_goals (go_ret; exact ⟨rfl, Below.refl _ _⟩)
      by_cases hbig : 65536 < z
      · clear HSZ HCS HIB HIC HAC HGD HZ
        go_wp2_with fail
        all_goals (go_ret; exact ⟨rfl, Below.refl _ _⟩)
      by_cases hsum : 65536 < (y : Int) + z
      · clear HSZ HCS HIB HIC HAC HGD HZ
        go_wp2_with fail
        all_goals (go_ret; exact ⟨rfl, Below.refl _ _⟩)
      have hgd := HGD.out.1.next (by rw [HZ.out]; omega) (by rw [HZ.out]; omega) (by rw [HZ.out, ← HGD.out.2]; omega)
      rw [HZ.out, ← HGD.out.2] at hgd
      obtain ⟨y2, hy2⟩ : ∃ y2, y2 = tot (bodyOf lc) (j + 1) := ⟨_, rfl⟩
      rw [← hy2] at hgd
      have hyz := hgd.2
      have HG2 : Hid (GoodB lc (j + 1) ∧ y2 = tot (bodyOf lc) (j + 1)) := ⟨hgd.1, hy2⟩
      clear hgd hy2 HGD HZ
      go_wp2_with fail
      refine ⟨⟨j + 1, y2, by omega, by omega, by go_num, by rw [hyz], by omega, HG2⟩, ?_⟩
      simp [intOf] <;> omega
    · have HT : Hid (GoodB lc n ∧ y = tot (bodyOf lc) n) := by
        unfold Hid
        by_cases hjn : j = n
        · rw [← hjn]; exact HGD.out
        · have e : j = lc.length := by have := HMC.out; omega
          have h := HGD.out
          rw [e] at h
          have h2 := GoodB.rest h.1 n (by omega)
          exact ⟨h2.1, by rw [h2.2]; exact h.2⟩
      clear HGD HAC
      go_wp2_with fail
      all_goals (
        go_at_call 14
        refine (HCS.out (by omega)).mono ?_
        rintro e wc ⟨va', rfl, hra, _, hbc⟩
        have HBC := Lib.hid hbc
        have HRA0 := Lib.hid hra
        have HCI := Lib.hid (ints wc _ lb (HIB.out.kept hbc) (by have := HM.out; omega))
        have HIC2 := Lib.hid (HIC.out.kept hbc)
        clear HCS HIB HIC hra hbc
        go_wp2_with fail
        go_at_call 15
        refine HCI.out.mono ?_
        rintro e wd0 ⟨vb', rfl, hrb0, _, hbd0⟩
        have HBD0 : Hid (Below w.heap.size w wd0) := HBC.out.trans (hbd0.mono HBC.out.size)
        have HRB0 := Lib.hid hrb0
        have HRA1 := Lib.hid (HRA0.out.kept hbd0)
        have HCJ := Lib.hid (ints wd0 _ lc (HIC2.out.kept hbd0) (by have := HMC.out; omega))
        clear HCI HRA0 HIC2 HBC hrb0 hbd0
        go_wp2_with fail
        go_at_call 15
        refine HCJ.out.mono ?_
        rintro e wd ⟨vc', rfl, hrc, _, hbd⟩
        have HBD : Hid (Below w.heap.size w wd) := HBD0.out.trans (hbd.mono HBD0.out.size)
        have HRB : Hid (IntRow wd vb' lb) := HRB0.out.kept hbd
        have HRC := Lib.hid hrc
        have hrb := HRB.out
        obtain ⟨aa2, ca2, rfl, hca2, hcma2, hra2⟩ := str_open (HRA1.out.kept hbd)
        obtain ⟨rb, cb, rfl, hcb2, hcmb2, _⟩ := int_open hrb
        obtain ⟨rc, cc, rfl, hcc2, hcmc2, _⟩ := int_open hrc
        have HRA := Lib.hid hra2
        rw [← HM.out] at HRB hcb2 ⊢
        rw [← HMC.out] at HRC hcc2 ⊢
        rw [← HN.out] at hca2 ⊢
        unfold maxLen at hcma2 hcmb2 hcmc2
        clear HCJ HRA1 HRB0 HBD0 hrb hrc hbd hra2
        go_wp2_with fail
        go_at_call 16
        refine (newComp wd).mono ?_
        rintro e w0 ⟨rfl, ⟨col0, bb, sv0, bs0, hC0⟩, hB0⟩
        obtain ⟨base, hbase⟩ : ∃ base, base = wd.heap.size := ⟨_, rfl⟩
        have HBW : Hid (∀ wr, Below base w0 wr → Below wd.heap.size wd wr) := fun wr h => by rw [hbase] at h; exact hB0.trans h
        have HW0 : Hid (base ≤ w0.heap.size) := by unfold Hid; rw [hbase]; exact hB0.size
        rw [← hbase] at hC0 ⊢
        have HL0 := Lib.hid (LB.start hC0 la lb (bodyOf lc))
        have HFIN : Hid (∀ wr, Below base w0 wr → Below w.heap.size w wr) := fun wr h => HBD.out.trans ((HBW.out _ h).mono HBD.out.size)
        clear hC0 hB0 hbase HBD
        obtain ⟨T, hT⟩ : ∃ T, T = y := ⟨_, rfl⟩
        rw [← hT] at HT hy ⊢
        clear hT hjb
        go_wp2_with fail
        go_loopw [10] (fun i wr => ∃ k : Nat, k ≤ n ∧ i = .int .i64 k ∧ Hid (LB base w0 col0 base bb sv0 bs0 [⟨1, [], []⟩] 2 la lb (bodyOf lc) k wr)) (fun i _ => n - (intOf i).toNat)
        case atStart => exact ⟨0, Nat.zero_le _, rfl, HL0⟩
        case round =>
          obtain ⟨k, hk, rfl, HL⟩ := hrel
          clear HL0
          by_cases hlt : k < n
          · obtain ⟨s, hs⟩ : ∃ s, la[k]? = some s := ⟨_, List.getElem?_eq_getElem (by have := HN.out; omega)⟩
            obtain ⟨x2, rfl, c0, _⟩ := HRA.out k s hs
            have c1 := cell_kept (HBW.out _ (HL.out.below HW0.out)) c0
            have HSTEP : Hid (∀ d : Nat, Calls Try.prog 17 #[.pointer (some ⟨base, 0, none⟩), .string s, .int .i64 (lb.getD k 0), .int .i64 ((bodyOf lc k : Nat) : Int)] (wr.drewN d) fun e w' => e = .returned (.tuple #[]) ∧ LB base w0 col0 base bb sv0 bs0 [⟨1, [], []⟩] 2 la lb (bodyOf lc) (k + 1) w') := by
              unfold Hid; intro d
              exact LB.step (HL.out.drew d) s hs (HSZ.out k s (by have := HN.out; omega) hs) (by omega) (by rw [start_tot]; have := (HT.out.1.body hlt).2; omega) (HT.out.1.body hlt).1 HW0.out
            have HAT : Hid (∀ d : Nat, Calls Try.prog 18 #[.slice rb m cb, .int .i64 k] (wr.drewN d) fun e w' => e = .returned (.int .i64 (lb.getD k 0)) ∧ w' = wr.drewN d) := by
              unfold Hid; intro d
              exact atD wr _ lb (HRB.out.kept (HBW.out _ (HL.out.below HW0.out))) k d
            have HAU : Hid (∀ d : Nat, Calls Try.prog 18 #[.slice rc mc cc, .int .i64 k] (wr.drewN d) fun e w' => e = .returned (.int .i64 ((bodyOf lc k : Nat) : Int)) ∧ w' = wr.drewN d) := by
              unfold Hid; intro d
              have h := atD wr _ lc (HRC.out.kept (HBW.out _ (HL.out.below HW0.out))) k d
              rw [HT.out.1.nat hlt] at h; exact h
            clear hs c0 HL
            go_wp2_with fail
            go_still_tail 11, (by kernel_rfl)
            still_call (HAT.out _)
            repeat still_step
            still_call (HAU.out _)
            refine wpStill_nil ?_
            go_wp2_with fail
            go_at_call 17
            refine (HSTEP.out _).mono ?_
            rintro e w2 ⟨rfl, hL⟩
            have HL2 := Lib.hid hL
            clear hL HSTEP HAT HAU
            go_wp2_with fail
            refine ⟨⟨k + 1, by omega, by go_num, HL2⟩, ?_⟩
            simp [intOf] <;> omega
          · obtain rfl : k = n := by omega
            have hF := HFIN.out _ (HL.out.below HW0.out)
            have HF := Lib.hid hF
            have HRA2 : Hid (∀ (j : Nat) (s : ByteArray), la[j]? = some s → ∃ x, aa2 = some x ∧ wr.cell? (x.add j) = some (.string s)) := by
              unfold Hid; intro j s hs
              obtain ⟨x, h1, h2, _⟩ := HRA.out j s hs
              exact ⟨x, h1, cell_kept (HBW.out _ (HL.out.below HW0.out)) h2⟩
            have HRB2 := Lib.hid (HRB.out.kept (HBW.out _ (HL.out.below HW0.out)))
            have HRC2 := Lib.hid (HRC.out.kept (HBW.out _ (HL.out.below HW0.out)))
            obtain ⟨col, ps, hN, hA, cv, hC, hD⟩ := HL.out
            obtain ⟨vv, fv, ps', fs, hS⟩ := hC.bi rfl
            have h7 : wr.cell? ⟨base, 7, none⟩ = some (.pointer (some ⟨bb, 0, none⟩)) := by rw [hC.blk.cell]; rfl
            have h5 : wr.cell? ⟨base, 5, none⟩ = some cv := by rw [hC.blk.cell]; rfl
            have HLK : Hid (∀ (d : Nat) (nm : ByteArray) (ac : Int), Calls Try.prog 22 #[.pointer (some ⟨base, 0, none⟩), .string nm, .int .i64 ac] (wr.drewN d) fun e w' => LookB (bfuncs la lb (bodyOf lc) k) fs nm ac (wr.drewN d) e ∧ wr.drewN d = w') := fun d nm ac => by
              have hu : Upd (fun _ => False) wr (wr.drewN d) := (Upd.refl _ _).drewN d
              exact zlookB (w := wr.drewN d) (col := col) h7 (hS.step (col' := col) hu (fun _ h => h.elim) (fun _ _ => rfl)) nm ac (by rw [bfuncs_len]; omega)
            have HOP : Hid (∀ (j : Nat) (x : Int × Value), (bcodes (bodyOf lc) k)[j]? = some x → Calls Try.prog 20 #[.pointer (some ⟨base, 0, none⟩), .int .i64 j] wr fun e w' => e = .returned (.int .i64 x.1) ∧ wr = w') := fun j x hx => codeOp h5 hD hA j x hx
            have HIN : Hid (∀ (j q : Nat), (bcodes (bodyOf lc) k)[j]? = some (jump q) → Calls Try.prog 21 #[.pointer (some ⟨base, 0, none⟩), .int .i64 j] wr fun e w' => e = .returned (.tuple #[.int .i64 q, .bool true]) ∧ wr = w') := fun j q hx => codeInt h5 hD hA j q hx
            have HLN : Hid (Calls Try.prog 19 #[.pointer (some ⟨base, 0, none⟩)] wr fun e w' => e = .returned (.int .i64 ((k : Int) + T)) ∧ wr = w') := by
              have hlen : ps.length = k + T := by rw [hD.len, bcodes_len, start_tot, HT.out.2]
              obtain ⟨ca', cc', e5⟩ := slice_form hD.row
              rw [e5] at h5
              have h := codesLen wr base _ _ _ h5
              rw [hlen] at h
              rw [Int.natCast_add] at h; exact h
            clear HL hN hA hC hD hS h7 h5 hF HRA HRB HRC HBW HFIN HW0 HSZ hk hlt
            go_wp2_with fail
            go_at_call 19
            refine HLN.out.mono ?_
            rintro e w5 ⟨rfl, rfl⟩
            clear HLN
            go_wp2_with fail
            go_loop [11, 12, 13, 14, 15, 16, 17] (fun sl ls i _ _ _ _ => ∃ (j : Nat) (l : Int), j ≤ k ∧ i = .int .i64 j ∧ sl = .int .i64 ((lay.start (bodyOf lc) j : Nat) : Int) ∧ ls = .int .i64 l ∧ (j = 0 ∨ ∃ i0, j = i0 + 1 ∧ l = (lay.start (bodyOf lc) i0 : Nat))) (fun _ _ i _ _ _ _ => k - (intOf i).toNat)
            case atStart => exact ⟨0, -1, Nat.zero_le _, rfl, rfl, rfl, .inl rfl⟩
            case round =>
              obtain ⟨j, l, hjk, rfl, rfl, rfl, hl⟩ := hrel
              by_cases hjl : j < k
              · have HB1 := Lib.hid (HOP.out _ _ (jump_at (bodyOf lc) hjl))
                have HB2 := Lib.hid (HIN.out _ _ (jump_at (bodyOf lc) hjl))
                have hst : lay.start (bodyOf lc) j ≤ 1048576 := by rw [start_tot]; have := (HT.out.1.body hjl).2; omega
                have hbk := (HT.out.1.body hjl).1
                have hnx : lay.start (bodyOf lc) (j + 1) = lay.start (bodyOf lc) j + 1 + bodyOf lc j := rfl
                have HNOP : Hid (∀ i : Nat, 1 ≤ i → i ≤ bodyOf lc j → Calls Try.prog 20 #[.pointer (some ⟨base, 0, none⟩), .int .i64 (((lay.start (bodyOf lc) j : Nat) : Int) + i)] wr fun e w' => e = .returned (.int .i64 0) ∧ wr = w') := fun i h1 h2 => by
                  have h := HOP.out _ _ (nop_at (bodyOf lc) h1 h2 hjl)
                  simpa [nop] using h
                have HZA : Hid (Calls Try.prog 18 #[.slice rc mc cc, .int .i64 j] wr fun e w' => e = .returned (.int .i64 ((bodyOf lc j : Nat) : Int)) ∧ wr = w') := by
                  have h := at'.zzAt wr _ lc HRC2.out j
                  rw [HT.out.1.nat hjl] at h; exact h
                simp only [jump] at HB1
                obtain ⟨S, hS⟩ : ∃ S, S = lay.start (bodyOf lc) j := ⟨_, rfl⟩
                obtain ⟨b, hb⟩ : ∃ b, b = bodyOf lc j := ⟨_, rfl⟩
                rw [← hS, ← hb] at hnx HB2 HNOP
                rw [← hS] at hst HB1 ⊢
                rw [← hb] at hbk HZA
                have HSS := Lib.hid hS
                have hB2 : Hid (Calls Try.prog 21 #[.pointer (some ⟨base, 0, none⟩), .int .i64 S] wr fun e w' => e = .returned (.tuple #[.int .i64 ((S : Int) + 1 + b), .bool true]) ∧ wr = w') := by
                  have h := HB2.out
                  have e : ((S + 1 + b : Nat) : Int) = (S : Int) + 1 + b := by omega
                  rw [e] at h; exact h
                clear hS hb HB2 hl
                go_wp2_with fail
                go_at_call 18
                refine HZA.out.mono ?_
                rintro e w5 ⟨rfl, rfl⟩
                clear HZA
                go_wp2_with fail
                go_at_call 20
                refine HB1.out.mono ?_
                rintro e w5 ⟨rfl, rfl⟩
                clear HB1
                go_wp2_with fail
                go_at_call 21
                refine hB2.out.mono ?_
                rintro e w5 ⟨rfl, rfl⟩
                clear hB2
                go_wp2_with fail
                go_loop [17] (fun i => ∃ q : Nat, 1 ≤ q ∧ q ≤ b + 1 ∧ i = .int .i64 q) (fun i => b + 1 - (intOf i).toNat)
                case atStart => exact ⟨1, Nat.le_refl _, by omega, rfl⟩
                case round =>
                  obtain ⟨q, hq1, hq2, rfl⟩ := hrel
                  by_cases hqb : q ≤ b
                  · have HQ := Lib.hid (HNOP.out q hq1 hqb)
                    go_wp2_with fail
                    go_at_call 20
                    refine HQ.out.mono ?_
                    rintro e w5 ⟨rfl, rfl⟩
                    clear HQ
                    go_wp2_with fail
                    refine ⟨⟨q + 1, by omega, by omega, by go_num⟩, ?_⟩
                    simp [intOf] <;> omega
                  · clear HNOP
                    go_wp2_with fail
                    refine ⟨⟨j + 1, S, by omega, by go_num, ?_, rfl, .inr ⟨j, rfl, by rw [← HSS.out]⟩⟩, ?_⟩
                    · rw [hnx]
                      go_num
                    · simp [intOf] <;> omega
              · obtain rfl : j = k := by omega
                rcases hl with rfl | ⟨i0, hki, rfl⟩
                · go_wp2_with fail
                  go_ret
                  exact ⟨rfl, HF.out⟩
                · have hst : lay.start (bodyOf lc) i0 ≤ 1048576 := by rw [start_tot]; have := (HT.out.1.body (k := i0) (by omega)).2; omega
                  obtain ⟨nm, hnm⟩ : ∃ s, la[i0]? = some s := ⟨_, List.getElem?_eq_getElem (by have := HN.out; omega)⟩
                  obtain ⟨x2, rfl, c0⟩ := HRA2.out i0 nm hnm
                  obtain ⟨ad, had⟩ : ∃ ad, ad = lb.getD i0 0 := ⟨_, rfl⟩
                  have HZA : Hid (∀ d : Nat, Calls Try.prog 18 #[.slice rb m cb, .int .i64 i0] (wr.drewN d) fun e w' => e = .returned (.int .i64 ad) ∧ w' = wr.drewN d) := by
                    unfold Hid; intro d; rw [had]
                    exact atD wr _ lb HRB2.out i0 d
                  have HZ4 : Hid (∀ w6, Below wr.heap.size wr w6 → ∀ d : Nat, Calls Try.prog 18 #[.slice rb m cb, .int .i64 i0] (w6.drewN d) fun e w' => e = .returned (.int .i64 ad) ∧ w' = w6.drewN d) := by
                    unfold Hid; intro w6 h6 d; rw [had]
                    exact atD w6 _ lb (HRB2.out.kept h6) i0 d
                  have HLF : Hid (∀ (d : Nat) (e : Ending), LookB (bfuncs la lb (bodyOf lc) j) fs nm ad (wr.drewN d) e → ∃ p, e = .returned (.pointer (some ⟨p, 0, none⟩)) ∧ FunAt (wr.drewN d) p (nm, (lay.start (bodyOf lc) i0 : Int) + 1, ad)) := fun d e h =>
                    last_found (m := i0) (by rw [← HN.out]; exact hki) hnm had.symm (by rw [← HN.out]; exact h)
                  have hw1 : IntKind.i64.wrap ((j : Int) - 1) = i0 := by rw [IntWalk.i64_in _ (by omega)]; omega
                  obtain ⟨S, hS⟩ : ∃ S, S = lay.start (bodyOf lc) i0 := ⟨_, rfl⟩
                  rw [← hS] at HLF hst ⊢
                  have hz1 : ((j : Int) == 0) = false := beq_eq_false_iff_ne.2 (by omega)
                  have i1 : (i0 : Int) < j := by omega
                  have i2 : (0 : Int) ≤ i0 := by omega
                  clear hS hnm had HRA2 HRB2 HRC2 HOP HIN HT hki
                  go_wp2_with fail
                  go_still_tail 8, (by kernel_rfl)
                  still_call (HZA.out _)
                  refine wpStill_nil ?_
                  go_wp2_with fail
                  go_at_call 22
                  refine (HLK.out _ _ _).mono ?_
                  rintro e w5 ⟨hl, hw5⟩
                  obtain ⟨p, rfl, hfa⟩ := HLF.out _ _ hl
                  rw [hw5] at hfa
                  have c5 : w5.cell? (x2.add i0) = some (.string nm) := by rw [← hw5]; exact c0
                  have HFA : Hid (∀ d : Nat, FunAt (w5.drewN d) p (nm, (S : Int) + 1, ad)) := fun d => by unfold FunAt at hfa ⊢; exact hfa.drewN d
                  have HZ5 : Hid (∀ d : Nat, Calls Try.prog 18 #[.slice rb m cb, .int .i64 i0] (w5.drewN d) fun e w' => e = .returned (.int .i64 ad) ∧ w' = w5.drewN d) := fun d => HZ4.out w5 (by rw [← hw5]; exact ⟨rfl, rfl, rfl, Nat.le_refl _, fun _ _ => rfl⟩) d
                  have HF5 : Hid (Below w.heap.size w w5) := by unfold Hid; rw [← hw5]; exact HF.out.trans ⟨rfl, rfl, rfl, Nat.le_refl _, fun _ _ => rfl⟩
                  clear hl hfa HLK HLF hw5 HZA HZ4 c0 HF
                  go_wp2_with fail
                  go_quiet (first | (go_at_call 23; exact qt (pick.funcPc _ p _ (HFA.out _))) | (go_at_call 24; exact qt (pick.funcName _ p _ (HFA.out _))) | (go_at_call 25; exact qt (pick.funcArgcnt _ p _ (HFA.out _))) | (go_at_call 18; exact Calls.quiet_of_same (HZ5.out _)))
                  go_wp2_with fail
                  go_ret
                  exact ⟨by first | rfl | simp, HF5.out.trans ⟨rfl, rfl, rfl, Nat.le_refl _, fun _ _ => rfl⟩⟩
      )
theorem walk (a0 : Option Addr) (len0 cap0 : Nat) (z0 : List ByteArray) (a1 : Option Addr) (len1 cap1 : Nat) (z1 : List Int) (a2 : Option Addr) (len2 cap2 : Nat) (z2 : List Int) (w : World) (w0 : inp.IsStrs w a0 len0 cap0 z0) (w1 : inp.IsRow .i64 w a1 len1 cap1 z1) (w2 : inp.IsRow .i64 w a2 len2 cap2 z2) :
    Calls Try.prog 3 #[.slice a0 len0 cap0, .slice a1 len1 cap1, .slice a2 len2 cap2] w fun e w' => e = .returned (.bool true) ∧ Below w.heap.size w w' :=
  walk' _ _ _ _ _ _ w (inrow.strRow w0) (inrow.intRow w1) (inrow.intRow w2)
end Go.Proofs.Ytmfpmpbilekbgaa.fnAppendBuiltinLayout
