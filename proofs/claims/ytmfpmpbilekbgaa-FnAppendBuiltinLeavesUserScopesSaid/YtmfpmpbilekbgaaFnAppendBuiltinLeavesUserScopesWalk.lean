/- Appending builtins leaves the user scopes' answers alone. -/
import Derived.Test.YtmfpmpbilekbgaaLay
import Derived.Test.YtmfpmpbilekbgaaIn
import Derived.Test.YtmfpmpbilekbgaaGuardB
import Derived.Test.YtmfpmpbilekbgaaCopyZ
import Derived.Test.YtmfpmpbilekbgaaCount
import Derived.Test.YtmfpmpbilekbgaaPick
import Derived.Test.YtmfpmpbilekbgaaEq
import Derived.Test.YtmfpmpbilekbgaaSame
import Derived.Test.YtmfpmpbilekbgaaBuild
import Derived.Test.YtmfpmpbilekbgaaGuard37
set_option linter.unusedVariables false
namespace Go.Proofs.Ytmfpmpbilekbgaa.fnAppendBuiltinLeavesUserScopes
open Go.ChangeShapes Go.WideShapes Go.ChangeAt Go.RowKit
open upd comp grow add lookv var newc push wrap pushv lookf doors codes lazy bi45 body lookb zs guard model count copy lay plain state same

set_option maxRecDepth 100000 in
set_option maxHeartbeats 16000000 in
theorem walk' (v va vb : Value) (z0 : List zs.Zs) (la : List ByteArray) (lb : List Int) (nm : ByteArray) (w : World) (h0 : zs.ZsRow w v z0) (ha : StrRow w va la) (hb : IntRow w vb lb) (hnm : nm.size ≤ maxLen) :
    Calls Try.prog 7 #[v, va, vb, .string nm] w fun e w' => e = .returned (.bool true) ∧ Below w.heap.size w w' := by
  have HG := Lib.hid (g37 w v va vb z0 la lb nm h0 ha hb hnm)
  have HSB := Lib.hid (strsBytes w va la ha)
  have HZB := Lib.hid (scopesBytes w v z0 h0)
  have HAO := Lib.hid (aritiesOK w v z0 h0)
  have HCP := Lib.hid (copyz.zs w v z0 h0)
  have HCS : Hid (la.length ≤ 2097152 → ∀ w1, Below w.heap.size w w1 → Calls Try.prog 14 #[va] w1 (CopyS w1 la)) := fun h w1 hb1 => strs w1 va la (ha.kept hb1) h
  have HIB := Lib.hid hb
  obtain ⟨az, cz, rfl, hcz, hczm, _⟩ := zs_open h0
  obtain ⟨aa, ca, rfl, hca, hcma, _⟩ := str_open ha
  obtain ⟨ab, cb0, rfl, hcb, hcmb, _⟩ := int_open hb
  have HNN := Lib.hid (nonNeg w _ lb la.length hb)
  obtain ⟨n0, hn0⟩ : ∃ n0, n0 = z0.length := ⟨_, rfl⟩
  obtain ⟨n, hn⟩ : ∃ n, n = la.length := ⟨_, rfl⟩
  obtain ⟨m, hm⟩ : ∃ m, m = lb.length := ⟨_, rfl⟩
  have HN0 := Lib.hid hn0
  have HN := Lib.hid hn
  have HM := Lib.hid hm
  rw [← hn0, ← hn, ← hm] at HG
  rw [← hn, ← hm] at HNN
  rw [← hm] at HIB hcb ⊢
  rw [← hn] at HSB HCS hca ⊢
  rw [← hn0] at HZB HAO HCP hcz ⊢
  unfold maxLen at hnm hcma hcmb hczm
  clear h0 ha hb hn0 hn hm
  go_enter Try.func7, Try.ntmps7
  go_wp2_with fail
  go_at_call 37
  refine HG.out.mono ?_
  rintro e wg ⟨b, rfl, rfl, hb⟩
  cases b with
  | false =>
    clear hb HG HSB HZB HAO HCP HCS HIB HNN
    go_wp2_with fail
    (go_ret; exact ⟨rfl, Below.refl _ _⟩)
  | true =>
  obtain ⟨hD, hsh, ⟨_, hsz⟩, _, hz⟩ := hb rfl
  have HSZ := Lib.hid hsz
  have HSH : Hid (ShortTo z0 z0.length) := by rw [← HN0.out]; exact hsh
  clear hb hsz hsh HG
  by_cases hl0 : 65536 < n0
  · clear HSB HZB HAO HCP HCS HIB HNN HSH HSZ
    go_wp2_with fail
    all_goals (go_ret; exact ⟨rfl, Below.refl _ _⟩)
  by_cases hl1 : 65536 < n
  · clear HSB HZB HAO HCP HCS HIB HNN HSH HSZ
    go_wp2_with fail
    all_goals (go_ret; exact ⟨rfl, Below.refl _ _⟩)
  by_cases hl2 : 65536 < m
  · clear HSB HZB HAO HCP HCS HIB HNN HSH HSZ
    go_wp2_with fail
    all_goals (go_ret; exact ⟨rfl, Below.refl _ _⟩)
  by_cases hl3 : 65536 < nm.size
  · clear HSB HZB HAO HCP HCS HIB HNN HSH HSZ
    go_wp2_with fail
    all_goals (go_ret; exact ⟨rfl, Below.refl _ _⟩)
  by_cases hz0 : n0 = 0
  · subst hz0
    clear HCP HAO HNN HCS HIB
    go_wp2_with fail
    go_at_call 27
    refine HZB.out.mono ?_
    rintro e wg ⟨q, rfl, rfl⟩
    clear HZB
    go_wp2_with fail
    go_at_call 12
    refine HSB.out.mono ?_
    rintro e wg ⟨q2, rfl, rfl⟩
    clear HSB
    go_wp2_with fail
    all_goals (go_ret; exact ⟨rfl, Below.refl _ _⟩)
  have hz1 : ((n0 : Int) == 0) = false := beq_eq_false_iff_ne.2 (by omega)
  go_wp2_with fail
  go_at_call 27
  refine HZB.out.mono ?_
  rintro e wg ⟨q, rfl, rfl⟩
  clear HZB
  go_wp2_with fail
  go_at_call 12
  refine HSB.out.mono ?_
  rintro e wg ⟨q2, rfl, rfl⟩
  clear HSB
  go_wp2_with fail
  all_goals first | (go_ret; exact ⟨rfl, Below.refl _ _⟩) | skip
  go_at_call 28
  refine HAO.out.mono ?_
  rintro e wg ⟨b, rfl, rfl⟩
  clear HAO
  cases b with
  | false =>
    clear HCP HNN HCS HIB HSZ HSH
    go_wp2_with fail
    (go_ret; exact ⟨rfl, Below.refl _ _⟩)
  | true =>
  go_wp2_with fail
  go_at_call 13
  refine HNN.out.mono ?_
  rintro e wg ⟨b, rfl, rfl⟩
  clear HNN
  cases b with
  | false =>
    clear HCP HCS HIB HSZ HSH
    go_wp2_with fail
    (go_ret; exact ⟨rfl, Below.refl _ _⟩)
  | true =>
  go_wp2_with fail
  go_at_call 29
  refine (HCP.out (by omega) (fun k z hz => by obtain ⟨x1, x2, x3⟩ := HSH.out k z (List.getElem?_eq_some_iff.1 hz).1 hz; exact ⟨by omega, by omega, by omega⟩)).mono ?_
  rintro e wc0 ⟨v', rfl, hzr, hbz⟩
  have HBZ := Lib.hid hbz
  have HZR := Lib.hid hzr
  have HCS2 := Lib.hid (HCS.out (by omega) wc0 hbz)
  have HIB2 := Lib.hid (HIB.out.kept hbz)
  clear HCP HCS HIB hbz hzr
  go_wp2_with fail
  go_at_call 14
  refine HCS2.out.mono ?_
  rintro e wc ⟨va', rfl, hra, _, hbc⟩
  have HBC : Hid (Below w.heap.size w wc) := HBZ.out.trans (hbc.mono HBZ.out.size)
  have HRA0 := Lib.hid hra
  have HZR2 := Lib.hid (HZR.out.kept hbc)
  have HCI := Lib.hid (ints wc _ lb (HIB2.out.kept hbc) (by have := HM.out; omega))
  clear HCS2 HIB2 HBZ HZR hra hbc
  go_wp2_with fail
  go_at_call 15
  refine HCI.out.mono ?_
  rintro e wd ⟨vb', rfl, hrb, _, hbd⟩
  have HRB := Lib.hid hrb
  have HBD : Hid (Below w.heap.size w wd) := HBC.out.trans (hbd.mono HBC.out.size)
  obtain ⟨aa2, ca2, rfl, hca2, hcma2, hra2⟩ := str_open (HRA0.out.kept hbd)
  obtain ⟨rb, cb, rfl, hcb2, hcmb2, _⟩ := int_open hrb
  have HRA := Lib.hid hra2
  rw [← HM.out] at HRB hcb2 ⊢
  rw [← HN.out] at hca2 ⊢
  unfold maxLen at hcma2 hcmb2
  have HBU := Lib.hid (build.build wd v' z0 (HZR2.out.kept hbd) (by rw [← HN0.out]; exact hD) HSH.out (by rw [← HN0.out]; omega))
  rw [← HN0.out] at HBU
  obtain ⟨base, hbase⟩ : ∃ base, base = wd.heap.size := ⟨_, rfl⟩
  rw [← hbase] at HBU
  have HBS := Lib.hid hbase
  clear HCI HRA0 HBC hrb hbd hra2 HZR2 hbase
  go_wp2_with fail
  go_at_call 30
  refine HBU.out.mono ?_
  rintro e wb ⟨rfl, ⟨col, bb, sv0, bs0, hC⟩, hB⟩
  have HVL : Hid (∀ (k : Nat) (s : Sc), (scs z0 n0)[k]? = some s → s.vars.length ≤ 2097152 ∧ s.funcs.length ≤ 2097152) := by unfold Hid; rw [HN0.out]; exact scs_small z0 HSH.out
  have HLS : Hid ((scs z0 n0).length ≤ 2097152) := by unfold Hid; rw [scs_len]; omega
  have HBW0 : Hid (∀ wr, Below base wb wr → Below wd.heap.size wd wr) := fun wr h => by rw [HBS.out] at h hB; exact hB.trans h
  have HWB : Hid (base ≤ wb.heap.size) := by unfold Hid; have := hB.size; have := HBS.out; omega
  have HLK := Lib.hid (zlook hC nm HLS.out (fun k s h => (HVL.out k s h).1))
  have HCC := Lib.hid hC
  clear HBU hC hB HSH
  go_wp2_with fail
  go_at_call 32
  refine HLK.out.mono ?_
  rintro e wl ⟨hl, hbl⟩
  obtain ⟨ia, ib, er, rfl, hres⟩ := look_parts hl
  have HRES := Lib.hid hres
  obtain ⟨W, hW⟩ : ∃ W, W = wl.alloc (Obj.cells #[.int .i64 ia, .int .i64 ib] 50) := ⟨_, rfl⟩
  obtain ⟨g, hg⟩ : ∃ g, g = wl.heap.size := ⟨_, rfl⟩
  obtain ⟨col0, hcol0⟩ : ∃ col0, col0 = cut col wb.heap.size := ⟨_, rfl⟩
  have hu : Upd (fun _ => False) wb W := by rw [hW]; exact (Upd.of_below hbl).alloc _
  have HC1 : Hid (CompAt base W col0 base (.slice none 0 0) bb sv0 bs0 ⟨0, [], []⟩ (scs z0 n0) ((n0 : Int) + 1)) := by
    unfold Hid; rw [hcol0]; exact HCC.out.step hu (fun _ h => h.elim) (fun k hk => cut_old _ _ _ hk)
  have HGB : Hid (Blk W g #[.int .i64 ia, .int .i64 ib] 50 ∧ col0 g = 0) := by
    refine ⟨by rw [hW, hg]; exact Blk.new _ _ _, ?_⟩
    rw [hcol0, hg]; exact cut_new _ _ _ hbl.size
  have HBW1 : Hid (∀ wr, Below base W wr → Below wd.heap.size wd wr) := fun wr h => HBW0.out wr ((hu.below HWB.out (fun _ h => h.elim)).trans h)
  have HW1 : Hid (base ≤ W.heap.size) := by unfold Hid; have := hu.size; have := HWB.out; omega
  have hW' := hW.symm
  have hg' := hg.symm
  clear HLK hl hres hbl hW hg hcol0 hu HCC HBW0 HWB
  by_cases hs0 : nm.size = 0
  · have hs1 : ((nm.size : Int) == 0) = true := by rw [hs0]; rfl
    have hs2 : ¬ (0 : Int) < nm.size := by omega
    have HBW := HBW1
    have HW0 := HW1
    obtain ⟨w0, hw0⟩ : ∃ w0, w0 = W := ⟨_, rfl⟩
    have HL0 : Hid (LB base w0 col0 base bb sv0 bs0 (scs z0 n0) ((n0 : Int) + 1) la lb (fun _ => 0) 0 w0) := by rw [hw0]; exact LB.start HC1.out la lb _
    have HFIN : Hid (∀ wr, Below base w0 wr → Below w.heap.size w wr) := fun wr h => by rw [hw0] at h; exact HBD.out.trans ((HBW.out _ h).mono HBD.out.size)
    have HG0 : Hid (Blk w0 g #[.int .i64 ia, .int .i64 ib] 50 ∧ col0 g = 0) := by rw [hw0]; exact HGB.out
    rw [← hw0] at hW' HBW HW0
    clear hw0 HC1 HGB HBW1 HW1 HBD
    go_wp2_with fail
    clear hW' hg'
    go_loopw [14] (fun i wr => ∃ k : Nat, k ≤ n ∧ i = .int .i64 k ∧ Hid (LB base w0 col0 base bb sv0 bs0 (scs z0 n0) ((n0 : Int) + 1) la lb (fun _ => 0) k wr)) (fun i _ => n - (intOf i).toNat)
    case atStart => exact ⟨0, Nat.zero_le _, rfl, HL0⟩
    case round =>
      obtain ⟨k, hk, rfl, HL⟩ := hrel
      clear HL0
      by_cases hlt : k < n
      · obtain ⟨s, hs⟩ : ∃ s, la[k]? = some s := ⟨_, List.getElem?_eq_getElem (by have := HN.out; omega)⟩
        obtain ⟨x2, rfl, c0, _⟩ := HRA.out k s hs
        have c1 := cell_kept (HBW.out _ (HL.out.below HW0.out)) c0
        have HSTEP : Hid (∀ d : Nat, Calls Try.prog 17 #[.pointer (some ⟨base, 0, none⟩), .string s, .int .i64 (lb.getD k 0), .int .i64 0] (wr.drewN d) fun e w' => e = .returned (.tuple #[]) ∧ LB base w0 col0 base bb sv0 bs0 (scs z0 n0) ((n0 : Int) + 1) la lb (fun _ => 0) (k + 1) w') := by
          unfold Hid; intro d
          exact LB.step (HL.out.drew d) s hs (HSZ.out k s (by have := HN.out; omega) hs) (by omega) (by rw [start_zero]; omega) (Nat.zero_le _) HW0.out
        have HAT : Hid (∀ d : Nat, Calls Try.prog 18 #[.slice rb m cb, .int .i64 k] (wr.drewN d) fun e w' => e = .returned (.int .i64 (lb.getD k 0)) ∧ w' = wr.drewN d) := by
          unfold Hid; intro d
          exact atD wr _ lb (HRB.out.kept (HBW.out _ (HL.out.below HW0.out))) k d
        clear hs c0 HL
        go_wp2_with fail
        go_still_tail 8, (by kernel_rfl)
        still_call (HAT.out _)
        refine wpStill_nil ?_
        go_wp2_with fail
        go_at_call 17
        refine (HSTEP.out _).mono ?_
        rintro e w2 ⟨rfl, hL⟩
        have HL2 := Lib.hid hL
        clear hL HSTEP HAT
        go_wp2_with fail
        refine ⟨⟨k + 1, by omega, by go_num, HL2⟩, ?_⟩
        simp [intOf] <;> omega
      · obtain rfl : k = n := by omega
        obtain ⟨col, ps, hN, hA, cv, hC2, hD2⟩ := HL.out
        have HFR := Lib.hid (HFIN.out _ (HL.out.below HW0.out))
        have HLK := Lib.hid (zlook hC2 nm HLS.out (fun k s h => (HVL.out k s h).1))
        have HNR := Lib.hid hN
        have HCR := Lib.hid hC2
        have HGR := Lib.hid (hN.keep HG0.out.1 HG0.out.2)
        clear HL hN hA hC2 hD2 HRA HRB HBW HFIN HSZ hk hlt HG0
        go_wp2_with fail
        go_at_call 32
        refine HLK.out.mono ?_
        rintro e wl2 ⟨hl, hbl⟩
        obtain ⟨ia2, ib2, er2, rfl, hres2⟩ := look_parts hl
        obtain ⟨rfl, rfl, her⟩ := res_same HRES.out hres2
        obtain ⟨W3, hW3⟩ : ∃ W3, W3 = wl2.alloc (Obj.cells #[.int .i64 ia, .int .i64 ib] 50) := ⟨_, rfl⟩
        obtain ⟨r, hr⟩ : ∃ r, r = wl2.heap.size := ⟨_, rfl⟩
        have hu3 : Upd (fun _ => False) wr W3 := by rw [hW3]; exact (Upd.of_below hbl).alloc _
        have HU3 := Lib.hid hu3
        have hG3 : Blk W3 g #[.int .i64 ia, .int .i64 ib] 50 := HGR.out.1.kept hu3 id
        have hR3 : Blk W3 r #[.int .i64 ia, .int .i64 ib] 50 := by rw [hW3, hr]; exact Blk.new _ _ _
        have g0 : W3.cell? ⟨g, 0, none⟩ = some (.int .i64 ia) := by rw [hG3.cell]; rfl
        have g1 : W3.cell? ⟨g, 1, none⟩ = some (.int .i64 ib) := by rw [hG3.cell]; rfl
        have r0 : W3.cell? ⟨r, 0, none⟩ = some (.int .i64 ia) := by rw [hR3.cell]; rfl
        have r1 : W3.cell? ⟨r, 1, none⟩ = some (.int .i64 ib) := by rw [hR3.cell]; rfl
        have HF3 : Hid (Below w.heap.size w W3) := HFR.out.trans (hu3.below HFR.out.size (fun _ h => h.elim))
        have hW3' := hW3.symm
        have hr' := hr.symm
        have heq := eq'.eq50
        clear HLK hl hres2 hbl hW3 hr hu3 hG3 hR3 HRES HFR HGR
        rcases her with ⟨rfl, rfl⟩ | ⟨⟨t1, v1, rfl⟩, ⟨t2, v2, rfl⟩⟩
        all_goals go_wp2_with fail
        all_goals clear hW3' hr'
        all_goals go_quiet (fail)
        all_goals go_wp2_with fail
        all_goals go_ret
        all_goals exact ⟨rfl, HF3.out.trans ⟨rfl, rfl, rfl, Nat.le_refl _, fun _ _ => rfl⟩⟩
  · have hp0 : 0 < nm.size := by omega
    have hs1 : ((nm.size : Int) == 0) = false := beq_eq_false_iff_ne.2 (by omega)
    have hs2 : (0 : Int) < nm.size := by omega
    obtain ⟨isF, hisF⟩ : ∃ b, (((nm[0]'hp0).toNat : Int) != 36) = b := ⟨_, rfl⟩
    have HLG := Lib.hid (zlookG' HC1.out nm HLS.out HVL.out hp0 isF hisF)
    have HISF : Hid ((((nm[0]'hp0).toNat : Int) != 36) = isF) := hisF
    clear hisF
    go_wp2_with fail
    clear hW' hg'
    go_at_call 31
    refine HLG.out.mono ?_
    rintro e w0 ⟨fa0, fb0, d0, rfl, hw0, hlg⟩
    have HLG0 := Lib.hid hlg
    have hb0 : Below base W w0 := by rw [hw0]; exact ⟨rfl, rfl, rfl, Nat.le_refl _, fun _ _ => rfl⟩
    have HU0 : Hid (Upd (fun _ => False) W w0) := by unfold Hid; rw [hw0]; exact (Upd.refl _ _).drewN _
    have HBW : Hid (∀ wr, Below base w0 wr → Below wd.heap.size wd wr) := fun wr h => HBW1.out wr (hb0.trans h)
    have HW0 : Hid (base ≤ w0.heap.size) := by unfold Hid; rw [hw0]; exact HW1.out
    have HC0 : Hid (CompAt base w0 col0 base (.slice none 0 0) bb sv0 bs0 ⟨0, [], []⟩ (scs z0 n0) ((n0 : Int) + 1)) := HC1.out.step HU0.out (fun _ h => h.elim) (fun _ _ => rfl)
    have HL0 : Hid (LB base w0 col0 base bb sv0 bs0 (scs z0 n0) ((n0 : Int) + 1) la lb (fun _ => 0) 0 w0) := LB.start HC0.out la lb _
    have HFIN : Hid (∀ wr, Below base w0 wr → Below w.heap.size w wr) := fun wr h => HBD.out.trans ((HBW.out _ h).mono HBD.out.size)
    have HG0 : Hid (Blk w0 g #[.int .i64 ia, .int .i64 ib] 50 ∧ col0 g = 0) := ⟨HGB.out.1.kept HU0.out id, HGB.out.2⟩
    have HC8 : Hid (W.cell? ⟨base, 8, none⟩ = some sv0) := by unfold Hid; rw [HC1.out.blk.cell]; rfl
    clear hw0 hlg hb0 HGB HBW1 HW1 HBD HLG HC1
    go_wp2_with fail
    go_loopw [14] (fun i wr => ∃ k : Nat, k ≤ n ∧ i = .int .i64 k ∧ Hid (LB base w0 col0 base bb sv0 bs0 (scs z0 n0) ((n0 : Int) + 1) la lb (fun _ => 0) k wr)) (fun i _ => n - (intOf i).toNat)
    case atStart => exact ⟨0, Nat.zero_le _, rfl, HL0⟩
    case round =>
      obtain ⟨k, hk, rfl, HL⟩ := hrel
      clear HL0
      by_cases hlt : k < n
      · obtain ⟨s, hs⟩ : ∃ s, la[k]? = some s := ⟨_, List.getElem?_eq_getElem (by have := HN.out; omega)⟩
        obtain ⟨x2, rfl, c0, _⟩ := HRA.out k s hs
        have c1 := cell_kept (HBW.out _ (HL.out.below HW0.out)) c0
        have HSTEP : Hid (∀ d : Nat, Calls Try.prog 17 #[.pointer (some ⟨base, 0, none⟩), .string s, .int .i64 (lb.getD k 0), .int .i64 0] (wr.drewN d) fun e w' => e = .returned (.tuple #[]) ∧ LB base w0 col0 base bb sv0 bs0 (scs z0 n0) ((n0 : Int) + 1) la lb (fun _ => 0) (k + 1) w') := by
          unfold Hid; intro d
          exact LB.step (HL.out.drew d) s hs (HSZ.out k s (by have := HN.out; omega) hs) (by omega) (by rw [start_zero]; omega) (Nat.zero_le _) HW0.out
        have HAT : Hid (∀ d : Nat, Calls Try.prog 18 #[.slice rb m cb, .int .i64 k] (wr.drewN d) fun e w' => e = .returned (.int .i64 (lb.getD k 0)) ∧ w' = wr.drewN d) := by
          unfold Hid; intro d
          exact atD wr _ lb (HRB.out.kept (HBW.out _ (HL.out.below HW0.out))) k d
        clear hs c0 HL
        go_wp2_with fail
        go_still_tail 8, (by kernel_rfl)
        still_call (HAT.out _)
        refine wpStill_nil ?_
        go_wp2_with fail
        go_at_call 17
        refine (HSTEP.out _).mono ?_
        rintro e w2 ⟨rfl, hL⟩
        have HL2 := Lib.hid hL
        clear hL HSTEP HAT
        go_wp2_with fail
        refine ⟨⟨k + 1, by omega, by go_num, HL2⟩, ?_⟩
        simp [intOf] <;> omega
      · obtain rfl : k = n := by omega
        obtain ⟨col, ps, hN, hA, cv, hC2, hD2⟩ := HL.out
        have HFR := Lib.hid (HFIN.out _ (HL.out.below HW0.out))
        have HLK := Lib.hid (zlook hC2 nm HLS.out (fun k s h => (HVL.out k s h).1))
        have HNR := Lib.hid hN
        have HCR := Lib.hid hC2
        have HGR := Lib.hid (hN.keep HG0.out.1 HG0.out.2)
        clear HL hN hA hC2 hD2 HRA HRB HBW HFIN HSZ hk hlt HG0
        go_wp2_with fail
        go_at_call 32
        refine HLK.out.mono ?_
        rintro e wl2 ⟨hl, hbl⟩
        obtain ⟨ia2, ib2, er2, rfl, hres2⟩ := look_parts hl
        obtain ⟨rfl, rfl, her⟩ := res_same HRES.out hres2
        obtain ⟨W3, hW3⟩ : ∃ W3, W3 = wl2.alloc (Obj.cells #[.int .i64 ia, .int .i64 ib] 50) := ⟨_, rfl⟩
        obtain ⟨r, hr⟩ : ∃ r, r = wl2.heap.size := ⟨_, rfl⟩
        have hu3 : Upd (fun _ => False) wr W3 := by rw [hW3]; exact (Upd.of_below hbl).alloc _
        have HU3 := Lib.hid hu3
        have hG3 : Blk W3 g #[.int .i64 ia, .int .i64 ib] 50 := HGR.out.1.kept hu3 id
        have hR3 : Blk W3 r #[.int .i64 ia, .int .i64 ib] 50 := by rw [hW3, hr]; exact Blk.new _ _ _
        have g0 : W3.cell? ⟨g, 0, none⟩ = some (.int .i64 ia) := by rw [hG3.cell]; rfl
        have g1 : W3.cell? ⟨g, 1, none⟩ = some (.int .i64 ib) := by rw [hG3.cell]; rfl
        have r0 : W3.cell? ⟨r, 0, none⟩ = some (.int .i64 ia) := by rw [hR3.cell]; rfl
        have r1 : W3.cell? ⟨r, 1, none⟩ = some (.int .i64 ib) := by rw [hR3.cell]; rfl
        have HF3 : Hid (Below w.heap.size w W3) := HFR.out.trans (hu3.below HFR.out.size (fun _ h => h.elim))
        have hW3' := hW3.symm
        have hr' := hr.symm
        have heq := eq'.eq50
        clear HLK hl hres2 hbl hW3 hr hu3 hG3 hR3 HRES HFR HGR
        rcases her with ⟨rfl, rfl⟩ | ⟨⟨t1, v1, rfl⟩, ⟨t2, v2, rfl⟩⟩
        all_goals go_wp2_with fail
        all_goals clear hW3' hr'
        all_goals go_quiet (fail)
        all_goals go_wp2_with fail
        all_goals (
          have hC3 : CompAt base (W3.drewN nq) (cut col wr.heap.size) base cv bb sv0 bs0 _ (scs z0 n0) ((n0 : Int) + 1) := HCR.out.step (HU3.out.drewN nq) (fun _ h => h.elim) (fun k hk => cut_old _ _ _ hk)
          have HLG3 := Lib.hid (zlookG' hC3 nm HLS.out HVL.out hp0 isF HISF.out)
          have HWY : Hid (∀ f k j p, lookf.Way W col0 base f k j p → ∃ col2, lookf.Way (W3.drewN nq) col2 base f k j p) := by
            intro f k j p hy
            have hu : Upd (fun k => base ≤ k ∧ (col0 k = 1 ∨ col0 k = 3 ∨ col0 k = 5 ∨ col0 k = 8)) W (W3.drewN nq) := ((HU0.out.mono (fun _ _ h => h.elim)).trans HNR.out.2).trans ((HU3.out.drewN nq).mono (fun _ _ h => h.elim))
            refine ⟨col0, hy.kept hu (fun t ht _ => by have := ht.2; omega) ?_⟩
            rw [HC8.out, hC3.blk.cell]; rfl
          clear hC3 HCR HU3 HU0 HNR HC8
          go_at_call 31
          refine HLG3.out.mono ?_
          rintro e w9 ⟨fa1, fb1, d1, rfl, hw9, hlg⟩
          have hsame := look_same HLG0.out hlg HWY.out
          simp only [Ending.returned.injEq, Value.tuple.injEq, Array.mk.injEq, List.cons.injEq, Value.pointer.injEq, and_true] at hsame
          obtain ⟨rfl, rfl⟩ := hsame
          have HF9 : Hid (Below w.heap.size w w9) := by unfold Hid; rw [hw9]; exact HF3.out.trans ⟨rfl, rfl, rfl, Nat.le_refl _, fun _ _ => rfl⟩
          clear HLG3 hlg hw9 HWY HLG0
          have hp37 := eq37
          have hp47 := eq47
          rcases fa0 with _ | fa0 <;> rcases fb0 with _ | fb0
          all_goals go_wp2_with fail
          all_goals go_ret
          all_goals exact ⟨by first | rfl | simp, HF9.out⟩)
theorem walk (a0 : Value) (z0 : List zs.Zs) (a1 : Option Addr) (len1 cap1 : Nat) (z1 : List ByteArray) (a2 : Option Addr) (len2 cap2 : Nat) (z2 : List Int) (a3 : ByteArray) (w : World) (w0 : zs.ZsRow w a0 z0) (w1 : inp.IsStrs w a1 len1 cap1 z1) (w2 : inp.IsRow .i64 w a2 len2 cap2 z2) (w3 : a3.size ≤ maxLen) :
    Calls Try.prog 7 #[a0, .slice a1 len1 cap1, .slice a2 len2 cap2, .string a3] w fun e w' => e = .returned (.bool true) ∧ Below w.heap.size w w' :=
  walk' _ _ _ _ _ _ a3 w w0 (inrow.strRow w1) (inrow.intRow w2) w3
end Go.Proofs.Ytmfpmpbilekbgaa.fnAppendBuiltinLeavesUserScopes
