/- lookupBuiltin answers the last builtin of that name and arity. -/
import Derived.Test.YtmfpmpbilekbgaaLay
import Derived.Test.YtmfpmpbilekbgaaIn
import Derived.Test.YtmfpmpbilekbgaaGuardB
import Derived.Test.YtmfpmpbilekbgaaCopyZ
import Derived.Test.YtmfpmpbilekbgaaCount
import Derived.Test.YtmfpmpbilekbgaaPick
import Derived.Test.YtmfpmpbilekbgaaEq
set_option linter.unusedVariables false
namespace Go.Proofs.Ytmfpmpbilekbgaa.fnLookupBuiltinMatchesModel
open Go.ChangeShapes Go.WideShapes Go.ChangeAt Go.RowKit
open upd comp grow add lookv var newc push wrap pushv lookf doors codes lazy bi45 body lookb zs guard model count copy lay

set_option maxRecDepth 100000 in
set_option maxHeartbeats 8000000 in
theorem walk' (va vb : Value) (la : List ByteArray) (lb : List Int) (nm : ByteArray) (ac : Int) (w : World) (ha : StrRow w va la) (hb : IntRow w vb lb) (hnm : nm.size ≤ maxLen) :
    Calls Try.prog 5 #[va, vb, .string nm, .int .i64 ac] w fun e w' => e = .returned (.bool true) ∧ Below w.heap.size w w' := by
  have HG := Lib.hid (g35 w va vb la lb nm ac ha hb hnm)
  have HSB := Lib.hid (strsBytes w va la ha)
  have HCS : Hid (la.length ≤ 2097152 → Calls Try.prog 14 #[va] w (CopyS w la)) := fun h => strs w va la ha h
  have HIB := Lib.hid hb
  obtain ⟨aa, ca, rfl, hca, hcma, _⟩ := str_open ha
  obtain ⟨ab, cb0, rfl, hcb, hcmb, _⟩ := int_open hb
  have HNN := Lib.hid (nonNeg w _ lb la.length hb)
  obtain ⟨n, hn⟩ : ∃ n, n = la.length := ⟨_, rfl⟩
  obtain ⟨m, hm⟩ : ∃ m, m = lb.length := ⟨_, rfl⟩
  have HN := Lib.hid hn
  have HM := Lib.hid hm
  rw [← hn, ← hm] at HG HNN
  rw [← hm] at HIB hcb ⊢
  rw [← hn] at HSB HCS hca ⊢
  unfold maxLen at hnm hcma hcmb
  clear ha hb hn hm
  go_enter Try.func5, Try.ntmps5
  go_wp2_with fail
  go_at_call 35
  refine HG.out.mono ?_
  rintro e wg ⟨b, rfl, rfl, hb⟩
  cases b with
  | false =>
    clear hb HG HSB HCS HIB HNN
    go_wp2_with fail
    (go_ret; exact ⟨rfl, Below.refl _ _⟩)
  | true =>
  obtain ⟨⟨_, hsz⟩, _, hz⟩ := hb rfl
  have HSZ := Lib.hid hsz
  clear hb hsz HG
  by_cases hl1 : 65536 < n
  · clear HSB HCS HIB HNN HSZ
    go_wp2_with fail
    all_goals (go_ret; exact ⟨rfl, Below.refl _ _⟩)
  by_cases hl2 : 65536 < m
  · clear HSB HCS HIB HNN HSZ
    go_wp2_with fail
    all_goals (go_ret; exact ⟨rfl, Below.refl _ _⟩)
  by_cases hl3 : 65536 < nm.size
  · clear HSB HCS HIB HNN HSZ
    go_wp2_with fail
    all_goals (go_ret; exact ⟨rfl, Below.refl _ _⟩)
  go_wp2_with fail
  go_at_call 12
  refine HSB.out.mono ?_
  rintro e wg ⟨q, rfl, rfl⟩
  clear HSB
  go_wp2_with fail
  all_goals first | (go_ret; exact ⟨rfl, Below.refl _ _⟩) | skip
  go_at_call 13
  refine HNN.out.mono ?_
  rintro e wg ⟨b, rfl, rfl⟩
  clear HNN
  cases b with
  | false =>
    clear HCS HIB HSZ
    go_wp2_with fail
    (go_ret; exact ⟨rfl, Below.refl _ _⟩)
  | true =>
  go_wp2_with fail
  go_at_call 14
  refine (HCS.out (by omega)).mono ?_
  rintro e wc ⟨va', rfl, hra, _, hbc⟩
  have HBC := Lib.hid hbc
  have HRA0 := Lib.hid hra
  have HCI := Lib.hid (ints wc _ lb (HIB.out.kept hbc) (by have := HM.out; omega))
  clear HCS HIB hra hbc
  go_wp2_with fail
  go_at_call 15
  refine HCI.out.mono ?_
  rintro e wd ⟨vb', rfl, hrb, _, hbd⟩
  have HRB := Lib.hid hrb
  have HBD : Hid (Below w.heap.size w wd) := HBC.out.trans (hbd.mono HBC.out.size)
  obtain ⟨aa2, ca2, rfl, hca2, hcma2, hra2⟩ := str_open (HRA0.out.kept hbd)
  obtain ⟨rb, cb, rfl, hcb2, hcmb2, _⟩ := int_open hrb
  have HRA := Lib.hid hra2
  rw [← HM.out] at HRB hcb2 ⊢
  rw [← HN.out] at hca2 ⊢
  unfold maxLen at hcma2 hcmb2
  clear HCI HRA0 HBC hrb hbd hra2
  go_wp2_with fail
  go_at_call 16
  refine (newComp wd).mono ?_
  rintro e w0 ⟨rfl, ⟨col0, bb, sv0, bs0, hC0⟩, hB0⟩
  obtain ⟨base, hbase⟩ : ∃ base, base = wd.heap.size := ⟨_, rfl⟩
  have HBW : Hid (∀ wr, Below base w0 wr → Below wd.heap.size wd wr) := fun wr h => by rw [hbase] at h; exact hB0.trans h
  have HW0 : Hid (base ≤ w0.heap.size) := by unfold Hid; rw [hbase]; exact hB0.size
  rw [← hbase] at hC0 ⊢
  have HL0 := Lib.hid (LB.start hC0 la lb (fun _ => 0))
  have HFIN : Hid (∀ wr, Below base w0 wr → Below w.heap.size w wr) := fun wr h => HBD.out.trans ((HBW.out _ h).mono HBD.out.size)
  clear hC0 hB0 hbase HBD
  go_wp2_with fail
  go_loopw [10] (fun i wr => ∃ k : Nat, k ≤ n ∧ i = .int .i64 k ∧ Hid (LB base w0 col0 base bb sv0 bs0 [⟨1, [], []⟩] 2 la lb (fun _ => 0) k wr)) (fun i _ => n - (intOf i).toNat)
  case atStart => exact ⟨0, Nat.zero_le _, rfl, HL0⟩
  case round =>
    obtain ⟨k, hk, rfl, HL⟩ := hrel
    clear HL0
    by_cases hlt : k < n
    · obtain ⟨s, hs⟩ : ∃ s, la[k]? = some s := ⟨_, List.getElem?_eq_getElem (by have := HN.out; omega)⟩
      obtain ⟨x2, rfl, c0, _⟩ := HRA.out k s hs
      have c1 := cell_kept (HBW.out _ (HL.out.below HW0.out)) c0
      have HSTEP : Hid (∀ d : Nat, Calls Try.prog 17 #[.pointer (some ⟨base, 0, none⟩), .string s, .int .i64 (lb.getD k 0), .int .i64 0] (wr.drewN d) fun e w' => e = .returned (.tuple #[]) ∧ LB base w0 col0 base bb sv0 bs0 [⟨1, [], []⟩] 2 la lb (fun _ => 0) (k + 1) w') := by
        unfold Hid; intro d
        exact LB.step (HL.out.drew d) s hs (HSZ.out k s (by have := HN.out; omega) hs) (by omega) (by rw [start_zero]; omega) (Nat.zero_le _) HW0.out
      have HAT : Hid (∀ d : Nat, Calls Try.prog 18 #[.slice rb m cb, .int .i64 k] (wr.drewN d) fun e w' => e = .returned (.int .i64 (lb.getD k 0)) ∧ w' = wr.drewN d) := by
        unfold Hid; intro d
        exact atD wr _ lb (HRB.out.kept (HBW.out _ (HL.out.below HW0.out))) k d
      clear hs c0 HL
      go_wp2_with fail
      go_still_tail 8, (by kernel_rfl)
      still_call (HAT.out _)
      refine wpStill_nil ?_
      go_wp2_with fail
      go_at_call 17
      refine (HSTEP.out _).mono ?_
      rintro e w2 ⟨rfl, hL⟩
      have HL2 := Lib.hid hL
      clear hL HSTEP HAT
      go_wp2_with fail
      refine ⟨⟨k + 1, by omega, by go_num, HL2⟩, ?_⟩
      simp [intOf] <;> omega
    · obtain rfl : k = n := by omega
      have HWB0 := Lib.hid (WB.start la lb nm ac)
      obtain ⟨cvx, hCx⟩ : ∃ _ : Nat, True := ⟨0, trivial⟩
      clear hlt hk
      go_wp2_with fail
      go_loop [11, 12] (fun wt i => ∃ (j : Nat) (y : Int), j ≤ k ∧ i = .int .i64 j ∧ wt = .int .i64 y ∧ -1 ≤ y ∧ Hid (WB la lb nm ac j y)) (fun _ i => k - (intOf i).toNat)
      case atStart => exact ⟨0, -1, Nat.zero_le _, rfl, rfl, by omega, HWB0⟩
      case round =>
        obtain ⟨j, y, hj, rfl, rfl, hy, HWB⟩ := hrel
        clear HWB0
        by_cases hjl : j < k
        · obtain ⟨s, hs⟩ : ∃ s, la[j]? = some s := ⟨_, List.getElem?_eq_getElem (by have := HN.out; omega)⟩
          obtain ⟨x2, rfl, c0, _⟩ := HRA.out j s hs
          have c1 := cell_kept (HBW.out _ (HL.out.below HW0.out)) c0
          obtain ⟨ad, had⟩ : ∃ ad, ad = lb.getD j 0 := ⟨_, rfl⟩
          have HZA := Lib.hid (at'.zzAt wr _ lb (HRB.out.kept (HBW.out _ (HL.out.below HW0.out))) j)
          rw [← had] at HZA
          have HS := Lib.hid hs
          have HAD := Lib.hid had
          clear c0 hs had
          by_cases hq : s = nm
          · subst hq
            have hne : (s.toList == s.toList) = true := by simp
            by_cases hac : ad = ac
            · subst hac
              have HW2 : Hid (WB la lb s ad (j + 1) ((j : Int) + 1)) := HWB.out.hit ⟨HS.out, HAD.out.symm⟩
              clear HWB
              go_wp2_with (go_at_call 18; refine HZA.out.mono ?_; rintro e w5 ⟨rfl, rfl⟩)
              refine ⟨⟨j + 1, (j : Int) + 1, by omega, by go_num, rfl, by omega, HW2⟩, ?_⟩
              simp [intOf] <;> omega
            · have hac2 : (ad == ac) = false := by simp [hac]
              have HW2 : Hid (WB la lb s ac (j + 1) y) := HWB.out.miss (fun h => hac (HAD.out.trans h.2))
              clear HWB
              go_wp2_with (go_at_call 18; refine HZA.out.mono ?_; rintro e w5 ⟨rfl, rfl⟩)
              refine ⟨⟨j + 1, y, by omega, by go_num, rfl, hy, HW2⟩, ?_⟩
              simp [intOf] <;> omega
          · have hne : (s.toList == nm.toList) = false := by
              rw [beq_eq_false_iff_ne]; intro e; rw [Lib.toList_data, Lib.toList_data] at e; exact hq (ByteArray.ext (Array.toList_inj.1 e))
            have HW2 : Hid (WB la lb nm ac (j + 1) y) := HWB.out.miss (fun h => by have := HS.out; rw [h.1] at this; cases this; exact hq rfl)
            clear HWB
            go_wp2_with fail
            refine ⟨⟨j + 1, y, by omega, by go_num, rfl, hy, HW2⟩, ?_⟩
            simp [intOf] <;> omega
        · obtain rfl : j = k := by omega
          have hF := HFIN.out _ (HL.out.below HW0.out)
          obtain ⟨col, ps, hN, hA, cv, hC, hD⟩ := HL.out
          obtain ⟨vv, fv, ps', fs, hS⟩ := hC.bi rfl
          have h7 : wr.cell? ⟨base, 7, none⟩ = some (.pointer (some ⟨bb, 0, none⟩)) := by rw [hC.blk.cell]; rfl
          have HLK := Lib.hid (zlookB h7 hS nm ac (by rw [bfuncs_len]; omega))
          have HF := Lib.hid hF
          clear HL hN hA hC hD hS h7 hF HRB HRA HBW HFIN HW0 HSZ
          go_wp2_with fail
          go_at_call 22
          refine HLK.out.mono ?_
          rintro e wf ⟨hl, rfl⟩
          have hag := agreeB (show WB la lb nm ac la.length y by rw [← HN.out]; exact HWB.out) (show LookB (bfuncs la lb (fun _ => 0) la.length) fs nm ac wr e by rw [← HN.out]; exact hl)
          clear hl HLK HWB
          rcases hag with ⟨rfl, rfl⟩ | ⟨p, i, rfl, rfl, hfa, _⟩
          · go_wp2_with fail
            go_ret
            exact ⟨rfl, HF.out⟩
          · rw [start_zero] at hfa
            have HFA := Lib.hid hfa
            clear hfa
            go_wp2_with (first | (go_at_call 23; refine (pick.funcPc wr p _ HFA.out).mono ?_; rintro e w5 ⟨rfl, rfl⟩) | (go_at_call 24; refine (pick.funcName _ p _ HFA.out).mono ?_; rintro e w6 ⟨rfl, rfl⟩) | (go_at_call 25; refine (pick.funcArgcnt _ p _ HFA.out).mono ?_; rintro e w7 ⟨rfl, rfl⟩))
            go_ret
            exact ⟨by first | rfl | simp, HF.out⟩
theorem walk (a0 : Option Addr) (len0 cap0 : Nat) (z0 : List ByteArray) (a1 : Option Addr) (len1 cap1 : Nat) (z1 : List Int) (a2 : ByteArray) (a3 : Int) (w : World) (w0 : inp.IsStrs w a0 len0 cap0 z0) (w1 : inp.IsRow .i64 w a1 len1 cap1 z1) (w2 : a2.size ≤ maxLen) (w3 : (Lit.int .i64 a3).wf = true) :
    Calls Try.prog 5 #[.slice a0 len0 cap0, .slice a1 len1 cap1, .string a2, .int .i64 a3] w fun e w' => e = .returned (.bool true) ∧ Below w.heap.size w w' :=
  walk' _ _ _ _ a2 a3 w (inrow.strRow w0) (inrow.intRow w1) w2
end Go.Proofs.Ytmfpmpbilekbgaa.fnLookupBuiltinMatchesModel
