/- The walk of the law FnForkScriptMatchesModel where no value came in: it returns true. Printed by gen_cases.py. -/
import Derived.Test.YtemifkcgmfincaaCases
import Derived.Deep.RegionLaw
import Derived.Deep.DeepCutAuto
import Derived.Deep.CutBlock
set_option linter.unusedVariables false
namespace Go.Proofs.Ytemifkcgmfincaa.scriptn
open Go.ChangeShapes Go.WideShapes Go.ChangeAt Go.RowKit
open upd env plain ops forks popf fill init steps snap wide snapm snapc cases

set_option maxRecDepth 100000 in
set_option maxHeartbeats 20000000 in
theorem walk (a0 : Option Addr) (len0 cap0 : Nat) (z0 : List Int) (a1 : Option Addr) (len1 cap1 : Nat) (z1 : List Int) (w : World) (w0 : inp.IsRow .u8 w a0 len0 cap0 z0) (w1 : inp.IsRow .i64 w a1 len1 cap1 z1) (hpos : ¬ 0 < len1) :
    Calls Try.prog 4 #[.slice a0 len0 cap0, .slice a1 len1 cap1] w fun e w' => e = .returned (.bool true) ∧ Below w.heap.size w w' := by
  obtain ⟨bo, hbo, hin0, hnil0, hm0⟩ := open_bytes a0 len0 cap0 z0 w w0
  obtain ⟨bs, hbs, hin1, hnil1, hm1⟩ := open_ints a1 len1 cap1 z1 w w1
  obtain ⟨i0, hi, hz0, hz1, hz2⟩ := info_parts info3
  obtain ⟨j0, ji, jz0, jz1, jz2⟩ := info_parts info40
  obtain ⟨k0, ki, kz0, kz1, kz2⟩ := info_parts info42
  clear w0 w1 hbs
  have HZ := Lib.hid (zb25 a0 a1 len0 cap0 len1 cap1 w hm0 hm1)
  have HI1 := Lib.hid hin1; have HN1 := Lib.hid hnil1; have HBO := Lib.hid hbo
  by_cases hb0 : 1024 < len0
  · have hb' : (1024 : Int) < len0 := by omega
    clear hin0 hnil0 hin1 hnil1 hbo
    go_enter Try.func4, Try.ntmps4
    go_wp2_with (go_at_call 25; refine HZ.out.mono ?_; rintro e w1 ⟨b, rfl, rfl⟩)
    all_goals (go_ret; exact ⟨rfl, Below.refl _ _⟩)
  have hl0 : len0 ≤ 1024 := by omega
  by_cases hb1 : 4096 < len1
  · have hb' : (4096 : Int) < len1 := by omega
    clear hin0 hnil0 hin1 hnil1 hbo
    go_enter Try.func4, Try.ntmps4
    go_wp2_with (go_at_call 25; refine HZ.out.mono ?_; rintro e w1 ⟨b, rfl, rfl⟩)
    all_goals (go_ret; exact ⟨rfl, Below.refl _ _⟩)
  have hl1 : len1 ≤ 4096 := by omega
  have HC0 := Lib.hid (cloneB a0 cap0 len0 bo w hin0 hnil0 (by omega))
  clear hb0 hb1 hm0 hm1 hin0 hnil0 hin1 hnil1 hbo
  go_enter Try.func4, Try.ntmps4
  go_wp2_with (first | (go_at_call 25; refine HZ.out.mono ?_; rintro e w1 ⟨b, rfl, rfl⟩) | (go_at_call 26; refine HC0.out.mono ?_; rintro e w1 ⟨ac0, cc0, rfl, hin1, _, hb1⟩; have HIN0 := Lib.hid hin1; have HB0 := Lib.hid hb1; clear hin1 hb1 HC0) | (go_at_call 10; refine (cloneI a1 cap1 len1 bs _ (HI1.out.kept HB0.out) HN1.out hl1).mono ?_; rintro e w2 ⟨ac1, cc1, rfl, hin2, _, hb2⟩; have HJ1 := Lib.hid hin2; have HB1 := Lib.hid (HB0.out.trans (hb2.mono HB0.out.size)); have HJ0 := Lib.hid (HIN0.out.kept hb2); clear HIN0 hin2 hb2 HB0) | (go_at_call 11; refine (s_new _).mono ?_; rintro e w3 ⟨eb, rfl, h3⟩; have HT0 := Lib.hid (MT.start h3); clear h3))
  · go_ret
    exact ⟨rfl, Below.refl _ _⟩
  clear HI1 HN1 HZ
  go_loopw [47, 6, 7, 8, 9, 10, 11, 12, 13] (fun i ua ub uf uo ux us un uj wr => ∃ (k nA nB nF j : Nat) (st : List Int) (sc : List Ms) (sps : List Sp) (L : List (Fk × Sp)) (off ex ser nser : Int) (a b f : Option Addr) (ca cb cf : Nat), k ≤ len0 ∧ nA ≤ k ∧ nB ≤ k ∧ nF ≤ k ∧ j ≤ k ∧ 0 ≤ nser ∧ nser ≤ k ∧ i = .int .i64 k ∧ ua = .slice a nA ca ∧ ub = .slice b nB cb ∧ uf = .slice f nF cf ∧ uo = .int .i64 off ∧ ux = .int .i64 ex ∧ us = .int .i64 ser ∧ un = .int .i64 nser ∧ uj = .int .i64 j ∧ Hid (nA = st.length ∧ nB = sc.length ∧ nF = sps.length) ∧ Hid (sps = L.map (·.2)) ∧ Hid (MT w2.heap.size eb w2 wr (.slice a nA ca) (.slice b nB cb) (.slice f nF cf) st sc sps st sc off ex ser nser L k)) (fun i _ _ _ _ _ _ _ _ _ => len0 - (intOf i).toNat)
  case atStart => exact ⟨0, 0, 0, 0, 0, [], [], [], [], 0, 0, 0, 0, none, none, none, 0, 0, 0, Nat.zero_le _, Nat.le_refl _, Nat.le_refl _, Nat.le_refl _, Nat.le_refl _, by omega, by omega, rfl, rfl, rfl, rfl, rfl, rfl, rfl, rfl, rfl, ⟨rfl, rfl, rfl⟩, rfl, HT0.out⟩
  case round =>
    obtain ⟨k, nA, nB, nF, j, st, sc, sps, L, off, ex, ser, nser, a, b3, f, ca, cb, cf, hk, hnA, hnB, hnF, hj, hns0, hns1, rfl, rfl, rfl, rfl, rfl, rfl, rfl, rfl, rfl, HLN, HSP, HM⟩ := hrel
    clear HT0
    by_cases hlt : k < len0
    · obtain ⟨hA, hB, hF⟩ := HLN.out
      subst hA hB hF
      clear HLN
      obtain ⟨xo, rfl, hxob, hxo⟩ := cp_cell HJ0.out (k := k) hlt
      have c0 : wr.cell? (xo.add k) = some (.int .u8 (bo k)) := HM.out.row hxob hxo
      have hbk := HBO.out k
      clear hxo
      have hn1 : ¬ (0 : Int) < len1 := by omega
      have hn2 : len1 ≤ 0 := by omega
      go_upto_block 2 with fail
      go_cut [6, 7, 8, 9, 10, 11, 12, 66] (fun ua ub uf uo ux us un xt wx => ∃ (nA nB nF : Nat) (st : List Int) (sc : List Ms) (sps : List Sp) (L : List (Fk × Sp)) (off ex ser nser : Int) (a b f : Option Addr) (ca cb cf : Nat), nA ≤ k + 1 ∧ nB ≤ k + 1 ∧ nF ≤ k + 1 ∧ 0 ≤ nser ∧ nser ≤ k + 1 ∧ ua = .slice a nA ca ∧ ub = .slice b nB cb ∧ uf = .slice f nF cf ∧ uo = .int .i64 off ∧ ux = .int .i64 ex ∧ us = .int .i64 ser ∧ un = .int .i64 nser ∧ Hid (nA = st.length ∧ nB = sc.length ∧ nF = sps.length) ∧ Hid (sps = L.map (·.2)) ∧ Hid (MT w2.heap.size eb w2 wx (.slice a nA ca) (.slice b nB cb) (.slice f nF cf) st sc sps st sc off ex ser nser L (k + 1)))
      case first =>
        have hk1 : k < 1024 := by omega
        by_cases hr0 : bo k % 8 = 0
        · rw [hr0]
          exact cases.case0 hk1 hns0 hns1 HSP hnA hnB hnF HM (by unfold Post; assumption) (by assumption)
        by_cases hr1 : bo k % 8 = 1
        · rw [hr1]
          exact cases.case1 hk1 hns0 hns1 HSP hnA hnB hnF HM (by unfold Post; assumption) (by assumption)
        by_cases hr2 : bo k % 8 = 2
        · rw [hr2]
          exact cases.case2 hk1 hns0 hns1 HSP hnA hnB hnF HM (by unfold Post; assumption) (by assumption)
        by_cases hr3 : bo k % 8 = 3
        · rw [hr3]
          exact cases.case3 hk1 hns0 hns1 HSP hnA hnB hnF HM (by unfold Post; assumption) (by assumption)
        by_cases hr4 : bo k % 8 = 4
        · rw [hr4]
          exact cases.case4 hk1 hns0 hns1 HSP hnA hnB hnF HM (by unfold Post; assumption) (by assumption)
        by_cases hr5 : bo k % 8 = 5
        · rw [hr5]
          exact cases.case5 hk1 hns0 hns1 HSP hnA hnB hnF HM (by unfold Post; assumption) (by assumption)
        by_cases hr6 : bo k % 8 = 6
        · rw [hr6]
          exact cases.case6 hk1 hns0 hns1 HSP hnA hnB hnF HM (by unfold Post; assumption) (by assumption)
        have hr7 : bo k % 8 = 7 := by omega
        rw [hr7]
        exact cases.case7 hk1 hns0 hns1 HSP hnA hnB hnF HM (by unfold Post; assumption) (by assumption)
      case rest =>
        clear HM HSP hnA hnB hnF hns0 hns1
        obtain ⟨nA, nB, nF, st, sc, sps, L, off, ex, ser, nser, a, b3, f, ca, cb, cf, hnA, hnB, hnF, hns0, hns1, rfl, rfl, rfl, rfl, rfl, rfl, rfl, HLN, HSP, HZ⟩ := hcut
        obtain ⟨hA, hB, hF⟩ := HLN.out
        subst hA hB hF
        clear HLN
        go_wp2_with (first | (go_at_call 21; refine (MT.offset HZ.out).mono ?_; rintro e w8 ⟨rfl, rfl⟩) | (go_at_call 22; refine (MT.expdepth HZ.out).mono ?_; rintro e w8 ⟨rfl, rfl⟩) | (go_at_call 20; refine (MT.forks HZ.out (n := sps.length) (by rw [HSP.out]; simp)).mono ?_; rintro e w8 ⟨rfl, rfl⟩) | (go_at_call 23; refine (MT.sempty HZ.out ((st.length : Int) == 0) (emp st)).mono ?_; rintro e w8 ⟨rfl, rfl⟩) | (go_at_call 24; refine (MT.cempty HZ.out ((sc.length : Int) == 0) (emp sc)).mono ?_; rintro e w8 ⟨rfl, rfl⟩))
        go_roundw
        case rel => exact ⟨k + 1, st.length, sc.length, sps.length, j, st, sc, sps, L, off, ex, ser, nser, a, b3, f, ca, cb, cf, by omega, by omega, by omega, by omega, by omega, by omega, by omega, by go_num, rfl, rfl, rfl, rfl, rfl, rfl, rfl, rfl, ⟨by first | rfl | simp, by first | rfl | simp, by first | rfl | simp⟩, HSP, HZ.out⟩
        case measure => simp [intOf] <;> omega
    · obtain rfl : k = len0 := by omega
      clear hlt
      go_wp2_with fail
      go_ret
      exact ⟨rfl, HB1.out.trans (HM.out.below.1.mono HB1.out.size)⟩
end Go.Proofs.Ytemifkcgmfincaa.scriptn

