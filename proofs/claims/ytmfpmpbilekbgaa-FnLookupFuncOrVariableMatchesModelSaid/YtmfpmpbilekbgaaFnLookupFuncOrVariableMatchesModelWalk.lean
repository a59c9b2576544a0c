/- lookupFuncOrVariable: the innermost scope with a candidate decides. -/
import Derived.Test.YtmfpmpbilekbgaaBuild
import Derived.Test.YtmfpmpbilekbgaaCopyZ
import Derived.Test.YtmfpmpbilekbgaaCount
import Derived.Test.YtmfpmpbilekbgaaGuard43
import Derived.Test.YtmfpmpbilekbgaaPlain
import Derived.Test.YtmfpmpbilekbgaaEq
import Derived.Test.YtmfpmpbilekbgaaPick
set_option linter.unusedVariables false
namespace Go.Proofs.Ytmfpmpbilekbgaa.fnLookupFuncOrVariableMatchesModel
open Go.ChangeShapes Go.WideShapes Go.ChangeAt Go.RowKit
open upd comp grow add lookv var newc push wrap pushv lookf doors zs guard model count plain state pick
theorem tcell0 {w : World} {T : Nat} {a b c : Value} (h : Blk w T #[a, b, c] 59) : w.cell? ⟨T, 0, none⟩ = some a := by rw [Blk.cell h]; rfl
theorem tcell1 {w : World} {T : Nat} {a b c : Value} (h : Blk w T #[a, b, c] 59) : w.cell? ⟨T, 1, none⟩ = some b := by rw [Blk.cell h]; rfl
theorem tcell2 {w : World} {T : Nat} {a b c : Value} (h : Blk w T #[a, b, c] 59) : w.cell? ⟨T, 2, none⟩ = some c := by rw [Blk.cell h]; rfl
theorem pcell0 {w : World} {T : Nat} {a b : Value} (h : Blk w T #[a, b] 50) : w.cell? ⟨T, 0, none⟩ = some a := by rw [Blk.cell h]; rfl
theorem pcell1 {w : World} {T : Nat} {a b : Value} (h : Blk w T #[a, b] 50) : w.cell? ⟨T, 1, none⟩ = some b := by rw [Blk.cell h]; rfl
theorem below_of {base bb : Nat} {wc w : World} {L : List Sc} {cnt : Int} {own : List (Nat × Array Value × TypeId)} (h : PS base bb wc L cnt own w) (e : base = wc.heap.size) : Below wc.heap.size wc w := by have := h.2.1; rwa [e] at this

set_option maxRecDepth 100000 in
set_option maxHeartbeats 8000000 in
theorem walk (a0 : Value) (z0 : List zs.Zs) (a1 : ByteArray) (w : World) (w0 : zs.ZsRow w a0 z0) (w1 : a1.size ≤ maxLen) :
    Calls Try.prog 10 #[a0, .string a1] w fun e w' => e = .returned (.bool true) ∧ Below w.heap.size w w' := by
  obtain ⟨a, cp, rfl, hcp, hcm, hat⟩ := zs_open w0
  clear hat hcp hcm
  have HG := Lib.hid (g43 w _ z0 a1 w0 w1)
  have HSB := Lib.hid (scopesBytes w _ z0 w0)
  have HAO := Lib.hid (aritiesOK w _ z0 w0)
  have HCP := Lib.hid (copyz.zs w _ z0 w0)
  obtain ⟨n, hn⟩ : ∃ n, n = z0.length := ⟨_, rfl⟩
  have HN := Lib.hid hn
  rw [← hn] at HG HSB HAO HCP ⊢
  unfold maxLen at w1
  clear w0 hn
  go_enter Try.func10, Try.ntmps10
  go_wp2_with fail
  go_at_call 43
  refine HG.out.mono ?_
  rintro e wg ⟨b, rfl, rfl, hb⟩
  cases b with
  | false =>
    clear hb HG HSB HAO HCP
    go_wp2_with fail
    go_ret
    exact ⟨rfl, Below.refl _ _⟩
  | true =>
  obtain ⟨hD, hs⟩ := hb rfl
  rw [← HN.out] at hD
  have HSH := Lib.hid hs
  clear hb hs HG
  by_cases hn0 : n = 0
  · subst hn0
    clear HCP
    clear HAO
    go_wp2_with fail
    all_goals first | (go_ret; exact ⟨rfl, Below.refl _ _⟩) | skip
    all_goals go_at_call 27
    all_goals refine HSB.out.mono ?_
    all_goals rintro e wg ⟨q, rfl, rfl⟩
    all_goals clear HSB
    all_goals go_wp2_with fail
    all_goals (go_ret; exact ⟨rfl, Below.refl _ _⟩)
  by_cases hl1 : 65536 < n
  · clear HSB HAO HCP
    go_wp2_with fail
    go_ret
    exact ⟨rfl, Below.refl _ _⟩
  by_cases hl2 : 65536 < a1.size
  · clear HSB HAO HCP
    go_wp2_with fail
    go_ret
    exact ⟨rfl, Below.refl _ _⟩
  go_wp2_with fail
  go_at_call 27
  refine HSB.out.mono ?_
  rintro e wg ⟨q, rfl, rfl⟩
  clear HSB
  by_cases hs0 : a1.size = 0
  · clear HAO HCP
    have hs1 : ((a1.size : Int) == 0) = true := by rw [hs0]; rfl
    go_wp2_with fail
    all_goals (go_ret; exact ⟨rfl, Below.refl _ _⟩)
  have hp0 : 0 < a1.size := by omega
  have hs1 : ((a1.size : Int) == 0) = false := beq_eq_false_iff_ne.2 (by omega)
  obtain ⟨isF, hisF⟩ : ∃ b, (((a1[0]'hp0).toNat : Int) != 36) = b := ⟨_, rfl⟩
  go_wp2_with fail
  all_goals first | (go_ret; exact ⟨rfl, Below.refl _ _⟩) | skip
  go_at_call 28
  refine HAO.out.mono ?_
  rintro e wg ⟨b, rfl, rfl⟩
  clear HAO
  cases b with
  | false =>
    clear HCP
    go_wp2_with fail
    go_ret
    exact ⟨rfl, Below.refl _ _⟩
  | true =>
  go_wp2_with fail
  go_at_call 29
  refine (HCP.out (by omega) (fun k z hz => by obtain ⟨x1, x2, x3⟩ := HSH.out k z (List.getElem?_eq_some_iff.1 hz).1 hz; exact ⟨by omega, by omega, by omega⟩)).mono ?_
  rintro e wc ⟨v', rfl, hz, hb⟩
  clear HCP
  have HZR := Lib.hid hz
  have HBC := Lib.hid hb
  have HBD := Lib.hid (build.build wc v' z0 hz (by rw [← HN.out]; exact hD) HSH.out (by rw [← HN.out]; omega))
  obtain ⟨a', cp', rfl, hcp, hcm, hat⟩ := zs_open hz
  have HAT := Lib.hid hat
  rw [← HN.out] at hcp HZR HBD ⊢
  unfold maxLen at hcm
  clear hz hb hat
  go_wp2_with fail
  go_at_call 30
  refine HBD.out.mono ?_
  rintro e wb ⟨rfl, ⟨col, bb, sv, bs, hC⟩, hb⟩
  have HB := Lib.hid hb
  have HCA := Lib.hid hC
  have HVL : Hid (∀ (k : Nat) (s : Sc), (scs z0 n)[k]? = some s → s.vars.length ≤ 2097152 ∧ s.funcs.length ≤ 2097152) := by unfold Hid; rw [HN.out]; exact scs_small z0 HSH.out
  clear hb hC HBD
  obtain ⟨base, hbase⟩ : ∃ base, base = wc.heap.size := ⟨_, rfl⟩
  have HP0 : Hid (PS base bb wc (scs z0 n) ((n : Int) + 1) [] wb) := by unfold Hid; rw [hbase]; exact PS.start HCA.out HB.out HB.out.size
  have HBS := Lib.hid hbase
  have HPC := Lib.hid (pc_small z0 HSH.out)
  rw [← HN.out] at HPC
  have HISF : Hid ((((a1[0]'hp0).toNat : Int) != 36) = isF) := hisF
  clear HCA HB HZR
  go_wp2_with fail
  rw [← hbase]
  clear hbase hisF
  obtain ⟨W, hW⟩ : ∃ W, W = wb.alloc (Obj.cells #[.int .i64 0, .int .i64 0] 50) := ⟨_, rfl⟩
  obtain ⟨g, hg⟩ : ∃ g, g = wb.heap.size := ⟨_, rfl⟩
  rw [← hW, ← hg]
  have HP1 : Hid (PS base bb wc (scs z0 n) ((n : Int) + 1) [(g, #[.int .i64 0, .int .i64 0], 50)] W) := by unfold Hid; rw [hW, hg]; exact HP0.out.alloc _ _
  have HGB : Hid (base ≤ g) := by unfold Hid; rw [hg]; exact HP0.out.2.2
  have HPK0 : Hid (Pick (scs z0 0) a1 isF 0 0 0 0) := Pick.start _ _
  clear hW hg HP0
  go_loopw [7, 8, 10, 11, 12, 13, 14, 15, 16, 17] (fun kd pc bs i _ _ _ _ _ _ wr => ∃ (k : Nat) (kdv pcv a b : Int), k ≤ n ∧ kd = .int .i64 kdv ∧ pc = .int .i64 pcv ∧ bs = .int .i64 (pcAt z0 k) ∧ i = .int .i64 k ∧ Hid (Pick (scs z0 k) a1 isF kdv pcv a b) ∧ Hid (PS base bb wc (scs z0 n) ((n : Int) + 1) [(g, #[.int .i64 a, .int .i64 b], 50)] wr)) (fun _ _ _ i _ _ _ _ _ _ _ => n - (intOf i).toNat)
  case atStart => exact ⟨0, 0, 0, 0, 0, Nat.zero_le _, rfl, rfl, rfl, rfl, HPK0, HP1⟩
  case round =>
    obtain ⟨k, kd, pcv, a, b, hk, rfl, rfl, rfl, rfl, HPK, HP2⟩ := hrel
    clear HP1 HPK0
    by_cases hlt : k < n
    · obtain ⟨z, hz⟩ : ∃ z, z0[k]? = some z := ⟨_, List.getElem?_eq_getElem (by have := HN.out; omega)⟩
      obtain ⟨x, rfl, v1, v2, v3, h1, h2, h3, h4, h5, h6⟩ := HAT.out k z hz
      obtain ⟨va, vc, rfl, hv1, hv2, hva⟩ := str_open h4
      obtain ⟨fa, fc, rfl, hf1, hf2, hfa⟩ := str_open h5
      obtain ⟨ra, rc, rfl, hr1, hr2, hra⟩ := int_open h6
      have hpc := HPC.out k (by have := HN.out; omega)
      have hfs := (HSH.out k z (by have := HN.out; omega) hz).2.1
      have hpk : pcAt z0 k ≤ 1099511627776 := by omega
      have hpn : pcAt z0 (k + 1) = pcAt z0 k + z.funcs.length := by simp only [pcAt, zd_at hz]
      have HSC : Hid (sc z0 k = ⟨(k : Int) + 1, z.vars, funs z (pcAt z0 k) z.funcs.length⟩) := by unfold Hid sc; rw [zd_at hz]
      obtain ⟨pc, hpcv⟩ : ∃ pc, pc = pcAt z0 k := ⟨_, rfl⟩
      rw [← hpcv] at hpk hpn HSC ⊢
      obtain ⟨vn, hvn⟩ : ∃ vn, vn = z.vars.length := ⟨_, rfl⟩
      obtain ⟨fn, hfn⟩ : ∃ fn, fn = z.funcs.length := ⟨_, rfl⟩
      obtain ⟨rn, hrn⟩ : ∃ rn, rn = z.ars.length := ⟨_, rfl⟩
      have HRW : Hid (IntRow wc (.slice ra rn rc) z.ars) := by unfold Hid; rw [hrn]; exact h6
      rw [← hvn] at h1 hv1
      rw [← hfn] at h2 hf1 hpn HSC hfs
      rw [← hrn] at h3 hr1
      have HPCN : Hid (Value.int .i64 ((pc : Int) + fn) = .int .i64 (pcAt z0 (k + 1))) := by unfold Hid; rw [hpn]; push_cast; rfl
      unfold maxLen at hv2 hf2 hr2
      have HV := Lib.hid hva
      have HF := Lib.hid hfa
      have HVN := Lib.hid hvn
      have HFN := Lib.hid hfn
      have hbl := below_of HP2.out HBS.out
      have g1 := cell_kept hbl h1
      have g2 := cell_kept hbl h2
      have g3 := cell_kept hbl h3
      rw [guard.add_succ x (k * 3) 0] at g2
      rw [guard.add_succ x (k * 3) 1] at g3
      clear h1 h2 h3 h4 h5 h6 hva hfa hra hz hpc hpcv hvn hfn hrn hpn HAT HPC hbl
      obtain ⟨T, hT⟩ : ∃ T, T = wr.heap.size := ⟨_, rfl⟩
      obtain ⟨V, hV⟩ : ∃ V, V = T + 1 := ⟨_, rfl⟩
      have HP3 : Hid (PS base bb wc (scs z0 n) ((n : Int) + 1) [(V, #[.int .i64 0, .int .i64 0], 50), (T, #[.slice va vn vc, .slice fa fn fc, .slice ra rn rc], 59), (g, #[.int .i64 a, .int .i64 b], 50)] ((wr.alloc (Obj.cells #[.slice va vn vc, .slice fa fn fc, .slice ra rn rc] 59)).alloc (Obj.cells #[.int .i64 0, .int .i64 0] 50))) := by
        unfold Hid
        have h := (HP2.out.alloc #[.slice va vn vc, .slice fa fn fc, .slice ra rn rc] 59).alloc #[.int .i64 0, .int .i64 0] 50
        have e : (wr.alloc (Obj.cells #[.slice va vn vc, .slice fa fn fc, .slice ra rn rc] 59)).heap.size = V := by rw [hV, hT]; simp
        rw [e, ← hT] at h; exact h
      have HVB : Hid (base ≤ V) := by unfold Hid; have := HP2.out.2.2; omega
      have HNE : Hid (¬ T = V ∧ ¬ g = V) := by
        unfold Hid
        have := Blk.lt (PS.blk HP2.out (n := g) List.mem_cons_self)
        omega
      have HTG : Hid (¬ T = g) := by
        unfold Hid
        have := Blk.lt (PS.blk HP2.out (n := g) List.mem_cons_self)
        omega
      have HBT := PS.blk HP3.out (List.mem_cons_of_mem _ List.mem_cons_self)
      have b0 := tcell0 HBT
      have b1 := tcell1 HBT
      have b2 := tcell2 HBT
      have lT := Blk.lt HBT
      obtain ⟨W2, hW2⟩ : ∃ W2, W2 = (wr.alloc (Obj.cells #[.slice va vn vc, .slice fa fn fc, .slice ra rn rc] 59)).alloc (Obj.cells #[.int .i64 0, .int .i64 0] 50) := ⟨_, rfl⟩
      rw [← hW2] at HP3 b0 b1 b2 lT
      clear HBT HP2
      cases isF with
      | false =>
        have HBARE : Hid (NoneFrom z.vars a1 0 → Bare (sc z0 k) a1 false) := by
          unfold Hid; intro h; rw [HSC.out]; exact ⟨h, fun h => by cases h⟩
        have HVAR : Hid (∀ i : Nat, LastIn z.vars a1 i → Pick (scs z0 (k + 1)) a1 false 2 0 ((k : Int) + 1) i) := by
          unfold Hid; intro i hi; rw [scs_snoc]; have := Pick.vr (L := scs z0 k) (s := sc z0 k) (nm := a1) (isF := false) (j := i) 0 (fun h => by cases h) (by rw [HSC.out]; exact hi); rw [HSC.out] at this ⊢; exact this
        go_wp2_with fail
        rw [← hT, ← hV, ← hW2]
        clear hT hV hW2
        have HVW0 : Hid (VW z.vars a1 ((k : Int) + 1) 0 0 0 0) := VW.start _ _ _
        go_wp2_with fail
        go_loopw [13, 17] (fun sk i wr => ∃ (j : Nat) (sv va' vb' : Int), j ≤ vn ∧ i = .int .i64 j ∧ sk = .int .i64 sv ∧ Hid (VW z.vars a1 ((k : Int) + 1) j sv va' vb') ∧ Hid (PS base bb wc (scs z0 n) ((n : Int) + 1) [(V, #[.int .i64 va', .int .i64 vb'], 50), (T, #[.slice va vn vc, .slice fa fn fc, .slice ra rn rc], 59), (g, #[.int .i64 a, .int .i64 b], 50)] wr)) (fun _ i _ => vn - (intOf i).toNat)
        case atStart => exact ⟨0, 0, 0, 0, Nat.zero_le _, rfl, rfl, HVW0, HP3⟩
        case round =>
          obtain ⟨j, sv, va', vb', hj, rfl, rfl, HVW, HPU⟩ := hrel
          clear HVW0 HP3 b0 b1 b2
          have HBT := PS.blk HPU.out (List.mem_cons_of_mem _ List.mem_cons_self)
          have b0 := tcell0 HBT
          have b1 := tcell1 HBT
          have lT := Blk.lt HBT
          clear HBT
          by_cases hjl : j < vn
          · obtain ⟨s, hs⟩ : ∃ s, z.vars[j]? = some s := ⟨_, List.getElem?_eq_getElem (by have := HVN.out; omega)⟩
            obtain ⟨x2, rfl, c0, _⟩ := HV.out j s hs
            have c1 := cell_kept (wr := _) (below_of HPU.out HBS.out) c0
            have HS := Lib.hid hs
            clear c0 hs
            by_cases hq : s = a1
            · subst hq
              have hne : (s.toList == s.toList) = true := by simp
              have HBV := PS.blk HPU.out (List.mem_cons_self)
              have v0 := pcell0 HBV
              have v1 := pcell1 HBV
              have p0 := Blk.free HBV 0
              have p1 := Blk.free HBV 1
              have p2 := Blk.lt HBV
              have HPU2 := Lib.hid (PS.two HPU.out (by simpa using HNE.out) HVB.out ((k : Int) + 1) j)
              have HVW2 : Hid (VW z.vars s ((k : Int) + 1) (j + 1) 2 ((k : Int) + 1) j) := HVW.out.hit HS.out
              clear HVW HPU HBV
              go_wp2_with fail
              refine ⟨⟨j + 1, 2, (k : Int) + 1, j, by omega, by go_num, rfl, HVW2, HPU2⟩, ?_⟩
              simp [intOf] <;> omega
            · have hne : (s.toList == a1.toList) = false := by
                rw [beq_eq_false_iff_ne]; intro e; rw [Lib.toList_data, Lib.toList_data] at e; exact hq (ByteArray.ext (Array.toList_inj.1 e))
              have HVW2 : Hid (VW z.vars a1 ((k : Int) + 1) (j + 1) sv va' vb') := HVW.out.miss HS.out hq
              clear HVW
              go_wp2_with fail
              refine ⟨⟨j + 1, sv, va', vb', by omega, by go_num, rfl, HVW2, HPU⟩, ?_⟩
              simp [intOf] <;> omega
          · obtain rfl : j = vn := by omega
            have hdone := (show VW z.vars a1 ((k : Int) + 1) z.vars.length sv va' vb' by rw [← HVN.out]; exact HVW.out).done
            rcases hdone with ⟨rfl, rfl, rfl, hnone⟩ | ⟨rfl, rfl, i, rfl, hlast⟩
            · have HPK2 : Hid (Pick (scs z0 (k + 1)) a1 false kd pcv a b) := by unfold Hid; rw [scs_snoc]; exact HPK.out.bare (HBARE.out hnone)
              have HP5 : Hid (PS base bb wc (scs z0 n) ((n : Int) + 1) [(g, #[.int .i64 a, .int .i64 b], 50)] wr) := PS.sub HPU.out (by simp)
              clear HPK HPU HVW hnone HBARE HVAR HV
              go_wp2_with fail
              refine ⟨⟨k + 1, kd, pcv, a, b, by omega, rfl, rfl, HPCN.out, by go_num, HPK2, HP5⟩, ?_⟩
              simp [intOf] <;> omega
            · have HPK2 : Hid (Pick (scs z0 (k + 1)) a1 false 2 0 ((k : Int) + 1) i) := HVAR.out i hlast
              have HBV := PS.blk HPU.out (List.mem_cons_self)
              have v0 := pcell0 HBV
              have v1 := pcell1 HBV
              have lV := Blk.lt HBV
              have HBG := PS.blk HPU.out (List.mem_cons_of_mem _ (List.mem_cons_of_mem _ List.mem_cons_self))
              have g0 := pcell0 HBG
              have g1 := pcell1 HBG
              have hTg := HTG.out
              have hTg2 : ¬ g = T := fun e => hTg e.symm
              have p0 := Blk.free HBG 0
              have p1 := Blk.free HBG 1
              have p2 := Blk.lt HBG
              have HP5 := Lib.hid (PS.two (PS.sub (own' := [(g, #[.int .i64 a, .int .i64 b], 50)]) HPU.out (by simp)) (by simp) HGB.out ((k : Int) + 1) i)
              clear HPK HPU HVW hlast HBARE HVAR HV HBV HBG
              go_wp2_with fail
              refine ⟨⟨k + 1, 2, 0, (k : Int) + 1, i, by omega, rfl, rfl, HPCN.out, by go_num, HPK2, HP5⟩, ?_⟩
              simp [intOf] <;> omega
      | true =>
        have HFW0 : Hid (FW (funs z pc fn) a1 0 0 0) := FW.start _ _
        have HRW2 : Hid (IntRow W2 (.slice ra rn rc) z.ars) := HRW.out.kept (below_of HP3.out HBS.out)
        have hbl2 := Lib.hid (below_of HP3.out HBS.out)
        go_wp2_with fail
        rw [← hT, ← hV, ← hW2]
        clear hT hV hW2
        go_loop [13, 14, 16] (fun sk fp i => ∃ (j : Nat) (sv fv : Int), j ≤ fn ∧ i = .int .i64 j ∧ sk = .int .i64 sv ∧ fp = .int .i64 fv ∧ Hid (FW (funs z pc fn) a1 j sv fv)) (fun _ _ i => fn - (intOf i).toNat)
        case atStart => exact ⟨0, 0, 0, Nat.zero_le _, rfl, rfl, rfl, HFW0⟩
        case round =>
          obtain ⟨j, sv, fv, hj, rfl, rfl, rfl, HFW⟩ := hrel
          clear HFW0
          by_cases hjl : j < fn
          · obtain ⟨s, hs⟩ : ∃ s, z.funcs[j]? = some s := ⟨_, List.getElem?_eq_getElem (by have := HFN.out; omega)⟩
            obtain ⟨x2, rfl, c0, _⟩ := HF.out j s hs
            have c1 := cell_kept hbl2.out c0
            obtain ⟨ac, hac⟩ : ∃ ac, ac = z.ars.getD j 0 := ⟨_, rfl⟩
            have HFA : Hid ((funs z pc fn)[j]? = some (s, (((pc + j : Nat) : Int)), ac)) := by
              unfold Hid; rw [funs_at z pc fn j hjl, ← hac]; simp [List.getD, hs]
            have HZA := Lib.hid (at'.zzAt W2 _ z.ars HRW2.out j)
            rw [← hac] at HZA
            clear c0 hs hac
            by_cases hq : s = a1
            · subst hq
              have hne : (s.toList == s.toList) = true := by simp
              by_cases hac0 : ac = 0
              · subst hac0
                have HFW2 : Hid (FW (funs z pc fn) s (j + 1) 1 ((pc : Int) + j)) := by
                  have h := HFW.out.hit HFA.out rfl rfl
                  simp only [Int.natCast_add] at h; exact h
                clear HFW
                go_wp2_with (go_at_call 18; refine HZA.out.mono ?_; rintro e w5 ⟨rfl, rfl⟩)
                refine ⟨⟨j + 1, 1, (pc : Int) + j, by omega, by go_num, rfl, by go_num, HFW2⟩, ?_⟩
                simp [intOf] <;> omega
              · have hac1 : (ac == 0) = false := by simp [hac0]
                have HFW2 : Hid (FW (funs z pc fn) s (j + 1) sv fv) := HFW.out.miss HFA.out (fun h => hac0 h.2)
                clear HFW
                go_wp2_with (go_at_call 18; refine HZA.out.mono ?_; rintro e w5 ⟨rfl, rfl⟩)
                refine ⟨⟨j + 1, sv, fv, by omega, by go_num, rfl, rfl, HFW2⟩, ?_⟩
                simp [intOf] <;> omega
            · have hne : (s.toList == a1.toList) = false := by
                rw [beq_eq_false_iff_ne]; intro e; rw [Lib.toList_data, Lib.toList_data] at e; exact hq (ByteArray.ext (Array.toList_inj.1 e))
              have HFW2 : Hid (FW (funs z pc fn) a1 (j + 1) sv fv) := HFW.out.miss HFA.out (fun h => hq h.1)
              clear HFW
              go_wp2_with fail
              refine ⟨⟨j + 1, sv, fv, by omega, by go_num, rfl, rfl, HFW2⟩, ?_⟩
              simp [intOf] <;> omega
          · obtain rfl : fn = j := by omega
            have hdone := (show FW (funs z pc fn) a1 (funs z pc fn).length sv fv by rw [funs_len]; exact HFW.out).done
            clear HFW hj hjl HRW2 HRW HF
            rcases hdone with ⟨rfl, rfl, hnof⟩ | ⟨rfl, i, f, hf1, hf2, hf3, rfl, hf5⟩
            · have HNOF := Lib.hid hnof
              have HBARE : Hid (NoneFrom z.vars a1 0 → Bare (sc z0 k) a1 true) := by
                unfold Hid; intro h; rw [HSC.out]; exact ⟨h, fun _ => HNOF.out⟩
              have HVAR : Hid (∀ i : Nat, LastIn z.vars a1 i → Pick (scs z0 (k + 1)) a1 true 2 0 ((k : Int) + 1) i) := by
                unfold Hid; intro i hi; rw [scs_snoc]; have := Pick.vr (L := scs z0 k) (s := sc z0 k) (nm := a1) (isF := true) (j := i) 0 (fun _ => by rw [HSC.out]; exact HNOF.out) (by rw [HSC.out]; exact hi); rw [HSC.out] at this ⊢; exact this
              clear hnof HNOF
              have HVW0 : Hid (VW z.vars a1 ((k : Int) + 1) 0 0 0 0) := VW.start _ _ _
              go_wp2_with fail
              go_loopw [13, 17] (fun sk i wr => ∃ (j : Nat) (sv va' vb' : Int), j ≤ vn ∧ i = .int .i64 j ∧ sk = .int .i64 sv ∧ Hid (VW z.vars a1 ((k : Int) + 1) j sv va' vb') ∧ Hid (PS base bb wc (scs z0 n) ((n : Int) + 1) [(V, #[.int .i64 va', .int .i64 vb'], 50), (T, #[.slice va vn vc, .slice fa fn fc, .slice ra rn rc], 59), (g, #[.int .i64 a, .int .i64 b], 50)] wr)) (fun _ i _ => vn - (intOf i).toNat)
              case atStart => exact ⟨0, 0, 0, 0, Nat.zero_le _, rfl, rfl, HVW0, HP3⟩
              case round =>
                obtain ⟨j, sv, va', vb', hj, rfl, rfl, HVW, HPU⟩ := hrel
                clear HVW0 HP3 b0 b1 b2
                have HBT := PS.blk HPU.out (List.mem_cons_of_mem _ List.mem_cons_self)
                have b0 := tcell0 HBT
                have b1 := tcell1 HBT
                have lT := Blk.lt HBT
                clear HBT
                by_cases hjl : j < vn
                · obtain ⟨s, hs⟩ : ∃ s, z.vars[j]? = some s := ⟨_, List.getElem?_eq_getElem (by have := HVN.out; omega)⟩
                  obtain ⟨x2, rfl, c0, _⟩ := HV.out j s hs
                  have c1 := cell_kept (wr := _) (below_of HPU.out HBS.out) c0
                  have HS := Lib.hid hs
                  clear c0 hs
                  by_cases hq : s = a1
                  · subst hq
                    have hne : (s.toList == s.toList) = true := by simp
                    have HBV := PS.blk HPU.out (List.mem_cons_self)
                    have v0 := pcell0 HBV
                    have v1 := pcell1 HBV
                    have p0 := Blk.free HBV 0
                    have p1 := Blk.free HBV 1
                    have p2 := Blk.lt HBV
                    have HPU2 := Lib.hid (PS.two HPU.out (by simpa using HNE.out) HVB.out ((k : Int) + 1) j)
                    have HVW2 : Hid (VW z.vars s ((k : Int) + 1) (j + 1) 2 ((k : Int) + 1) j) := HVW.out.hit HS.out
                    clear HVW HPU HBV
                    go_wp2_with fail
                    refine ⟨⟨j + 1, 2, (k : Int) + 1, j, by omega, by go_num, rfl, HVW2, HPU2⟩, ?_⟩
                    simp [intOf] <;> omega
                  · have hne : (s.toList == a1.toList) = false := by
                      rw [beq_eq_false_iff_ne]; intro e; rw [Lib.toList_data, Lib.toList_data] at e; exact hq (ByteArray.ext (Array.toList_inj.1 e))
                    have HVW2 : Hid (VW z.vars a1 ((k : Int) + 1) (j + 1) sv va' vb') := HVW.out.miss HS.out hq
                    clear HVW
                    go_wp2_with fail
                    refine ⟨⟨j + 1, sv, va', vb', by omega, by go_num, rfl, HVW2, HPU⟩, ?_⟩
                    simp [intOf] <;> omega
                · obtain rfl : j = vn := by omega
                  have hdone := (show VW z.vars a1 ((k : Int) + 1) z.vars.length sv va' vb' by rw [← HVN.out]; exact HVW.out).done
                  rcases hdone with ⟨rfl, rfl, rfl, hnone⟩ | ⟨rfl, rfl, i, rfl, hlast⟩
                  · have HPK2 : Hid (Pick (scs z0 (k + 1)) a1 true kd pcv a b) := by unfold Hid; rw [scs_snoc]; exact HPK.out.bare (HBARE.out hnone)
                    have HP5 : Hid (PS base bb wc (scs z0 n) ((n : Int) + 1) [(g, #[.int .i64 a, .int .i64 b], 50)] wr) := PS.sub HPU.out (by simp)
                    clear HPK HPU HVW hnone HBARE HVAR HV
                    go_wp2_with fail
                    refine ⟨⟨k + 1, kd, pcv, a, b, by omega, rfl, rfl, HPCN.out, by go_num, HPK2, HP5⟩, ?_⟩
                    simp [intOf] <;> omega
                  · have HPK2 : Hid (Pick (scs z0 (k + 1)) a1 true 2 0 ((k : Int) + 1) i) := HVAR.out i hlast
                    have HBV := PS.blk HPU.out (List.mem_cons_self)
                    have v0 := pcell0 HBV
                    have v1 := pcell1 HBV
                    have lV := Blk.lt HBV
                    have HBG := PS.blk HPU.out (List.mem_cons_of_mem _ (List.mem_cons_of_mem _ List.mem_cons_self))
                    have g0 := pcell0 HBG
                    have g1 := pcell1 HBG
                    have hTg := HTG.out
                    have hTg2 : ¬ g = T := fun e => hTg e.symm
                    have p0 := Blk.free HBG 0
                    have p1 := Blk.free HBG 1
                    have p2 := Blk.lt HBG
                    have HP5 := Lib.hid (PS.two (PS.sub (own' := [(g, #[.int .i64 a, .int .i64 b], 50)]) HPU.out (by simp)) (by simp) HGB.out ((k : Int) + 1) i)
                    clear HPK HPU HVW hlast HBARE HVAR HV HBV HBG
                    go_wp2_with fail
                    refine ⟨⟨k + 1, 2, 0, (k : Int) + 1, i, by omega, rfl, rfl, HPCN.out, by go_num, HPK2, HP5⟩, ?_⟩
                    simp [intOf] <;> omega
            · have HPK2 : Hid (Pick (scs z0 (k + 1)) a1 true 1 f.2.1 0 0) := by
                unfold Hid; rw [scs_snoc]; exact Pick.fn _ 0 0 rfl (by rw [HSC.out]; exact hf1) hf2 hf3 (by rw [HSC.out]; exact hf5)
              generalize f.2.1 = fp at HPK2 ⊢
              have HBV := PS.blk HP3.out (List.mem_cons_self)
              have v0 := pcell0 HBV
              have v1 := pcell1 HBV
              have lV := Blk.lt HBV
              have HBG := PS.blk HP3.out (List.mem_cons_of_mem _ (List.mem_cons_of_mem _ List.mem_cons_self))
              have g0 := pcell0 HBG
              have g1 := pcell1 HBG
              have hTg := HTG.out
              have hTg2 : ¬ g = T := fun e => hTg e.symm
              have p0 := Blk.free HBG 0
              have p1 := Blk.free HBG 1
              have p2 := Blk.lt HBG
              have HP5 := Lib.hid (PS.two (PS.sub (own' := [(g, #[.int .i64 a, .int .i64 b], 50)]) HP3.out (by simp)) (by simp) HGB.out 0 0)
              clear HPK HP3 hf1 hf2 hf3 hf5 HV HBV HBG
              go_wp2_with fail
              refine ⟨⟨k + 1, 1, fp, 0, 0, by omega, rfl, rfl, HPCN.out, by go_num, HPK2, HP5⟩, ?_⟩
              simp [intOf] <;> omega
    · obtain rfl : k = n := by omega
      have HLK := Lib.hid (HP2.out.lookF a1 (by rw [scs_len]; omega) HVL.out hp0 isF HISF.out)
      go_wp2_with fail
      go_at_call 31
      refine HLK.out.mono ?_
      rintro e wf ⟨⟨d, rfl⟩, hlf⟩
      have hag := pick.agree (show Pick (scs z0 k) a1 isF kd pcv a b from HPK.out) hlf
      have HFIN : Hid (Below w.heap.size w (wr.drewN d)) := HBC.out.trans ((below_of (HP2.out.drew d) HBS.out).mono HBC.out.size)
      have HBG := Lib.hid (PS.blk (HP2.out.drew d) (n := g) List.mem_cons_self)
      clear HLK hlf HVL HPK HP2 HAT HBC HBS HSH HISF
      obtain ⟨W, hW⟩ : ∃ W, W = wr.drewN d := ⟨_, rfl⟩
      rcases hag with ⟨rfl, rfl⟩ | ⟨rfl, p, rfl, hF⟩ | ⟨rfl, p, j, rfl, hV, rfl⟩
      · rw [← hW] at HFIN ⊢
        clear hW
        go_wp2_with fail
        go_ret
        exact ⟨rfl, HFIN.out⟩
      · have HFA : Hid (FunAt W p (a1, pcv, 0)) := by unfold Hid; rw [hW]; exact Blk.drewN hF d
        rw [← hW] at HFIN ⊢
        clear hW hF
        go_wp2_with (first | (go_at_call 23; refine (funcPc W p _ HFA.out).mono ?_; rintro e w5 ⟨rfl, rfl⟩) | (go_at_call 24; refine (funcName _ p _ HFA.out).mono ?_; rintro e w6 ⟨rfl, rfl⟩) | (go_at_call 25; refine (funcArgcnt _ p _ HFA.out).mono ?_; rintro e w7 ⟨rfl, rfl⟩))
        go_ret
        exact ⟨by first | rfl | simp, HFIN.out⟩
      · have HV0 : Hid (VarAt W p a1 a j) := by unfold Hid; rw [hW]; exact Blk.drewN hV d
        rw [← hW] at HFIN HBG ⊢
        clear hW hV
        have HR0 := HBG
        have HF0 := HFIN
        have q0 := pcell0 HR0.out
        have q1 := pcell1 HR0.out
        have heq := eq'.eq50
        clear HBG HFIN
        have tk := Lib.hid trivial
        go_wp2_with fail
        go_region_law (first | (go_simp; go_at_call 33; clear tk; refine (varIndex _ p a1 a j (HV0.out.kept (S := fun _ => False) (by repeat (first | exact Upd.refl _ _ | apply Upd.drew | apply Upd.drewN)) id)).mono ?_; rintro e w5 ⟨rfl, hb5⟩; have hu5 : Upd (fun _ => False) W w5 := (Upd.trans (by repeat (first | exact Upd.refl _ _ | apply Upd.drew | apply Upd.drewN)) (Upd.of_below hb5)); have HV5 := Lib.hid (HV0.out.kept hu5 id); have hR5 := HR0.out.kept hu5 id; have s0 : w5.cell? ⟨g, 0, none⟩ = some (.int .i64 a) := (by (rw [Blk.cell hR5]; rfl)); have s1 : w5.cell? ⟨g, 1, none⟩ = some (.int .i64 j) := (by (rw [Blk.cell hR5]; rfl)); have HF5 : Hid (Below w.heap.size w w5) := (HF0.out.trans (hu5.below HF0.out.size (fun _ h => h.elim))); unfold lookv.two; clear hb5 hu5 hR5) | (go_simp; go_at_call 34; refine (varName _ p a1 a j (HV5.out.kept (S := fun _ => False) (by repeat (first | exact Upd.refl _ _ | apply Upd.drew | apply Upd.drewN)) id)).mono ?_; rintro e w6 ⟨rfl, rfl⟩))
        all_goals go_wp2_with fail
        all_goals go_ret
        all_goals exact ⟨by first | rfl | simp, HF5.out.trans ⟨rfl, rfl, rfl, Nat.le_refl _, fun _ _ => rfl⟩⟩
end Go.Proofs.Ytmfpmpbilekbgaa.fnLookupFuncOrVariableMatchesModel
