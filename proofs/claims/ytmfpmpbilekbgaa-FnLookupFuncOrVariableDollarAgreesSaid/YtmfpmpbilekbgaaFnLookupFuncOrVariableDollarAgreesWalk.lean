/- lookupFuncOrVariable and lookupVariable agree on names opening with a dollar. -/
import Derived.Test.YtmfpmpbilekbgaaBuild
import Derived.Test.YtmfpmpbilekbgaaCopyZ
import Derived.Test.YtmfpmpbilekbgaaCount
import Derived.Test.YtmfpmpbilekbgaaGuard26
import Derived.Test.YtmfpmpbilekbgaaPlain
import Derived.Test.YtmfpmpbilekbgaaEq
import Derived.Test.YtmfpmpbilekbgaaState
set_option linter.unusedVariables false
namespace Go.Proofs.Ytmfpmpbilekbgaa.fnLookupFuncOrVariableDollarAgrees
open Go.ChangeShapes Go.WideShapes Go.ChangeAt Go.RowKit
open upd comp grow add lookv var newc push wrap pushv lookf doors zs guard model count plain state

set_option maxRecDepth 100000 in
set_option maxHeartbeats 8000000 in
theorem walk (a0 : Value) (z0 : List zs.Zs) (a1 : ByteArray) (w : World) (w0 : zs.ZsRow w a0 z0) (w1 : a1.size ≤ maxLen) :
    Calls Try.prog 4 #[a0, .string a1] w fun e w' => e = .returned (.bool true) ∧ Below w.heap.size w w' := by
  obtain ⟨a, cp, rfl, hcp, hcm, hat⟩ := zs_open w0
  clear hat hcp hcm
  have HG := Lib.hid (g26 w _ z0 a1 w0 w1)
  have HSB := Lib.hid (scopesBytes w _ z0 w0)
  have HAO := Lib.hid (aritiesOK w _ z0 w0)
  have HCP := Lib.hid (copyz.zs w _ z0 w0)
  obtain ⟨n, hn⟩ : ∃ n, n = z0.length := ⟨_, rfl⟩
  have HN := Lib.hid hn
  rw [← hn] at HG HSB HAO HCP ⊢
  unfold maxLen at w1
  clear w0 hn
  go_enter Try.func4, Try.ntmps4
  go_wp2_with fail
  go_at_call 26
  refine HG.out.mono ?_
  rintro e wg ⟨b, rfl, rfl, hb⟩
  cases b with
  | false =>
    clear hb HG HSB HAO HCP
    go_wp2_with fail
    go_ret
    exact ⟨rfl, Below.refl _ _⟩
  | true =>
  obtain ⟨hD, hs⟩ := hb rfl
  rw [← HN.out] at hD
  have HSH := Lib.hid hs
  clear hb hs HG
  by_cases hn0 : n = 0
  · subst hn0
    clear HCP
    clear HAO
    go_wp2_with fail
    all_goals first | (go_ret; exact ⟨rfl, Below.refl _ _⟩) | skip
    all_goals go_at_call 27
    all_goals refine HSB.out.mono ?_
    all_goals rintro e wg ⟨q, rfl, rfl⟩
    all_goals clear HSB
    all_goals go_wp2_with fail
    all_goals (go_ret; exact ⟨rfl, Below.refl _ _⟩)
  by_cases hl1 : 65536 < n
  · clear HSB HAO HCP
    go_wp2_with fail
    go_ret
    exact ⟨rfl, Below.refl _ _⟩
  by_cases hl2 : 65536 < a1.size
  · clear HSB HAO HCP
    go_wp2_with fail
    go_ret
    exact ⟨rfl, Below.refl _ _⟩
  go_wp2_with fail
  go_at_call 27
  refine HSB.out.mono ?_
  rintro e wg ⟨q, rfl, rfl⟩
  clear HSB
  by_cases hs0 : a1.size = 0
  · clear HAO HCP
    have hs1 : ((a1.size : Int) == 0) = true := by rw [hs0]; rfl
    go_wp2_with fail
    all_goals (go_ret; exact ⟨rfl, Below.refl _ _⟩)
  have hp0 : 0 < a1.size := by omega
  have hs1 : ((a1.size : Int) == 0) = false := beq_eq_false_iff_ne.2 (by omega)
  by_cases hdol : (((a1[0]'hp0).toNat : Int) != 36) = true
  · clear HAO HCP
    go_wp2_with fail
    all_goals (go_ret; exact ⟨rfl, Below.refl _ _⟩)
  have hdol2 : (((a1[0]'hp0).toNat : Int) != 36) = false := by simpa using hdol
  clear hdol
  go_wp2_with fail
  all_goals first | (go_ret; exact ⟨rfl, Below.refl _ _⟩) | skip
  go_at_call 28
  refine HAO.out.mono ?_
  rintro e wg ⟨b, rfl, rfl⟩
  clear HAO
  cases b with
  | false =>
    clear HCP
    go_wp2_with fail
    go_ret
    exact ⟨rfl, Below.refl _ _⟩
  | true =>
  go_wp2_with fail
  go_at_call 29
  refine (HCP.out (by omega) (fun k z hz => by obtain ⟨x1, x2, x3⟩ := HSH.out k z (List.getElem?_eq_some_iff.1 hz).1 hz; exact ⟨by omega, by omega, by omega⟩)).mono ?_
  rintro e wc ⟨v', rfl, hz, hb⟩
  clear HCP
  have HZR := Lib.hid hz
  have HBC := Lib.hid hb
  have HBD := Lib.hid (build.build wc v' z0 hz (by rw [← HN.out]; exact hD) HSH.out (by rw [← HN.out]; omega))
  obtain ⟨a', cp', rfl, hcp, hcm, hat⟩ := zs_open hz
  have HAT := Lib.hid hat
  rw [← HN.out] at hcp HZR HBD ⊢
  unfold maxLen at hcm
  clear hz hb hat
  go_wp2_with fail
  go_at_call 30
  refine HBD.out.mono ?_
  rintro e wb ⟨rfl, ⟨col, bb, sv, bs, hC⟩, hb⟩
  have HB := Lib.hid hb
  have HCA := Lib.hid hC
  have HVL : Hid (∀ (k : Nat) (s : Sc), (scs z0 n)[k]? = some s → s.vars.length ≤ 2097152 ∧ s.funcs.length ≤ 2097152) := by unfold Hid; rw [HN.out]; exact scs_small z0 HSH.out
  clear hb hC HBD
  have HP0 : Hid (PS wc.heap.size bb wc (scs z0 n) ((n : Int) + 1) [] wb) := PS.start HCA.out HB.out HB.out.size
  have HLK := Lib.hid (HP0.out.lookF a1 (by rw [scs_len]; omega) HVL.out hp0 false hdol2)
  clear hdol2
  go_wp2_with fail
  go_at_call 31
  refine HLK.out.mono ?_
  rintro e wf ⟨⟨d, rfl⟩, hlf⟩
  have HLK2 := Lib.hid ((HP0.out.drew d).look a1 (by rw [scs_len]; omega) (fun k s h => (HVL.out k s h).1))
  have HLF := Lib.hid hlf
  have HFIN : Hid (∀ w2, PS wc.heap.size bb wc (scs z0 n) ((n : Int) + 1) [] w2 → Below w.heap.size w w2) := fun w2 h => HBC.out.trans (h.2.1.mono HBC.out.size)
  clear HLK hlf HVL HCA HB HAT HZR HBC HSH
  rcases HLF.out with ⟨_, _, _, _, _, _, _, hF, _⟩ | ⟨k, j, s, p, h1, h2, _, h4, h5, rfl⟩ | ⟨h2, rfl⟩
  · cases hF
  · have HVA := Lib.hid h5
    have HFO : Hid (lookv.Found (scs z0 n) a1 k j s) := ⟨h1, h4, fun k' s' hk hs => (h2 k' s' hk hs).1⟩
    clear h1 h2 h4 h5 HLF
    go_wp2_with fail
    go_at_call 32
    refine HLK2.out.mono ?_
    rintro e wl ⟨ia, ib, er, rfl, hres, hp, hbl⟩
    obtain ⟨rfl, rfl, rfl⟩ := res_found hres HFO.out
    have HPL := Lib.hid hp
    have HVL2 : Hid (VarAt wl p a1 s.id j) := ((Blk.drewN HVA.out d).kept (Upd.of_below (S := fun _ => False) hbl) id)
    clear HLK2 hres hp hbl HVA HP0
    obtain ⟨ii, hii⟩ : ∃ ii, ii = s.id := ⟨_, rfl⟩
    rw [← hii] at HVL2 ⊢
    clear hii HFO
    go_wp2_with fail
    obtain ⟨W, hW⟩ : ∃ W, W = wl.alloc (Obj.cells #[.int .i64 ii, .int .i64 j] 50) := ⟨_, rfl⟩
    obtain ⟨r, hr⟩ : ∃ r, r = wl.heap.size := ⟨_, rfl⟩
    rw [← hW, ← hr]
    have HV0 : Hid (VarAt W p a1 ii j) := by unfold Hid; rw [hW]; exact HVL2.out.alloc _
    have hR0 : Blk W r #[.int .i64 ii, .int .i64 j] 50 := by rw [hW, hr]; exact Blk.new _ _ _
    have HF0 : Hid (Below w.heap.size w W) := by
      unfold Hid; rw [hW]; exact (HFIN.out _ HPL.out).alloc (HFIN.out _ HPL.out).size _
    have q0 : W.cell? ⟨r, 0, none⟩ = some (.int .i64 ii) := by rw [hR0.cell]; rfl
    have q1 : W.cell? ⟨r, 1, none⟩ = some (.int .i64 j) := by rw [hR0.cell]; rfl
    have HR0 := Lib.hid hR0
    have heq := eq'.eq50
    clear hW hr hR0 HFIN HPL HVL2
    have tk := Lib.hid trivial
    go_region_law (first | (go_simp; go_at_call 33; clear tk; refine (varIndex _ p a1 ii j (HV0.out.kept (S := fun _ => False) (by repeat (first | exact Upd.refl _ _ | apply Upd.drew | apply Upd.drewN)) id)).mono ?_; rintro e w5 ⟨rfl, hb5⟩; have hu5 : Upd (fun _ => False) W w5 := (Upd.trans (by repeat (first | exact Upd.refl _ _ | apply Upd.drew | apply Upd.drewN)) (Upd.of_below hb5)); have HV5 := Lib.hid (HV0.out.kept hu5 id); have hR5 := HR0.out.kept hu5 id; have s0 : w5.cell? ⟨r, 0, none⟩ = some (.int .i64 ii) := (by (rw [Blk.cell hR5]; rfl)); have s1 : w5.cell? ⟨r, 1, none⟩ = some (.int .i64 j) := (by (rw [Blk.cell hR5]; rfl)); have HF5 : Hid (Below w.heap.size w w5) := (HF0.out.trans (hu5.below HF0.out.size (fun _ h => h.elim))); unfold lookv.two; clear hb5 hu5 hR5) | (go_simp; go_at_call 34; refine (varName _ p a1 ii j (HV5.out.kept (S := fun _ => False) (by repeat (first | exact Upd.refl _ _ | apply Upd.drew | apply Upd.drewN)) id)).mono ?_; rintro e w6 ⟨rfl, rfl⟩))
    all_goals go_wp2_with fail
    all_goals go_ret
    all_goals exact ⟨by first | rfl | simp, HF5.out.trans ⟨rfl, rfl, rfl, Nat.le_refl _, fun _ _ => rfl⟩⟩
  · have HFR : Hid (FreeFrom (scs z0 n) a1 0) := fun k s hk hs => (h2 k s hk hs).1
    clear h2 HLF
    go_wp2_with fail
    go_at_call 32
    refine HLK2.out.mono ?_
    rintro e wl ⟨ia, ib, er, rfl, hres, hp, hbl⟩
    obtain ⟨rfl, rfl, t, v, rfl⟩ := res_free hres HFR.out
    have HF0 : Hid (Below w.heap.size w (wl.alloc (Obj.cells #[.int .i64 0, .int .i64 0] 50))) := (HFIN.out _ hp).alloc (HFIN.out _ hp).size _
    clear HLK2 hres hp hbl HP0 HFIN HFR
    go_wp2_with fail
    go_quiet (fail)
    go_wp2_with fail
    go_ret
    exact ⟨by first | rfl | simp, HF0.out.trans ⟨rfl, rfl, rfl, Nat.le_refl _, fun _ _ => rfl⟩⟩
end Go.Proofs.Ytmfpmpbilekbgaa.fnLookupFuncOrVariableDollarAgrees
