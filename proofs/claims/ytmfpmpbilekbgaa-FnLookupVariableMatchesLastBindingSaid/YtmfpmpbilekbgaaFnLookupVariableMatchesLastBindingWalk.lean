/- lookupVariable answers the latest binding. -/
import Derived.Test.YtmfpmpbilekbgaaBuild
import Derived.Test.YtmfpmpbilekbgaaCopyZ
import Derived.Test.YtmfpmpbilekbgaaCount
import Derived.Test.YtmfpmpbilekbgaaGuard36
import Derived.Test.YtmfpmpbilekbgaaPlain
import Derived.Test.YtmfpmpbilekbgaaEq
set_option linter.unusedVariables false
namespace Go.Proofs.Ytmfpmpbilekbgaa.fnLookupVariableMatchesLastBinding
open Go.ChangeShapes Go.WideShapes Go.ChangeAt Go.RowKit
open upd comp grow add lookv var newc push wrap pushv lookf doors zs guard model count plain

set_option maxRecDepth 100000 in
set_option maxHeartbeats 8000000 in
theorem walk (a0 : Value) (z0 : List zs.Zs) (a1 : ByteArray) (w : World) (w0 : zs.ZsRow w a0 z0) (w1 : a1.size ≤ maxLen) :
    Calls Try.prog 6 #[a0, .string a1] w fun e w' => e = .returned (.bool true) ∧ Below w.heap.size w w' := by
  obtain ⟨a, cp, rfl, hcp, hcm, hat⟩ := zs_open w0
  clear hat hcp hcm
  have HG := Lib.hid (g36 w _ z0 a1 w0 w1)
  have HSB := Lib.hid (scopesBytes w _ z0 w0)
  have HAO := Lib.hid (aritiesOK w _ z0 w0)
  have HCP := Lib.hid (copyz.zs w _ z0 w0)
  obtain ⟨n, hn⟩ : ∃ n, n = z0.length := ⟨_, rfl⟩
  have HN := Lib.hid hn
  rw [← hn] at HG HSB HAO HCP ⊢
  unfold maxLen at w1
  clear w0 hn
  go_enter Try.func6, Try.ntmps6
  go_wp2_with fail
  go_at_call 36
  refine HG.out.mono ?_
  rintro e wg ⟨b, rfl, rfl, hb⟩
  cases b with
  | false =>
    clear hb HG HSB HAO HCP
    go_wp2_with fail
    go_ret
    exact ⟨rfl, Below.refl _ _⟩
  | true =>
  obtain ⟨hD, hs⟩ := hb rfl
  rw [← HN.out] at hD
  have HSH := Lib.hid hs
  clear hb hs HG
  by_cases hn0 : n = 0
  · subst hn0
    clear HCP
    clear HAO
    go_wp2_with fail
    all_goals first | (go_ret; exact ⟨rfl, Below.refl _ _⟩) | skip
    all_goals go_at_call 27
    all_goals refine HSB.out.mono ?_
    all_goals rintro e wg ⟨q, rfl, rfl⟩
    all_goals clear HSB
    all_goals go_wp2_with fail
    all_goals (go_ret; exact ⟨rfl, Below.refl _ _⟩)
  by_cases hl1 : 65536 < n
  · clear HSB HAO HCP
    go_wp2_with fail
    go_ret
    exact ⟨rfl, Below.refl _ _⟩
  by_cases hl2 : 65536 < a1.size
  · clear HSB HAO HCP
    go_wp2_with fail
    go_ret
    exact ⟨rfl, Below.refl _ _⟩
  go_wp2_with fail
  go_at_call 27
  refine HSB.out.mono ?_
  rintro e wg ⟨q, rfl, rfl⟩
  clear HSB
  go_wp2_with fail
  all_goals first | (go_ret; exact ⟨rfl, Below.refl _ _⟩) | skip
  go_at_call 28
  refine HAO.out.mono ?_
  rintro e wg ⟨b, rfl, rfl⟩
  clear HAO
  cases b with
  | false =>
    clear HCP
    go_wp2_with fail
    go_ret
    exact ⟨rfl, Below.refl _ _⟩
  | true =>
  go_wp2_with fail
  go_at_call 29
  refine (HCP.out (by omega) (fun k z hz => by obtain ⟨x1, x2, x3⟩ := HSH.out k z (List.getElem?_eq_some_iff.1 hz).1 hz; exact ⟨by omega, by omega, by omega⟩)).mono ?_
  rintro e wc ⟨v', rfl, hz, hb⟩
  clear HCP
  have HZR := Lib.hid hz
  have HBC := Lib.hid hb
  have HBD := Lib.hid (build.build wc v' z0 hz (by rw [← HN.out]; exact hD) HSH.out (by rw [← HN.out]; omega))
  obtain ⟨a', cp', rfl, hcp, hcm, hat⟩ := zs_open hz
  have HAT := Lib.hid hat
  rw [← HN.out] at hcp HZR HBD ⊢
  unfold maxLen at hcm
  clear hz hb hat
  go_wp2_with fail
  go_at_call 30
  refine HBD.out.mono ?_
  rintro e wb ⟨rfl, ⟨col, bb, sv, bs, hC⟩, hb⟩
  have HB := Lib.hid hb
  have HCA := Lib.hid hC
  have HVL : Hid (∀ (k : Nat) (s : Sc), (scs z0 n)[k]? = some s → s.vars.length ≤ 2097152 ∧ s.funcs.length ≤ 2097152) := by unfold Hid; rw [HN.out]; exact scs_small z0 HSH.out
  clear hb hC HBD
  have HLK := Lib.hid (zlook HCA.out a1 (by rw [scs_len]; omega) (fun k s h => (HVL.out k s h).1))
  go_wp2_with fail
  go_at_call 32
  refine HLK.out.mono ?_
  rintro e wl ⟨hl, hb⟩
  obtain ⟨ia, ib, er, rfl, hres⟩ := look_parts hl
  have HRES := Lib.hid hres
  have HBL := Lib.hid hb
  clear HLK hl hres hb
  go_wp2_with fail
  obtain ⟨W, hW⟩ : ∃ W, W = (wl.alloc (Obj.cells #[.int .i64 ia, .int .i64 ib] 50)).alloc (Obj.cells #[.int .i64 0, .int .i64 0] 50) := ⟨_, rfl⟩
  obtain ⟨g, hg⟩ : ∃ g, g = wl.heap.size := ⟨_, rfl⟩
  rw [← hW, ← hg]
  have hbW : Below wc.heap.size wc W := by
    rw [hW]; exact (((HB.out.trans (HBL.out.mono HB.out.size)).alloc (by have := HB.out.size; have := HBL.out.size; omega) _).alloc (by have := HB.out.size; have := HBL.out.size; simp; omega) _)
  have hgW : Blk W g #[.int .i64 ia, .int .i64 ib] 50 := by rw [hW, hg]; exact (Blk.new _ _ _).alloc _
  have hwW : Blk W (g + 1) #[.int .i64 0, .int .i64 0] 50 := by
    have := Blk.new (wl.alloc (Obj.cells #[.int .i64 ia, .int .i64 ib] 50)) #[.int .i64 0, .int .i64 0] 50
    rw [← hW] at this; simpa [hg] using this
  have HGC : Hid (wc.heap.size ≤ g) := by unfold Hid; have := HB.out.size; have := HBL.out.size; omega
  have HST : Hid (Below wc.heap.size wc W ∧ Blk W g #[.int .i64 ia, .int .i64 ib] 50 ∧ Blk W (g + 1) #[.int .i64 0, .int .i64 0] 50) := ⟨hbW, hgW, hwW⟩
  clear hW hg hbW hgW hwW HB HBL HCA HVL HSH HZR
  go_loopw [8, 10, 11] (fun f i _ wr => ∃ (k : Nat) (fd : Bool) (wa wb : Int), k ≤ n ∧ i = .int .i64 k ∧ f = .bool fd ∧ Hid (Want z0 a1 k 0 fd wa wb) ∧ Hid (Below wc.heap.size wc wr ∧ Blk wr g #[.int .i64 ia, .int .i64 ib] 50 ∧ Blk wr (g + 1) #[.int .i64 wa, .int .i64 wb] 50)) (fun _ i _ _ => n - (intOf i).toNat)
  case atStart => exact ⟨0, false, 0, 0, Nat.zero_le _, rfl, rfl, Want.start _ _, HST⟩
  case round =>
    obtain ⟨k, fd, wa, wb, hk, rfl, rfl, HWT, HST2⟩ := hrel
    clear HST
    by_cases hlt : k < n
    · obtain ⟨z, hz⟩ : ∃ z, z0[k]? = some z := ⟨_, List.getElem?_eq_getElem (by have := HN.out; omega)⟩
      obtain ⟨x, rfl, v1, v2, v3, h1, h2, h3, h4, h5, h6⟩ := HAT.out k z hz
      obtain ⟨va, vc, rfl, hv1, hv2, hva⟩ := str_open h4
      obtain ⟨vn, hvn⟩ : ∃ vn, vn = z.vars.length := ⟨_, rfl⟩
      rw [← hvn] at h1 hv1
      unfold maxLen at hv2
      have HZ := Lib.hid hz
      have HV := Lib.hid hva
      have HVN := Lib.hid hvn
      have H1 := Lib.hid h1
      clear h1 h2 h3 h4 h5 h6 hva hvn hz HAT
      go_wp2_with fail
      go_loopw [8, 11] (fun f i wr => ∃ (j : Nat) (fd : Bool) (wa wb : Int), j ≤ vn ∧ i = .int .i64 j ∧ f = .bool fd ∧ Hid (Want z0 a1 k j fd wa wb) ∧ Hid (Below wc.heap.size wc wr ∧ Blk wr g #[.int .i64 ia, .int .i64 ib] 50 ∧ Blk wr (g + 1) #[.int .i64 wa, .int .i64 wb] 50)) (fun _ i _ => vn - (intOf i).toNat)
      case atStart => exact ⟨0, fd, wa, wb, Nat.zero_le _, rfl, rfl, HWT, HST2⟩
      case round =>
        obtain ⟨j, fd, wa, wb, hj, rfl, rfl, HWT, HST2⟩ := hrel
        have c1 := cell_kept HST2.out.1 H1.out
        by_cases hjl : j < vn
        · obtain ⟨s, hs⟩ : ∃ s, z.vars[j]? = some s := ⟨_, List.getElem?_eq_getElem (by have := HVN.out; omega)⟩
          obtain ⟨x2, rfl, c0, _⟩ := HV.out j s hs
          have c2 := cell_kept HST2.out.1 c0
          have HS := Lib.hid hs
          clear c0 hs
          by_cases hq : s = a1
          · subst hq
            have q0 : wr.cell? ⟨g + 1, 0, none⟩ = some (.int .i64 wa) := by rw [Blk.cell HST2.out.2.2]; rfl
            have q1 : wr.cell? ⟨g + 1, 1, none⟩ = some (.int .i64 wb) := by rw [Blk.cell HST2.out.2.2]; rfl
            have p0 := Blk.free HST2.out.2.2 0
            have p1 := Blk.free HST2.out.2.2 1
            have p2 := Blk.lt HST2.out.2.2
            have HST3 : Hid (Below wc.heap.size wc ((wr.setCell ⟨g + 1, 0, none⟩ (.int .i64 ((k : Int) + 1))).setCell ⟨g + 1, 1, none⟩ (.int .i64 j)) ∧ Blk ((wr.setCell ⟨g + 1, 0, none⟩ (.int .i64 ((k : Int) + 1))).setCell ⟨g + 1, 1, none⟩ (.int .i64 j)) g #[.int .i64 ia, .int .i64 ib] 50 ∧ Blk ((wr.setCell ⟨g + 1, 0, none⟩ (.int .i64 ((k : Int) + 1))).setCell ⟨g + 1, 1, none⟩ (.int .i64 j)) (g + 1) #[.int .i64 ((k : Int) + 1), .int .i64 j] 50) := by
              have hgc := HGC.out
              refine ⟨(HST2.out.1.setCell (p := ⟨g + 1, 0, none⟩) (show wc.heap.size ≤ g + 1 by omega) _).setCell (p := ⟨g + 1, 1, none⟩) (show wc.heap.size ≤ g + 1 by omega) _, (HST2.out.2.1.other (p := ⟨g + 1, 0, none⟩) (show g ≠ g + 1 by omega) _).other (p := ⟨g + 1, 1, none⟩) (show g ≠ g + 1 by omega) _, ?_⟩
              have := (HST2.out.2.2.set 0 (.int .i64 ((k : Int) + 1))).set 1 (.int .i64 j)
              simpa using this
            have HW2 : Hid (Want z0 s k (j + 1) true ((k : Int) + 1) j) := HWT.out.hit HZ.out HS.out
            clear HST2 HWT
            go_wp2_with fail
            refine ⟨⟨j + 1, true, (k : Int) + 1, j, by omega, by go_num, rfl, HW2, HST3⟩, ?_⟩
            simp [intOf] <;> omega
          · have hne : (s.toList == a1.toList) = false := by
              rw [beq_eq_false_iff_ne]; intro e; rw [Lib.toList_data, Lib.toList_data] at e; exact hq (ByteArray.ext (Array.toList_inj.1 e))
            have HW2 : Hid (Want z0 a1 k (j + 1) fd wa wb) := HWT.out.miss HZ.out HS.out hq
            clear HWT
            go_wp2_with fail
            refine ⟨⟨j + 1, fd, wa, wb, by omega, by go_num, rfl, HW2, HST2⟩, ?_⟩
            simp [intOf] <;> omega
        · obtain rfl : j = vn := by omega
          have HW2 : Hid (Want z0 a1 (k + 1) 0 fd wa wb) := Want.line (z := z) (by rw [← HVN.out]; exact HWT.out) HZ.out
          clear HWT
          go_wp2_with fail
          refine ⟨⟨k + 1, fd, wa, wb, by omega, by go_num, rfl, HW2, HST2⟩, ?_⟩
          simp [intOf] <;> omega
    · obtain rfl : k = n := by omega
      have hag := agree (D := z0) (nm := a1) (by rw [← HN.out]; exact HWT.out) (by rw [← HN.out]; exact HRES.out)
      have g0 : wr.cell? ⟨g, 0, none⟩ = some (.int .i64 ia) := by rw [Blk.cell HST2.out.2.1]; rfl
      have g1 : wr.cell? ⟨g, 1, none⟩ = some (.int .i64 ib) := by rw [Blk.cell HST2.out.2.1]; rfl
      have q0 : wr.cell? ⟨g + 1, 0, none⟩ = some (.int .i64 wa) := by rw [Blk.cell HST2.out.2.2]; rfl
      have q1 : wr.cell? ⟨g + 1, 1, none⟩ = some (.int .i64 wb) := by rw [Blk.cell HST2.out.2.2]; rfl
      have HF : Hid (Below w.heap.size w wr) := HBC.out.trans (HST2.out.1.mono HBC.out.size)
      clear HWT HST2 HRES HAT HBC
      rcases hag with ⟨rfl, rfl, rfl, rfl⟩ | ⟨rfl, rfl, rfl, t, v, rfl⟩
      · have heq := eq'.eq50
        go_wp2_with fail
        go_ret
        exact ⟨by first | rfl | simp, HF.out⟩
      · have heq := eq'.eq50
        go_wp2_with fail
        go_ret
        exact ⟨by first | rfl | simp, HF.out⟩
end Go.Proofs.Ytmfpmpbilekbgaa.fnLookupVariableMatchesLastBinding
