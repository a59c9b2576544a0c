/- pushVariable answers the first place of the name or a new one; lookupVariable the last. -/
import Derived.Test.YtmfpmpbilekbgaaBuild
import Derived.Test.YtmfpmpbilekbgaaCopyZ
import Derived.Test.YtmfpmpbilekbgaaCount
import Derived.Test.YtmfpmpbilekbgaaGuard41
import Derived.Test.YtmfpmpbilekbgaaPlain
import Derived.Test.YtmfpmpbilekbgaaEq
import Derived.Test.YtmfpmpbilekbgaaState
set_option linter.unusedVariables false
namespace Go.Proofs.Ytmfpmpbilekbgaa.fnPushThenLookupVariable
open Go.ChangeShapes Go.WideShapes Go.ChangeAt Go.RowKit
open upd comp grow add lookv var newc push wrap pushv lookf doors zs guard model count plain state

set_option maxRecDepth 100000 in
set_option maxHeartbeats 8000000 in
theorem walk (a0 : Value) (z0 : List zs.Zs) (a1 : ByteArray) (w : World) (w0 : zs.ZsRow w a0 z0) (w1 : a1.size ≤ maxLen) :
    Calls Try.prog 9 #[a0, .string a1] w fun e w' => e = .returned (.bool true) ∧ Below w.heap.size w w' := by
  obtain ⟨a, cp, rfl, hcp, hcm, hat⟩ := zs_open w0
  clear hat hcp hcm
  have HG := Lib.hid (g41 w _ z0 a1 w0 w1)
  have HSB := Lib.hid (scopesBytes w _ z0 w0)
  have HAO := Lib.hid (aritiesOK w _ z0 w0)
  have HCP := Lib.hid (copyz.zs w _ z0 w0)
  obtain ⟨n, hn⟩ : ∃ n, n = z0.length := ⟨_, rfl⟩
  have HN := Lib.hid hn
  rw [← hn] at HG HSB HAO HCP ⊢
  unfold maxLen at w1
  clear w0 hn
  go_enter Try.func9, Try.ntmps9
  go_wp2_with fail
  go_at_call 41
  refine HG.out.mono ?_
  rintro e wg ⟨b, rfl, rfl, hb⟩
  cases b with
  | false =>
    clear hb HG HSB HAO HCP
    go_wp2_with fail
    go_ret
    exact ⟨rfl, Below.refl _ _⟩
  | true =>
  obtain ⟨hD, hs⟩ := hb rfl
  rw [← HN.out] at hD
  have HSH := Lib.hid hs
  clear hb hs HG
  by_cases hn0 : n = 0
  · subst hn0
    clear HCP
    clear HAO
    go_wp2_with fail
    all_goals first | (go_ret; exact ⟨rfl, Below.refl _ _⟩) | skip
    all_goals go_at_call 27
    all_goals refine HSB.out.mono ?_
    all_goals rintro e wg ⟨q, rfl, rfl⟩
    all_goals clear HSB
    all_goals go_wp2_with fail
    all_goals (go_ret; exact ⟨rfl, Below.refl _ _⟩)
  by_cases hl1 : 65536 < n
  · clear HSB HAO HCP
    go_wp2_with fail
    go_ret
    exact ⟨rfl, Below.refl _ _⟩
  by_cases hl2 : 65536 < a1.size
  · clear HSB HAO HCP
    go_wp2_with fail
    go_ret
    exact ⟨rfl, Below.refl _ _⟩
  go_wp2_with fail
  go_at_call 27
  refine HSB.out.mono ?_
  rintro e wg ⟨q, rfl, rfl⟩
  clear HSB
  go_wp2_with fail
  all_goals first | (go_ret; exact ⟨rfl, Below.refl _ _⟩) | skip
  go_at_call 28
  refine HAO.out.mono ?_
  rintro e wg ⟨b, rfl, rfl⟩
  clear HAO
  cases b with
  | false =>
    clear HCP
    go_wp2_with fail
    go_ret
    exact ⟨rfl, Below.refl _ _⟩
  | true =>
  go_wp2_with fail
  go_at_call 29
  refine (HCP.out (by omega) (fun k z hz => by obtain ⟨x1, x2, x3⟩ := HSH.out k z (List.getElem?_eq_some_iff.1 hz).1 hz; exact ⟨by omega, by omega, by omega⟩)).mono ?_
  rintro e wc ⟨v', rfl, hz, hb⟩
  clear HCP
  have HZR := Lib.hid hz
  have HBC := Lib.hid hb
  have HBD := Lib.hid (build.build wc v' z0 hz (by rw [← HN.out]; exact hD) HSH.out (by rw [← HN.out]; omega))
  obtain ⟨a', cp', rfl, hcp, hcm, hat⟩ := zs_open hz
  have HAT := Lib.hid hat
  rw [← HN.out] at hcp HZR HBD ⊢
  unfold maxLen at hcm
  clear hz hb hat
  go_wp2_with fail
  go_at_call 30
  refine HBD.out.mono ?_
  rintro e wb ⟨rfl, ⟨col, bb, sv, bs, hC⟩, hb⟩
  have HB := Lib.hid hb
  have HCA := Lib.hid hC
  have HVL : Hid (∀ (k : Nat) (s : Sc), (scs z0 n)[k]? = some s → s.vars.length ≤ 2097152 ∧ s.funcs.length ≤ 2097152) := by unfold Hid; rw [HN.out]; exact scs_small z0 HSH.out
  clear hb hC HBD
  obtain ⟨m, rfl⟩ : ∃ m, n = m + 1 := ⟨n - 1, by omega⟩
  have hw : IntKind.i64.wrap (((m + 1 : Nat) : Int) - 1) = m := by rw [IntWalk.i64_in _ (by omega)]; omega
  have i0 : (0 : Int) ≤ m := by omega
  have i1 : (m : Int) < ((m + 1 : Nat) : Int) := by omega
  obtain ⟨z, hz⟩ : ∃ z, z0[m]? = some z := ⟨_, List.getElem?_eq_getElem (by have := HN.out; omega)⟩
  obtain ⟨x, rfl, v1, v2, v3, h1, h2, h3, h4, h5, h6⟩ := HAT.out m z hz
  obtain ⟨va, vc, rfl, hv1, hv2, hva⟩ := str_open h4
  obtain ⟨fa, fc, rfl, _, _, _⟩ := str_open h5
  obtain ⟨ra, rc, rfl, _, _, _⟩ := int_open h6
  obtain ⟨vn, hvn⟩ : ∃ vn, vn = z.vars.length := ⟨_, rfl⟩
  have hsz := (HSH.out m z (by rw [← HN.out]; omega) hz).1
  rw [← hvn] at h1 hv1 hsz
  unfold maxLen at hv2
  have g1 := cell_kept HB.out h1
  have g2 := cell_kept HB.out h2
  have g3 := cell_kept HB.out h3
  rw [guard.add_succ x (m * 3) 0] at g2
  rw [guard.add_succ x (m * 3) 1] at g3
  have HSC : Hid (sc z0 m = ⟨(m : Int) + 1, z.vars, funs z (pcAt z0 m) z.funcs.length⟩) := by unfold Hid sc; rw [zd_at hz]
  have HP0 : Hid (PS wc.heap.size bb wc (scs z0 m ++ [⟨(m : Int) + 1, z.vars, funs z (pcAt z0 m) z.funcs.length⟩]) (((m + 1 : Nat) : Int) + 1) [] wb) := by
    have h := PS.start HCA.out HB.out HB.out.size
    rw [scs_snoc, HSC.out] at h; exact h
  have HVN := Lib.hid hvn
  have HV := Lib.hid hva
  have HLS : Hid ((scs z0 m).length ≤ 2097152) := by unfold Hid; rw [scs_len]; omega
  have HLV : Hid (∀ (k : Nat) (s : Sc), (scs z0 m)[k]? = some s → s.vars.length ≤ 2097152) := by
    unfold Hid; intro k s h
    refine (HVL.out k s ?_).1
    rw [scs_snoc, List.getElem?_append_left (List.getElem?_eq_some_iff.1 h).1]; exact h
  generalize z.funcs.length = q1 at g2
  generalize z.ars.length = q2 at g3
  obtain ⟨fs, hfs⟩ : ∃ fs, fs = funs z (pcAt z0 m) z.funcs.length := ⟨_, rfl⟩
  obtain ⟨base, hbase⟩ : ∃ base, base = wc.heap.size := ⟨_, rfl⟩
  rw [← hfs, ← hbase] at HP0
  have HBS := Lib.hid hbase
  clear h1 h2 h3 h4 h5 h6 hva hvn hz HSC HCA HVL HSH HAT HZR hfs
  go_wp2_with fail
  rw [← hbase]
  clear hbase g1 g2 g3 hw
  obtain ⟨W, hW⟩ : ∃ W, W = wb.alloc (Obj.cells #[.slice va vn vc, .slice fa q1 fc, .slice ra q2 rc] 59) := ⟨_, rfl⟩
  obtain ⟨T, hT⟩ : ∃ T, T = wb.heap.size := ⟨_, rfl⟩
  rw [← hW, ← hT]
  have HP1 : Hid (PS base bb wc (scs z0 m ++ [⟨(m : Int) + 1, z.vars, fs⟩]) (((m + 1 : Nat) : Int) + 1) [(T, #[.slice va vn vc, .slice fa q1 fc, .slice ra q2 rc], 59)] W) := by
    unfold Hid; rw [hW, hT]; exact HP0.out.alloc _ _
  have HWB : Hid (Below wc.heap.size wc W) := by unfold Hid; have := HP1.out.2.1; rwa [HBS.out] at this
  have HBT := PS.blk HP1.out (List.mem_cons_self)
  have b0 : W.cell? ⟨T, 0, none⟩ = some (.slice va vn vc) := by rw [Blk.cell HBT]; rfl
  have lT := Blk.lt HBT
  clear hW hT HBT HP0
  go_loop [7, 8, 9] (fun f l i => ∃ (j : Nat) (ff ll : Int), j ≤ vn ∧ i = .int .i64 j ∧ f = .int .i64 ff ∧ l = .int .i64 ll ∧ -1 ≤ ff ∧ Hid (FL z.vars a1 j ff ll)) (fun _ _ i => vn - (intOf i).toNat)
  case atStart => exact ⟨0, -1, -1, Nat.zero_le _, rfl, rfl, rfl, by omega, FL.start _ _⟩
  case round =>
    obtain ⟨j, ff, ll, hj, rfl, rfl, rfl, hff, HFL⟩ := hrel
    by_cases hjl : j < vn
    · obtain ⟨s, hs⟩ : ∃ s, z.vars[j]? = some s := ⟨_, List.getElem?_eq_getElem (by have := HVN.out; omega)⟩
      obtain ⟨x2, rfl, c0, _⟩ := HV.out j s hs
      have c1 := cell_kept HWB.out c0
      have HS := Lib.hid hs
      clear c0 hs
      by_cases hq : s = a1
      · subst hq
        by_cases hneg : ff < 0
        · have HF2 : Hid (FL z.vars s (j + 1) j j) := HFL.out.first HS.out hneg
          clear HFL
          go_wp2_with fail
          refine ⟨⟨j + 1, j, j, by omega, by go_num, rfl, rfl, by omega, HF2⟩, ?_⟩
          simp [intOf] <;> omega
        · have HF2 : Hid (FL z.vars s (j + 1) ff j) := HFL.out.later HS.out hneg
          clear HFL
          go_wp2_with fail
          refine ⟨⟨j + 1, ff, j, by omega, by go_num, rfl, rfl, by omega, HF2⟩, ?_⟩
          simp [intOf] <;> omega
      · have hne : (s.toList == a1.toList) = false := by
          rw [beq_eq_false_iff_ne]; intro e; rw [Lib.toList_data, Lib.toList_data] at e; exact hq (ByteArray.ext (Array.toList_inj.1 e))
        have HF2 : Hid (FL z.vars a1 (j + 1) ff ll) := HFL.out.miss HS.out hq
        clear HFL
        go_wp2_with fail
        refine ⟨⟨j + 1, ff, ll, by omega, by go_num, rfl, rfl, by omega, HF2⟩, ?_⟩
        simp [intOf] <;> omega
    · obtain rfl : j = vn := by omega
      have HC1 := Lib.hid (HP1.out.push a1 HLS.out (show z.vars.length ≤ 2097152 by rw [← HVN.out]; omega))
      clear hjl HV
      go_wp2_with fail
      go_at_call 42
      refine HC1.out.mono ?_
      rintro e u1 ⟨j1, s1, rfl, hp, hs1⟩
      have HS1 := Lib.hid hs1
      have HU1 := Lib.hid hp
      have hl1 : s1.vars.length ≤ 2097152 := by
        have := HVN.out
        rcases hs1 with ⟨_, _, rfl⟩ | ⟨_, _, rfl⟩
        · simp only []; omega
        · simp; omega
      have HL1 := Lib.hid hl1
      have hid1 : s1.id = (m : Int) + 1 := by rcases hs1 with ⟨_, _, rfl⟩ | ⟨_, _, rfl⟩ <;> rfl
      clear HC1 HP1 hp hs1 b0 lT hl1
      go_wp2_with fail
      obtain ⟨W1, hW1⟩ : ∃ W1, W1 = u1.alloc (Obj.cells #[.int .i64 ((m : Int) + 1), .int .i64 j1] 50) := ⟨_, rfl⟩
      obtain ⟨R1, hR1⟩ : ∃ R1, R1 = u1.heap.size := ⟨_, rfl⟩
      rw [← hW1, ← hR1]
      have HP2 : Hid (PS base bb wc (scs z0 m ++ [s1]) (((m + 1 : Nat) : Int) + 1) [(R1, #[.int .i64 ((m : Int) + 1), .int .i64 j1], 50), (T, #[.slice va j vc, .slice fa q1 fc, .slice ra q2 rc], 59)] W1) := by
        unfold Hid; rw [hW1, hR1]; exact HU1.out.alloc _ _
      have HC2 := Lib.hid (HP2.out.push a1 HLS.out HL1.out)
      clear hW1 hR1 HU1
      go_at_call 42
      refine HC2.out.mono ?_
      rintro e u2 ⟨j2, s2, rfl, hp, hs2⟩
      rw [hid1]
      have HS2 := Lib.hid hs2
      have HU2 := Lib.hid hp
      have hl2 : s2.vars.length ≤ 2097152 := by
        have h0 := HVN.out
        have h1 := HS1.out
        rcases hs2 with ⟨_, _, rfl⟩ | ⟨_, _, rfl⟩
        · exact HL1.out
        · rcases h1 with ⟨_, _, rfl⟩ | ⟨_, _, rfl⟩
          · simp; omega
          · simp; omega
      have HL2 := Lib.hid hl2
      clear HC2 HP2 hp hs2 hl2
      go_wp2_with fail
      obtain ⟨W2, hW2⟩ : ∃ W2, W2 = u2.alloc (Obj.cells #[.int .i64 ((m : Int) + 1), .int .i64 j2] 50) := ⟨_, rfl⟩
      obtain ⟨R2, hR2⟩ : ∃ R2, R2 = u2.heap.size := ⟨_, rfl⟩
      rw [← hW2, ← hR2]
      have HP3 : Hid (PS base bb wc (scs z0 m ++ [s2]) (((m + 1 : Nat) : Int) + 1) [(R2, #[.int .i64 ((m : Int) + 1), .int .i64 j2], 50), (R1, #[.int .i64 ((m : Int) + 1), .int .i64 j1], 50), (T, #[.slice va j vc, .slice fa q1 fc, .slice ra q2 rc], 59)] W2) := by
        unfold Hid; rw [hW2, hR2]; exact HU2.out.alloc _ _
      have HC3 := Lib.hid (HP3.out.look a1 (by simp [scs_len]; omega) (fun k s h => by
        rcases Nat.lt_or_ge k (scs z0 m).length with hlt | hge
        · rw [List.getElem?_append_left hlt] at h; exact HLV.out k s h
        · rw [List.getElem?_append_right hge] at h
          have hk : k - (scs z0 m).length = 0 := by have := (List.getElem?_eq_some_iff.1 h).1; simp at this; omega
          rw [hk] at h; simp at h; rw [← h]; exact HL2.out))
      clear hW2 hR2 HU2
      go_at_call 32
      refine HC3.out.mono ?_
      rintro e u3 ⟨ia, ib, er, rfl, hres, hp⟩
      have hfl : FL z.vars a1 z.vars.length ff ll := by rw [← HVN.out]; exact HFL.out
      obtain ⟨er0, hia, hcase⟩ := pushes (s := ⟨(m : Int) + 1, z.vars, fs⟩) (s1 := s1) (s2 := s2) hfl HS1.out HS2.out hres
      simp only [] at hcase
      rw [← HVN.out] at hcase
      clear hfl
      subst er0
      have hia2 : ia = (m : Int) + 1 := hia
      subst hia2
      have HU3 := Lib.hid hp
      have hvj := HVN.out
      have HX1 : Hid (PS base bb wc (scs z0 m ++ [s2]) (((m + 1 : Nat) : Int) + 1) [(u3.heap.size, #[.int .i64 ((m : Int) + 1), .int .i64 ib], 50), (R2, #[.int .i64 ((m : Int) + 1), .int .i64 j2], 50), (R1, #[.int .i64 ((m : Int) + 1), .int .i64 j1], 50), (T, #[.slice va j vc, .slice fa q1 fc, .slice ra q2 rc], 59)] (u3.alloc (Obj.cells #[.int .i64 ((m : Int) + 1), .int .i64 ib] 50))) := HU3.out.alloc _ _
      have HX2 : Hid (PS base bb wc (scs z0 m ++ [s2]) (((m + 1 : Nat) : Int) + 1) [(u3.heap.size + 1, #[.int .i64 ((m : Int) + 1), .int .i64 j], 50), (u3.heap.size, #[.int .i64 ((m : Int) + 1), .int .i64 ib], 50), (R2, #[.int .i64 ((m : Int) + 1), .int .i64 j2], 50), (R1, #[.int .i64 ((m : Int) + 1), .int .i64 j1], 50), (T, #[.slice va j vc, .slice fa q1 fc, .slice ra q2 rc], 59)] ((u3.alloc (Obj.cells #[.int .i64 ((m : Int) + 1), .int .i64 ib] 50)).alloc (Obj.cells #[.int .i64 ((m : Int) + 1), .int .i64 j] 50))) := by
        have h := HX1.out.alloc #[.int .i64 ((m : Int) + 1), .int .i64 j] 50
        have e : (u3.alloc (Obj.cells #[.int .i64 ((m : Int) + 1), .int .i64 ib] 50)).heap.size = u3.heap.size + 1 := by simp
        rw [e] at h; exact h
      have HF1 : Hid (Below w.heap.size w (u3.alloc (Obj.cells #[.int .i64 ((m : Int) + 1), .int .i64 ib] 50))) := by
        unfold Hid; have := HX1.out.2.1; rw [HBS.out] at this; exact HBC.out.trans (this.mono HBC.out.size)
      have HF2 : Hid (Below w.heap.size w ((u3.alloc (Obj.cells #[.int .i64 ((m : Int) + 1), .int .i64 ib] 50)).alloc (Obj.cells #[.int .i64 ((m : Int) + 1), .int .i64 j] 50))) := by
        unfold Hid; have := HX2.out.2.1; rw [HBS.out] at this; exact HBC.out.trans (this.mono HBC.out.size)
      have k1 := PS.blk HX1.out (n := T) (List.mem_cons_of_mem _ (List.mem_cons_of_mem _ (List.mem_cons_of_mem _ List.mem_cons_self)))
      have k2 := PS.blk HX1.out (n := R1) (List.mem_cons_of_mem _ (List.mem_cons_of_mem _ List.mem_cons_self))
      have k3 := PS.blk HX1.out (n := R2) (List.mem_cons_of_mem _ List.mem_cons_self)
      have k4 := PS.blk HX1.out (n := u3.heap.size) List.mem_cons_self
      have l1 := PS.blk HX2.out (n := T) (List.mem_cons_of_mem _ (List.mem_cons_of_mem _ (List.mem_cons_of_mem _ (List.mem_cons_of_mem _ List.mem_cons_self))))
      have l2 := PS.blk HX2.out (n := R1) (List.mem_cons_of_mem _ (List.mem_cons_of_mem _ (List.mem_cons_of_mem _ List.mem_cons_self)))
      have l3 := PS.blk HX2.out (n := R2) (List.mem_cons_of_mem _ (List.mem_cons_of_mem _ List.mem_cons_self))
      have l4 := PS.blk HX2.out (n := u3.heap.size) (List.mem_cons_of_mem _ List.mem_cons_self)
      have l5 := PS.blk HX2.out (n := u3.heap.size + 1) List.mem_cons_self
      clear HC3 HP3 hp hres hia HS1 HS2 HFL HL1 HL2 hid1 HX1 HX2 HU3 hvj HVN HLS HLV HWB HBC
      have heq := eq'.eq50
      rcases hcase with ⟨rfl, rfl, e1, e2, rfl⟩ | ⟨hf0, e1, e2, rfl⟩
      · have m0 : ((u3.alloc (Obj.cells #[.int .i64 ((m : Int) + 1), .int .i64 j] 50)).alloc (Obj.cells #[.int .i64 ((m : Int) + 1), .int .i64 j] 50)).cell? ⟨T, 0, none⟩ = some (.slice va j vc) := by rw [Blk.cell l1]; rfl
        have n0 : (u3.alloc (Obj.cells #[.int .i64 ((m : Int) + 1), .int .i64 j] 50)).cell? ⟨T, 0, none⟩ = some (.slice va j vc) := by rw [Blk.cell k1]; rfl
        have m1 : ((u3.alloc (Obj.cells #[.int .i64 ((m : Int) + 1), .int .i64 j] 50)).alloc (Obj.cells #[.int .i64 ((m : Int) + 1), .int .i64 j] 50)).cell? ⟨R1, 0, none⟩ = some (.int .i64 ((m : Int) + 1)) := by rw [Blk.cell l2]; rfl
        have m2 : ((u3.alloc (Obj.cells #[.int .i64 ((m : Int) + 1), .int .i64 j] 50)).alloc (Obj.cells #[.int .i64 ((m : Int) + 1), .int .i64 j] 50)).cell? ⟨R1, 1, none⟩ = some (.int .i64 j1) := by rw [Blk.cell l2]; rfl
        have m3 : ((u3.alloc (Obj.cells #[.int .i64 ((m : Int) + 1), .int .i64 j] 50)).alloc (Obj.cells #[.int .i64 ((m : Int) + 1), .int .i64 j] 50)).cell? ⟨R2, 0, none⟩ = some (.int .i64 ((m : Int) + 1)) := by rw [Blk.cell l3]; rfl
        have m4 : ((u3.alloc (Obj.cells #[.int .i64 ((m : Int) + 1), .int .i64 j] 50)).alloc (Obj.cells #[.int .i64 ((m : Int) + 1), .int .i64 j] 50)).cell? ⟨R2, 1, none⟩ = some (.int .i64 j2) := by rw [Blk.cell l3]; rfl
        have m5 : ((u3.alloc (Obj.cells #[.int .i64 ((m : Int) + 1), .int .i64 j] 50)).alloc (Obj.cells #[.int .i64 ((m : Int) + 1), .int .i64 j] 50)).cell? ⟨u3.heap.size, 0, none⟩ = some (.int .i64 ((m : Int) + 1)) := by rw [Blk.cell l4]; rfl
        have m6 : ((u3.alloc (Obj.cells #[.int .i64 ((m : Int) + 1), .int .i64 j] 50)).alloc (Obj.cells #[.int .i64 ((m : Int) + 1), .int .i64 j] 50)).cell? ⟨u3.heap.size, 1, none⟩ = some (.int .i64 j) := by rw [Blk.cell l4]; rfl
        have m7 : ((u3.alloc (Obj.cells #[.int .i64 ((m : Int) + 1), .int .i64 j] 50)).alloc (Obj.cells #[.int .i64 ((m : Int) + 1), .int .i64 j] 50)).cell? ⟨u3.heap.size + 1, 0, none⟩ = some (.int .i64 ((m : Int) + 1)) := by rw [Blk.cell l5]; rfl
        have m8 : ((u3.alloc (Obj.cells #[.int .i64 ((m : Int) + 1), .int .i64 j] 50)).alloc (Obj.cells #[.int .i64 ((m : Int) + 1), .int .i64 j] 50)).cell? ⟨u3.heap.size + 1, 1, none⟩ = some (.int .i64 j) := by rw [Blk.cell l5]; rfl
        have e1' : ((j1 : Int) == (j : Int)) = true := by rw [e1]; simp
        have e2' : ((j2 : Int) == (j : Int)) = true := by rw [e2]; simp
        clear e1 e2 k1 k2 k3 k4 l1 l2 l3 l4 l5 HF1
        go_wp2_with fail
        go_ret
        exact ⟨rfl, HF2.out⟩
      · obtain rfl : j2 = j1 := by omega
        obtain rfl : ff = (j2 : Int) := e1.symm
        have m1 : (u3.alloc (Obj.cells #[.int .i64 ((m : Int) + 1), .int .i64 ib] 50)).cell? ⟨R1, 0, none⟩ = some (.int .i64 ((m : Int) + 1)) := by rw [Blk.cell k2]; rfl
        have m2 : (u3.alloc (Obj.cells #[.int .i64 ((m : Int) + 1), .int .i64 ib] 50)).cell? ⟨R1, 1, none⟩ = some (.int .i64 j2) := by rw [Blk.cell k2]; rfl
        have m3 : (u3.alloc (Obj.cells #[.int .i64 ((m : Int) + 1), .int .i64 ib] 50)).cell? ⟨R2, 0, none⟩ = some (.int .i64 ((m : Int) + 1)) := by rw [Blk.cell k3]; rfl
        have m4 : (u3.alloc (Obj.cells #[.int .i64 ((m : Int) + 1), .int .i64 ib] 50)).cell? ⟨R2, 1, none⟩ = some (.int .i64 j2) := by rw [Blk.cell k3]; rfl
        have m5 : (u3.alloc (Obj.cells #[.int .i64 ((m : Int) + 1), .int .i64 ib] 50)).cell? ⟨u3.heap.size, 0, none⟩ = some (.int .i64 ((m : Int) + 1)) := by rw [Blk.cell k4]; rfl
        have m6 : (u3.alloc (Obj.cells #[.int .i64 ((m : Int) + 1), .int .i64 ib] 50)).cell? ⟨u3.heap.size, 1, none⟩ = some (.int .i64 ib) := by rw [Blk.cell k4]; rfl
        clear e1 e2 hf0 hff k1 k2 k3 k4 l1 l2 l3 l4 l5 HF2
        have hJ0 : ¬ (j2 : Int) < 0 := by omega
        generalize (j2 : Int) = J at hJ0 m2 m4 ⊢
        go_simp
        iterate 84 (first | go_values | go_skip | go_guarded | go_step | go_upon | go_back | go_simp)
        go_wp2_with fail
        go_ret
        exact ⟨rfl, HF1.out⟩
end Go.Proofs.Ytmfpmpbilekbgaa.fnPushThenLookupVariable
