/- The walk of the law FnPopscopeIsLIFOWithoutForks: it returns true at every input. -/
import Derived.Test.YtemifkcgmfincaaTri
set_option linter.unusedVariables false
namespace Go.Proofs.Ytemifkcgmfincaa.fnPopscopeIsLIFOWithoutForks
open Go.ChangeShapes Go.WideShapes Go.ChangeAt Go.RowKit
open upd env plain ops forks popf fill init steps tri

set_option maxRecDepth 100000 in
set_option maxHeartbeats 8000000 in
theorem walk (a0 : Option Addr) (len0 cap0 : Nat) (z0 : List Int) (a1 : Option Addr) (len1 cap1 : Nat) (z1 : List Int) (w : World) (w0 : inp.IsRow .i64 w a0 len0 cap0 z0) (w1 : inp.IsRow .u8 w a1 len1 cap1 z1) :
    Calls Try.prog 8 #[.slice a0 len0 cap0, .slice a1 len1 cap1] w fun e w' => e = .returned (.bool true) ∧ Below w.heap.size w w' := by
  obtain ⟨bs, hbs, hin0, hnil0, hm0⟩ := open_ints a0 len0 cap0 z0 w w0
  obtain ⟨bo, hbo, hin1, hnil1, hm1⟩ := open_bytes a1 len1 cap1 z1 w w1
  obtain ⟨i0, hi, hz0, hz1, hz2⟩ := info_parts info3
  clear w0 w1 hbs
  have HZ := Lib.hid (zb36 a0 a1 len0 cap0 len1 cap1 w hm0 hm1)
  have HI1 := Lib.hid hin1; have HN1 := Lib.hid hnil1; have HBO := Lib.hid hbo
  by_cases hb0 : 4096 < len0
  · have hb' : (4096 : Int) < len0 := by omega
    clear hin0 hnil0 hin1 hnil1 hbo
    go_enter Try.func8, Try.ntmps8
    go_wp2_with (go_at_call 36; refine HZ.out.mono ?_; rintro e w1 ⟨b, rfl, rfl⟩)
    all_goals (go_ret; exact ⟨rfl, Below.refl _ _⟩)
  have hl0 : len0 ≤ 4096 := by omega
  by_cases hb1 : 4096 < len1
  · have hb' : (4096 : Int) < len1 := by omega
    clear hin0 hnil0 hin1 hnil1 hbo
    go_enter Try.func8, Try.ntmps8
    go_wp2_with (go_at_call 36; refine HZ.out.mono ?_; rintro e w1 ⟨b, rfl, rfl⟩)
    all_goals (go_ret; exact ⟨rfl, Below.refl _ _⟩)
  have hl1 : len1 ≤ 4096 := by omega
  have HC0 := Lib.hid (cloneI a0 cap0 len0 bs w hin0 hnil0 hl0)
  clear hb0 hb1 hm0 hm1 hin0 hnil0 hin1 hnil1 hbo
  go_enter Try.func8, Try.ntmps8
  go_wp2_with (first | (go_at_call 36; refine HZ.out.mono ?_; rintro e w1 ⟨b, rfl, rfl⟩) | (go_at_call 10; refine HC0.out.mono ?_; rintro e w1 ⟨ac0, cc0, rfl, hin1, _, hb1⟩; have HIN0 := Lib.hid hin1; have HB0 := Lib.hid hb1; clear hin1 hb1 HC0) | (go_at_call 26; refine (cloneB a1 cap1 len1 bo _ (HI1.out.kept HB0.out) HN1.out hl1).mono ?_; rintro e w2 ⟨ac1, cc1, rfl, hin2, _, hb2⟩; have HJ1 := Lib.hid hin2; have HB1 := Lib.hid (HB0.out.trans (hb2.mono HB0.out.size)); have HJ0 := Lib.hid (HIN0.out.kept hb2); clear HIN0 hin2 hb2 HB0) | (go_at_call 11; refine (s_new _).mono ?_; rintro e w3 ⟨eb, rfl, h3⟩; have HT0 := Lib.hid (TL.start h3); clear h3))
  · go_ret
    exact ⟨rfl, Below.refl _ _⟩
  clear HI1 HN1 HZ
  go_loopw [45, 6, 7, 8, 9, 10] (fun i ua ub uc uo un wr => ∃ (k nx : Nat) (la lb lc : List Int) (o : Int) (a b c : Option Addr) (ca cb cc : Nat), k ≤ len1 ∧ nx ≤ len0 ∧ la.length ≤ k ∧ i = .int .i64 k ∧ ua = .slice a la.length ca ∧ ub = .slice b lb.length cb ∧ uc = .slice c lc.length cc ∧ uo = .int .i64 o ∧ un = .int .i64 nx ∧ Hid (lb.length = la.length ∧ lc.length = la.length) ∧ Hid (TL w2.heap.size eb w2 wr (.slice a la.length ca) (.slice b lb.length cb) (.slice c lc.length cc) la lb lc la lb lc o k)) (fun i _ _ _ _ _ _ => len1 - (intOf i).toNat)
  case atStart => exact ⟨0, 0, [], [], [], 0, none, none, none, 0, 0, 0, Nat.zero_le _, Nat.zero_le _, Nat.le_refl _, rfl, rfl, rfl, rfl, rfl, rfl, ⟨rfl, rfl⟩, HT0.out⟩
  case round =>
    obtain ⟨k, nx, la, lb, lc, o, a, b2, c, ca, cb, cc, hk, hnx, hla, rfl, rfl, rfl, rfl, rfl, rfl, HLN, HT⟩ := hrel
    clear HT0
    by_cases hlt : k < len1
    · obtain ⟨xo, rfl, hxob, hxo⟩ := cp_cell HJ1.out (k := k) hlt
      have c0 : wr.cell? (xo.add k) = some (.int .u8 (bo k)) := HT.out.row hxob hxo
      have hbk := HBO.out k
      clear hxo
      by_cases hp : bo k % 2 = 0
      · have hp' : (bo k % 2 == 0) = true := by simpa using hp
        by_cases hA : nx + 3 ≤ len0
        · obtain ⟨xa, rfl, hxb, hx0⟩ := cp_cell HJ0.out (k := nx) (by omega)
          obtain ⟨xa', e, _, hx1⟩ := cp_cell HJ0.out (k := nx + 1) (by omega)
          cases e
          obtain ⟨xa', e, _, hx2⟩ := cp_cell HJ0.out (k := nx + 2) (by omega)
          cases e
          have d0 : wr.cell? (xa.add nx) = some (.int .i64 (bs nx)) := HT.out.row hxb hx0
          have d1 : wr.cell? (xa.add (nx + 1)) = some (.int .i64 (bs (nx + 1))) := HT.out.row hxb hx1
          have d2 : wr.cell? (xa.add (nx + 2)) = some (.int .i64 (bs (nx + 2))) := HT.out.row hxb hx2
          rw [add_succ] at d1 d2
          have q0 : (0 : Int) ≤ nx := by omega
          have q1 : (nx : Int) < len0 := by omega
          have q2 : (nx : Int) + 1 < len0 := by omega
          have q3 : (nx : Int) + 2 < len0 := by omega
          have q4 : (0 : Int) ≤ (nx : Int) + 1 := by omega
          have q5 : (0 : Int) ≤ (nx : Int) + 2 := by omega
          have q6 : (nx : Int) + 3 ≤ len0 := by omega
          have t1 : ((nx : Int) + 1).toNat = nx + 1 := by omega
          have t2 : ((nx : Int) + 2).toNat = nx + 2 := by omega
          have hl4 : la.length ≤ 4096 := by omega
          have hlb4 : lb.length ≤ 4096 := by have := HLN.out; omega
          have hlc4 : lc.length ≤ 4096 := by have := HLN.out; omega
          clear hx0 hx1 hx2 hp
          obtain ⟨va, hva⟩ : ∃ va, va = Value.slice a la.length ca := ⟨_, rfl⟩
          obtain ⟨vb, hvb⟩ : ∃ vb, vb = Value.slice b2 lb.length cb := ⟨_, rfl⟩
          obtain ⟨vc, hvc⟩ : ∃ vc, vc = Value.slice c lc.length cc := ⟨_, rfl⟩
          rw [← hva, ← hvb, ← hvc] at HT ⊢
          clear hva hvb hvc
          go_wp2_with (first | (go_at_call 13; refine (HT.out.scope _ _ _ (by omega)).mono ?_; rintro e w4 ⟨rfl, h4⟩; have H4 := Lib.hid h4; have z4 := h4.below.2; clear h4) | (at_builtin; have hguard := H6; clear hguard; refine wpList_append_lies _ rfl (.tmp 86) (.tmp 88) 22 rfl w2.heap.size 3 i0 (.int .i64 0) 1 8 Try.underlying22 hi hz0 hz1 hz2 rfl (by decide) _ lc.length (ic lc) rfl (World.ownsRow.alloc H6.out.ownC _) ⟨w6.heap.size, 0, none⟩ 1 1 [.int .i64 (bs (nx + 2))] rfl rfl (cell_one_new _ _ _) (by intro u hu; simp at hu; subst hu; rfl) (by decide) (by unfold maxLen; omega) (by omega) (by simp; omega) _ rfl ?_; intro g7 cp7 w7 hown hgrow hat hlt7; have H7 := Lib.hid (H6.out.appC hown hgrow hat (by simp)); clear hown hgrow hat hlt7) | (at_builtin; have hguard := H5; clear hguard; refine wpList_append_lies _ rfl (.tmp 82) (.tmp 84) 22 rfl w2.heap.size 3 i0 (.int .i64 0) 1 8 Try.underlying22 hi hz0 hz1 hz2 rfl (by decide) _ lb.length (ic lb) rfl (World.ownsRow.alloc H5.out.ownB _) ⟨w5.heap.size, 0, none⟩ 1 1 [.int .i64 (bs (nx + 1))] rfl rfl (cell_one_new _ _ _) (by intro u hu; simp at hu; subst hu; rfl) (by decide) (by unfold maxLen; omega) (by omega) (by simp; omega) _ rfl ?_; intro g6 cp6 w6 hown hgrow hat hlt6; have H6 := Lib.hid (H5.out.appB hown hgrow hat (by simp)); have z6 := H6.out.below.2; clear hown hgrow hat hlt6 H5) | (at_builtin; refine wpList_append_lies _ rfl (.tmp 78) (.tmp 80) 22 rfl w2.heap.size 3 i0 (.int .i64 0) 1 8 Try.underlying22 hi hz0 hz1 hz2 rfl (by decide) _ la.length (ic la) rfl (World.ownsRow.alloc H4.out.ownA _) ⟨w4.heap.size, 0, none⟩ 1 1 [.int .i64 (bs nx)] rfl rfl (cell_one_new _ _ _) (by intro u hu; simp at hu; subst hu; rfl) (by decide) (by unfold maxLen; omega) (by omega) (by simp; omega) _ rfl ?_; intro g5 cp5 w5 hown hgrow hat hlt5; have H5 := Lib.hid (H4.out.appA hown hgrow hat (by simp)); have z5 := H5.out.below.2; clear hown hgrow hat hlt5 H4) | (go_at_call 21; refine (H7.out.offset).mono ?_; rintro e w8 ⟨rfl, rfl⟩) | (go_at_call 35; refine (H7.out.index (i := la.length) (by simp)).mono ?_; rintro e w8 ⟨rfl, rfl⟩) | (go_at_call 24; refine (H7.out.empty (b := false) (by simp)).mono ?_; rintro e w8 ⟨rfl, rfl⟩))
          go_roundw
          case rel => exact ⟨k + 1, nx + 3, la ++ [bs nx], lb ++ [bs (nx + 1)], lc ++ [bs (nx + 2)], o, some ⟨g5, 0, none⟩, some ⟨g6, 0, none⟩, some ⟨g7, 0, none⟩, cp5, cp6, cp7, by omega, by omega, by simp; omega, by go_num, by simp, by simp, by simp, rfl, by go_num, (by unfold Hid; simp; exact HLN.out), (by simp only [List.length_append, List.length_singleton]; exact H7.out)⟩
          case measure => simp [intOf] <;> omega
        · have hA' : ¬ ((nx : Int) + 3 ≤ len0) := by omega
          have hA2 : (len0 : Int) < (nx : Int) + 3 := by omega
          clear hA hp
          by_cases hz : la.length = 0
          · have hz' : ((la.length : Int) == 0) = true := beq_iff_eq.mpr (by omega)
            have hz2 : ¬ (0 : Int) < la.length := by omega
            have hz3 : ¬ 0 < la.length := by omega
            have hz4 : la.length ≤ 0 := by omega
            clear hz
            go_wp2_with (first | (go_at_call 21; refine (HT.out.offset).mono ?_; rintro e w8 ⟨rfl, rfl⟩) | (go_at_call 35; refine (HT.out.index rfl).mono ?_; rintro e w8 ⟨rfl, rfl⟩) | (go_at_call 24; refine (HT.out.empty (b := true) (decide_eq_true (by omega))).mono ?_; rintro e w8 ⟨rfl, rfl⟩))
            go_roundw
            case rel => exact ⟨k + 1, nx, la, lb, lc, o, a, b2, c, ca, cb, cc, by omega, by omega, by omega, by go_num, rfl, rfl, rfl, rfl, rfl, HLN, HT.out.up (by omega)⟩
            case measure => simp [intOf] <;> omega
          · have hz' : ((la.length : Int) == 0) = false := beq_eq_false_iff_ne.mpr (by omega)
            have hz2 : (0 : Int) < la.length := by omega
            have hz3 : 0 < la.length := by omega
            clear hz
            go_wp2_with (first | (go_at_call 21; refine (HT.out.offset).mono ?_; rintro e w8 ⟨rfl, rfl⟩) | (go_at_call 35; refine (HT.out.index rfl).mono ?_; rintro e w8 ⟨rfl, rfl⟩) | (go_at_call 24; refine (HT.out.empty (b := false) (decide_eq_false (by omega))).mono ?_; rintro e w8 ⟨rfl, rfl⟩))
            go_roundw
            case rel => exact ⟨k + 1, nx, la, lb, lc, o, a, b2, c, ca, cb, cc, by omega, by omega, by omega, by go_num, rfl, rfl, rfl, rfl, rfl, HLN, HT.out.up (by omega)⟩
            case measure => simp [intOf] <;> omega
      · have hp' : (bo k % 2 == 0) = false := by simpa using hp
        by_cases hD : 0 < la.length
        · obtain ⟨m, hm⟩ : ∃ m, la.length = m + 1 := ⟨la.length - 1, by omega⟩
          have hlb := HLN.out.1; have hlc := HLN.out.2
          obtain ⟨ga, ca', ea, hca, _⟩ := HT.out.atA (at_last la m (by omega))
          obtain ⟨gb, cb', eb2, hcb, _⟩ := HT.out.atB (at_last lb m (by omega))
          obtain ⟨gc, cc', ec2, hcc, _⟩ := HT.out.atC (at_last lc m (by omega))
          simp only [Value.slice.injEq, true_and] at ea eb2 ec2
          obtain ⟨rfl, rfl⟩ := ea
          obtain ⟨rfl, rfl⟩ := eb2
          obtain ⟨rfl, rfl⟩ := ec2
          have hm1 : (la.length : Int) - 1 = m := by omega
          have hm2 : (0 : Int) ≤ m := by omega
          have hm3 : (m : Int) < la.length := by omega
          have hm4 : (m : Int) < lb.length := by omega
          have hm5 : (m : Int) < lc.length := by omega
          have hm6 : (m : Int) ≤ ca := by omega
          have hm7 : (m : Int) ≤ cb := by omega
          have hm8 : (m : Int) ≤ cc := by omega
          have hm9 : (0 : Int) < la.length := by omega
          have hma : m ≤ ca := by omega
          have hmb : m ≤ cb := by omega
          have hmc : m ≤ cc := by omega
          have HM := Lib.hid hm
          have hta : Hid ((la.take m).length = m) := by unfold Hid; simp; omega
          have htb : Hid ((lb.take m).length = m) := by unfold Hid; simp; omega
          have htc : Hid ((lc.take m).length = m) := by unfold Hid; simp; omega
          have HLB := Lib.hid hlb; have HLC := Lib.hid hlc
          clear hp hm hlb hlc
          by_cases hz : m = 0
          · have hz' : ((m : Int) == 0) = true := beq_iff_eq.mpr (by omega)
            have hz2 : m ≤ 0 := by omega
            clear hz
            go_wp2_with (first | (go_at_call 18; refine (HT.out.popscope HM.out).mono ?_; rintro e w4 ⟨rfl, h4⟩; have H4 := Lib.hid h4; have e0 := h4.cellA (at_last la m (by omega)); have e1 := h4.cellB (at_last lb m (by omega)); have e2 := h4.cellC (at_last lc m (by omega)); clear h4) | (go_at_call 21; refine (H4.out.offset).mono ?_; rintro e w8 ⟨rfl, rfl⟩) | (go_at_call 35; refine (H4.out.index (i := (m : Int) - 1) (by rw [hta.out])).mono ?_; rintro e w8 ⟨rfl, rfl⟩) | (go_at_call 24; refine (H4.out.empty (b := true) (by rw [hta.out]; exact decide_eq_true (by omega))).mono ?_; rintro e w8 ⟨rfl, rfl⟩))
            go_roundw
            case rel => exact ⟨k + 1, nx, la.take m, lb.take m, lc.take m, _, some ⟨ga, 0, none⟩, some ⟨gb, 0, none⟩, some ⟨gc, 0, none⟩, ca, cb, cc, by omega, by omega, by rw [hta.out]; omega, by go_num, by rw [hta.out]; simp; omega, by rw [htb.out]; simp; omega, by rw [htc.out]; simp; omega, rfl, rfl, (by unfold Hid; rw [hta.out, htb.out, htc.out]; exact ⟨rfl, rfl⟩), (by unfold Hid; rw [hta.out, htb.out, htc.out]; exact (H4.out.cut (by have := HM.out; omega) (by have := HM.out; have := HLB.out; omega) (by have := HM.out; have := HLC.out; omega)).up (by omega))⟩
            case measure => simp [intOf] <;> omega
          · have hz' : ((m : Int) == 0) = false := beq_eq_false_iff_ne.mpr (by omega)
            have hz2 : 0 < m := by omega
            clear hz
            go_wp2_with (first | (go_at_call 18; refine (HT.out.popscope HM.out).mono ?_; rintro e w4 ⟨rfl, h4⟩; have H4 := Lib.hid h4; have e0 := h4.cellA (at_last la m (by omega)); have e1 := h4.cellB (at_last lb m (by omega)); have e2 := h4.cellC (at_last lc m (by omega)); clear h4) | (go_at_call 21; refine (H4.out.offset).mono ?_; rintro e w8 ⟨rfl, rfl⟩) | (go_at_call 35; refine (H4.out.index (i := (m : Int) - 1) (by rw [hta.out])).mono ?_; rintro e w8 ⟨rfl, rfl⟩) | (go_at_call 24; refine (H4.out.empty (b := false) (by rw [hta.out]; exact decide_eq_false (by omega))).mono ?_; rintro e w8 ⟨rfl, rfl⟩))
            go_roundw
            case rel => exact ⟨k + 1, nx, la.take m, lb.take m, lc.take m, _, some ⟨ga, 0, none⟩, some ⟨gb, 0, none⟩, some ⟨gc, 0, none⟩, ca, cb, cc, by omega, by omega, by rw [hta.out]; omega, by go_num, by rw [hta.out], by rw [htb.out], by rw [htc.out], rfl, rfl, (by unfold Hid; rw [hta.out, htb.out, htc.out]; exact ⟨rfl, rfl⟩), (by unfold Hid; rw [hta.out, htb.out, htc.out]; exact (H4.out.cut (by have := HM.out; omega) (by have := HM.out; have := HLB.out; omega) (by have := HM.out; have := HLC.out; omega)).up (by omega))⟩
            case measure => simp [intOf] <;> omega
        · clear hp
          by_cases hz : la.length = 0
          · have hz' : ((la.length : Int) == 0) = true := beq_iff_eq.mpr (by omega)
            have hz2 : ¬ (0 : Int) < la.length := by omega
            have hz3 : ¬ 0 < la.length := by omega
            have hz4 : la.length ≤ 0 := by omega
            clear hz
            go_wp2_with (first | (go_at_call 21; refine (HT.out.offset).mono ?_; rintro e w8 ⟨rfl, rfl⟩) | (go_at_call 35; refine (HT.out.index rfl).mono ?_; rintro e w8 ⟨rfl, rfl⟩) | (go_at_call 24; refine (HT.out.empty (b := true) (decide_eq_true (by omega))).mono ?_; rintro e w8 ⟨rfl, rfl⟩))
            go_roundw
            case rel => exact ⟨k + 1, nx, la, lb, lc, o, a, b2, c, ca, cb, cc, by omega, by omega, by omega, by go_num, rfl, rfl, rfl, rfl, rfl, HLN, HT.out.up (by omega)⟩
            case measure => simp [intOf] <;> omega
          · have hz' : ((la.length : Int) == 0) = false := beq_eq_false_iff_ne.mpr (by omega)
            have hz2 : (0 : Int) < la.length := by omega
            have hz3 : 0 < la.length := by omega
            clear hz
            go_wp2_with (first | (go_at_call 21; refine (HT.out.offset).mono ?_; rintro e w8 ⟨rfl, rfl⟩) | (go_at_call 35; refine (HT.out.index rfl).mono ?_; rintro e w8 ⟨rfl, rfl⟩) | (go_at_call 24; refine (HT.out.empty (b := false) (decide_eq_false (by omega))).mono ?_; rintro e w8 ⟨rfl, rfl⟩))
            go_roundw
            case rel => exact ⟨k + 1, nx, la, lb, lc, o, a, b2, c, ca, cb, cc, by omega, by omega, by omega, by go_num, rfl, rfl, rfl, rfl, rfl, HLN, HT.out.up (by omega)⟩
            case measure => simp [intOf] <;> omega
    · obtain rfl : k = len1 := by omega
      clear hlt
      go_wp2_with fail
      go_ret
      exact ⟨rfl, HB1.out.trans (HT.out.below.1.mono HB1.out.size)⟩
end Go.Proofs.Ytemifkcgmfincaa.fnPopscopeIsLIFOWithoutForks
