/- Order and hidden definitions do not matter to listModuleDefs. -/
import Derived.Test.YtbogmmpbmgibnaaDoorAsk
set_option linter.unusedVariables false
namespace Go.Proofs.YtbogmmpbmgibnaaDoor.fnListModuleDefsIgnoresOrderAndHiddenDefs
open Go.ChangeShapes Go.WideShapes Go.ChangeAt Go.RowKit
open upd zs guard defsg less order sort' coll fill list13 copy shim make askq

set_option maxRecDepth 100000 in
set_option maxHeartbeats 16000000 in
theorem walk' (va vb : Value) (la : List ByteArray) (lb : List Int) (w : World) (hT : Tab w.heap.size w) (ha : StrRow w va la) (hb : IntRow w vb lb) :
    Calls Tryd.prog 3 #[va, vb] w fun e w' => e = .returned (.bool true) ∧ Below w.heap.size w w' := by
  have HG := Lib.hid (g5 w va vb la lb ha hb)
  have HDG : Hid (la.length ≤ 4096 → lb.length ≤ 4096 → Calls Tryd.prog 6 #[va, vb] w (DG w la lb)) := fun h1 h2 => dg6 w va vb la lb ha hb h1 h2
  have HCS : Hid (la.length ≤ 2097152 → Calls Tryd.prog 7 #[va] w (CopyS w la)) := fun h => strs w va la ha h
  have HIB := Lib.hid hb
  have HT := Lib.hid hT
  have HTW := Lib.hid hT
  obtain ⟨aa, ca, rfl, hca, hcma, _⟩ := str_open ha
  obtain ⟨ab, cb0, rfl, hcb, hcmb, _⟩ := int_open hb
  obtain ⟨n, hn⟩ : ∃ n, n = la.length := ⟨_, rfl⟩
  obtain ⟨m, hm⟩ : ∃ m, m = lb.length := ⟨_, rfl⟩
  have HN := Lib.hid hn
  have HM := Lib.hid hm
  rw [← hn, ← hm] at HG HDG
  rw [← hm] at HIB hcb ⊢
  rw [← hn] at HCS hca ⊢
  unfold maxLen at hcma hcmb
  clear ha hb hn hm hT
  go_enter Tryd.func3, Tryd.ntmps3
  go_wp2_with fail
  go_at_call 5
  refine HG.out.mono ?_
  rintro e wg ⟨b, rfl, rfl, hb⟩
  cases b with
  | false =>
    clear hb HG HDG HCS HIB HT
    go_wp2_with fail
    (go_ret; exact ⟨rfl, Below.refl _ _⟩)
  | true =>
  obtain ⟨⟨_, hsz⟩, _⟩ := hb rfl
  have HSZ := Lib.hid hsz
  clear hb hsz HG
  by_cases hl1 : 4096 < n
  · clear HDG HCS HIB HSZ HT
    go_wp2_with fail
    all_goals (go_ret; exact ⟨rfl, Below.refl _ _⟩)
  by_cases hl2 : 4096 < m
  · clear HDG HCS HIB HSZ HT
    go_wp2_with fail
    all_goals (go_ret; exact ⟨rfl, Below.refl _ _⟩)
  go_wp2_with fail
  go_at_call 6
  refine (HDG.out (by omega) (by omega)).mono ?_
  rintro e wg ⟨q, b, rfl, rfl, hd⟩
  clear HDG
  cases b with
  | false =>
    clear HCS HIB HSZ HT hd
    go_wp2_with fail
    (go_ret; exact ⟨rfl, Below.refl _ _⟩)
  | true =>
  obtain ⟨rfl, hok⟩ := hd rfl
  rw [← HN.out, ← HM.out] at hok ⊢
  obtain ⟨N, hNN⟩ : ∃ N, N = min n m := ⟨_, rfl⟩
  rw [← hNN] at hok ⊢
  have hNn : N ≤ n := by omega
  have hNm : N ≤ m := by omega
  have HOK := Lib.hid hok
  clear hok hd hNN
  go_wp2_with fail
  go_at_call 7
  refine (HCS.out (by omega)).mono ?_
  rintro e wc ⟨va', rfl, hra, _, hbc⟩
  have HBC := Lib.hid hbc
  have HRA0 := Lib.hid hra
  have HCI := Lib.hid (ints wc _ lb (HIB.out.kept hbc) (by have := HM.out; omega))
  clear HCS HIB hra hbc
  go_wp2_with fail
  go_at_call 8
  refine HCI.out.mono ?_
  rintro e wd ⟨vb', rfl, hrb, _, hbd⟩
  have HBD : Hid (Below w.heap.size w wd) := HBC.out.trans (hbd.mono HBC.out.size)
  obtain ⟨aa2, ca2, rfl, hca2, hcma2, hra2⟩ := str_open (HRA0.out.kept hbd)
  obtain ⟨rb, cb, rfl, hcb2, hcmb2, hrb2⟩ := int_open hrb
  have HRA := Lib.hid hra2
  have HRB := Lib.hid hrb2
  rw [← HM.out] at hcb2 ⊢
  rw [← HN.out] at hca2 ⊢
  unfold maxLen at hcma2 hcmb2
  have HDD : Hid (Src la lb N wd aa2 rb) := src_of HRA.out HRB.out HOK.out HSZ.out (by rw [← HN.out]; exact hNn) (by rw [← HM.out]; exact hNm)
  have hT2 : Tab w.heap.size wd := HT.out.on HBD.out
  have HT2 := Lib.hid hT2
  clear HCI HRA0 HBC hrb hbd hra2 hrb2 HRA HRB HOK HSZ hT2 HT
  have hmk := run_make_row' (P := Tryd.prog) 29 30 (.pointer none) 8 Tryd.underlying29 info30 rfl .i64 .i64 N (by omega) (by omega)
  go_wp2_with fail
  clear hmk
  obtain ⟨W0, hW0⟩ : ∃ W0, W0 = wd.alloc (.cells (madeCells #[.pointer none] N) 30) := ⟨_, rfl⟩
  obtain ⟨G, hG⟩ : ∃ G, G = wd.heap.size := ⟨_, rfl⟩
  rw [← hW0, ← hG]
  have HS0 : Hid (DS la lb N wd G 0 W0) := DS.start hW0 hG
  have HGE := Lib.hid hG
  clear hW0 hG
  go_loopw [8] (fun i wr => ∃ k : Nat, k ≤ N ∧ i = .int .i64 k ∧ Hid (DS la lb N wd G k wr)) (fun i _ => N - (intOf i).toNat)
  case atStart => exact ⟨0, Nat.zero_le _, rfl, HS0⟩
  case round =>
    obtain ⟨k, hk, rfl, HS⟩ := hrel
    clear HS0
    by_cases hlt : k < N
    · obtain ⟨s, a, x1, x2, rfl, rfl, c1, c2, hs1, hs2⟩ := DS.read HDD.out HS.out hlt
      have hz := HS.out.cell hlt
      have hzf := HS.out.free k
      have hzl := HS.out.lt
      obtain ⟨xS, HNX⟩ := DS.next HDD.out HS.out hlt hs1 hs2 c1 c2 HGE.out
      unfold nextW at xS HNX
      have ha := HDD.out.small k s a hlt hs1 hs2
      have hmk := run_make_row' (P := Tryd.prog) 22 9 (.string ⟨#[]⟩) 16 Tryd.underlying22 make.info9 rfl .i64 .i64 a (by omega) (by omega)
      have j0 : (0 : Int) ≤ k := by omega
      have j1 : (k : Int) < N := by omega
      clear hs1 hs2 HS
      go_wp2_with fail
      go_region_held_law (fun w' => w'.cell? (x1.add k) = some (.string s) ∧ w'.cell? (x2.add k) = some (.int .i64 a)) (first | assumption | go_keep) (fail)
      all_goals go_wp2_with fail
      all_goals refine ⟨⟨k + 1, by omega, by go_num, HNX⟩, ?_⟩
      all_goals (simp [intOf]; omega)
    · obtain rfl : N = k := by omega
      have HDS := Lib.hid HS.out.defs
      have HBW : Hid (Below wd.heap.size wd wr) := by obtain ⟨_, _, _, _, h, _⟩ := HS.out; exact h
      have hmk : ∀ wz : World, (Instr.makeSlice 29 (.int .i64 0) (.int .i64 ((N : Int) + 1))).run Tryd.prog wz = .ok (.slice (some ⟨wz.heap.size, 0, none⟩) 0 (N + 1)) (wz.alloc (.cells (madeCells #[.pointer none] (N + 1)) 30)) := make0 N (by omega)
      obtain ⟨W1, hW1⟩ : ∃ W1, W1 = wr.alloc (.cells (madeCells #[.pointer none] (N + 1)) 30) := ⟨_, rfl⟩
      have HR0 : Hid (RS wr (revK la lb N 0) (.slice (some ⟨wr.heap.size, 0, none⟩) 0 (N + 1)) W1) := by rw [hW1]; exact RS.start wr N (by omega)
      clear HS hk hlt
      go_wp2_with fail
      rw [← hW1]
      clear hmk hW1
      obtain ⟨wf, hwf⟩ : ∃ wf, wf = wr := ⟨_, rfl⟩
      rw [← hwf] at HDS HBW HR0 ⊢
      clear hwf
      go_loopw [9, 10] (fun v i wr => ∃ (r : Nat) (V : Value), r ≤ N ∧ i = .int .i64 ((r : Int) - 1) ∧ v = V ∧ Hid (RS wf (revK la lb N (N - r)) V wr)) (fun _ i _ => (intOf i + 1).toNat)
      case atStart =>
        refine ⟨N, _, Nat.le_refl _, by go_num, rfl, ?_⟩
        rw [Nat.sub_self]; exact HR0
      case round =>
        obtain ⟨r, V, hrN, rfl, rfl, HRS⟩ := hrel
        clear HR0
        by_cases hr0 : 0 < r
        · obtain ⟨u, rfl⟩ : ∃ u, r = u + 1 := ⟨r - 1, by omega⟩
          have e1 : (((u + 1 : Nat) : Int) - 1) = u := by omega
          rw [e1]
          clear e1 hr0
          obtain ⟨ps, p1, p2, p3, p4⟩ := HRS.out
          obtain ⟨s, a, x1, x2, rfl, rfl, q1, q2, q3, q4⟩ := HDD.out.at' u (by omega)
          have ha := HDD.out.small u s a (by omega) q3 q4
          have hbw : Below wd.heap.size wd wr := HBW.out.trans (p3.mono HBW.out.size)
          have c1 := (hbw.cell (p := x1.add u) (by rw [zs.add_block]; exact zs.addr_lt q1)).trans q1
          have c2 := (hbw.cell (p := x2.add u) (by rw [zs.add_block]; exact zs.addr_lt q2)).trans q2
          obtain ⟨va, vc, rfl⟩ := slice_form p2
          obtain ⟨t, ht⟩ : ∃ t, t = ps.length := ⟨_, rfl⟩
          have htN : t ≤ 4096 := by rw [ht, p1, revK_len]; omega
          obtain ⟨base, hbase⟩ : ∃ base, base = wf.heap.size := ⟨_, rfl⟩
          have HRR : Hid (wr.ownsRow base 30 1 (.slice va t vc) t (ptrs ps)) := by unfold Hid; rw [ht, hbase]; exact p2
          have HWB : Hid (base ≤ wr.heap.size) := by unfold Hid; rw [hbase]; exact p3.size
          obtain ⟨j0, ji, jz0, jz1, jz2⟩ := info_parts info30
          have hkey : key la lb (N - 1 - (N - (u + 1))) = (s, (a : Int)) := by
            have e : N - 1 - (N - (u + 1)) = u := by omega
            rw [e]; unfold key; rw [q4]; simp [List.getD, q3]
          have HFIN : Hid (∀ (g2 cp2 : Nat) (az w3 : World), Upd (fun _ => False) wr az → DefAt az (wr.heap.size + 1) (s, (a : Int)) → az.heap.size ≤ wr.heap.size + 1 + 1 + 1 → w3.ownsRow base 30 1 (.slice (some ⟨g2, 0, none⟩) (t + 1) cp2) (t + 1) (ptrs ps ++ [.pointer (some ⟨wr.heap.size + 1, 0, none⟩)]) → az.grownBy w3 (Value.slice va t vc).ownBlock → ((Value.slice va t vc).ownBlock = some g2 ∨ g2 = wr.heap.size + 1 + 1 + 1) →
              (w3.cell? (x1.add u) = some (.string s) ∧ w3.cell? (x2.add u) = some (.int .i64 a)) ∧ Hid (RS wf (revK la lb N (N - u)) (.slice (some ⟨g2, 0, none⟩) (t + 1) cp2) w3)) := by
            unfold Hid; subst ht; intro g2 cp2 az w3 ku kd ks k1 k2 k3
            rw [hbase] at k1
            obtain ⟨y1, y2⟩ := fin_rs (x := (s, (a : Int))) p1 p2 p3 p4 ku (by omega) kd k1 k2 k3 ks
            have hbw3 : Below wd.heap.size wd w3 := HBW.out.trans (y2.mono HBW.out.size)
            refine ⟨⟨(hbw3.cell (p := x1.add u) (by rw [zs.add_block]; exact zs.addr_lt q1)).trans q1, (hbw3.cell (p := x2.add u) (by rw [zs.add_block]; exact zs.addr_lt q2)).trans q2⟩, ?_⟩
            have e2 : N - u = N - (u + 1) + 1 := by omega
            rw [e2, revK_snoc, hkey]; exact y1
          have hmk := run_make_row' (P := Tryd.prog) 22 9 (.string ⟨#[]⟩) 16 Tryd.underlying22 make.info9 rfl .i64 .i64 a (by omega) (by omega)
          have HKK : Hid (∀ wz, Upd (fun _ => False) wr wz → wz.cell? (x1.add u) = some (.string s) ∧ wz.cell? (x2.add u) = some (.int .i64 a)) := fun wz hz =>
            ⟨(hz.cell (p := x1.add u) (by rw [zs.add_block]; exact zs.addr_lt c1) id).trans c1, (hz.cell (p := x2.add u) (by rw [zs.add_block]; exact zs.addr_lt c2) id).trans c2⟩
          have i0 : (0 : Int) ≤ u := by omega
          have i1 : (u : Int) < n := by omega
          have i2 : (u : Int) < m := by omega
          rw [← ht]
          clear hkey p1 p2 p3 p4 q1 q2 q3 q4 hbw ht hbase HRS
          go_wp2_with fail
          go_region_held_law (fun w' => w'.cell? (x1.add u) = some (.string s) ∧ w'.cell? (x2.add u) = some (.int .i64 a)) (first | assumption | exact HKK.out _ (by repeat (first | exact Upd.refl _ _ | apply Upd.drew | apply Upd.drewN | apply Upd.alloc)) | go_keep)
            ((refine step_append_lies _ (by rfl) (.tmp 70) (.tmp 82) 29 (by rfl) base 30 j0 (.pointer none) 1 8 Tryd.underlying29 ji jz0 jz1 jz2 rfl (by decide) _ t (ptrs ps) (by rfl) (own_kept HRR.out (S := fun _ => False) (by repeat (first | exact Upd.refl _ _ | apply Upd.drew | apply Upd.drewN | apply Upd.alloc)) (fun _ _ => id)) ⟨wr.heap.size + 1 + 1, 0, none⟩ 1 1 [.pointer (some ⟨wr.heap.size + 1, 0, none⟩)] (by rfl) rfl (World.news_of_block (cs := #[.pointer (some ⟨wr.heap.size + 1, 0, none⟩)]) (list13.blk_at _ _ _ (by simp))) (by intro u hu; simp at hu; subst hu; rfl) (by decide) (by unfold maxLen; omega) (by omega) (by have := HWB.out; simp; omega) (wr.heap.size + 1 + 1 + 1) (by simp) ?_; intro g2 cp2 w3 hown hgrow hat hlt; obtain ⟨xS, HF⟩ := HFIN.out _ _ _ _ (by repeat (first | exact Upd.refl _ _ | apply Upd.drew | apply Upd.drewN | apply Upd.alloc)) (by first | exact def_at _ _ _ _ _ _ _ rfl | exact def_at_drew _ _ _ _ _ _ _ rfl) (by simp) hown hgrow hat; clear hown hgrow hat hlt))
          go_wp2_with fail
          refine ⟨⟨u, _, by omega, rfl, rfl, HF⟩, ?_⟩
          simp [intOf] <;> omega
        · obtain rfl : r = 0 := by omega
          have e1 : (((0 : Nat) : Int) - 1) = -1 := rfl
          rw [e1]
          obtain ⟨ps, p1, p2, p3, p4⟩ := HRS.out
          rw [Nat.sub_zero] at p1 p4
          obtain ⟨va, vc, rfl⟩ := slice_form p2
          obtain ⟨t, ht⟩ : ∃ t, t = ps.length := ⟨_, rfl⟩
          have htN : t ≤ 4096 := by rw [ht, p1, revK_len]; omega
          obtain ⟨base, hbase⟩ : ∃ base, base = wf.heap.size := ⟨_, rfl⟩
          have HRR : Hid (wr.ownsRow base 30 1 (.slice va t vc) t (ptrs ps)) := by unfold Hid; rw [ht, hbase]; exact p2
          have HWB : Hid (base ≤ wr.heap.size) := by unfold Hid; rw [hbase]; exact p3.size
          obtain ⟨j0, ji, jz0, jz1, jz2⟩ := info_parts info30
          have HFIN : Hid (∀ (g2 cp2 : Nat) (az w3 : World), Upd (fun _ => False) wr az → DefAt az (wr.heap.size + 1) hiddenK → az.heap.size ≤ wr.heap.size + 1 + 1 + 1 → w3.ownsRow base 30 1 (.slice (some ⟨g2, 0, none⟩) (t + 1) cp2) (t + 1) (ptrs ps ++ [.pointer (some ⟨wr.heap.size + 1, 0, none⟩)]) → az.grownBy w3 (Value.slice va t vc).ownBlock → ((Value.slice va t vc).ownBlock = some g2 ∨ g2 = wr.heap.size + 1 + 1 + 1) →
              Hid (RS wf (revK la lb N N ++ [hiddenK]) (.slice (some ⟨g2, 0, none⟩) (t + 1) cp2) w3)) := by
            unfold Hid; subst ht; intro g2 cp2 az w3 ku kd ks k1 k2 k3
            rw [hbase] at k1
            exact (fin_rs (x := hiddenK) p1 p2 p3 p4 ku (by omega) kd k1 k2 k3 ks).1
          have ht0 : Hid (t = (revK la lb N N).length) := by unfold Hid; rw [ht, p1]
          have HT0 : Hid (Tab w.heap.size w) := HTW.out
          rw [← ht]
          clear p1 p2 p3 p4 ht hbase HRS
          go_wp2_with (at_builtin; refine wpList_append_lies _ rfl (.tmp 84) (.tmp 88) 29 rfl base 30 j0 (.pointer none) 1 8 Tryd.underlying29 ji jz0 jz1 jz2 rfl (by decide) _ t (ptrs ps) rfl (own_kept HRR.out (S := fun _ => False) (by repeat (first | exact Upd.refl _ _ | apply Upd.drew | apply Upd.drewN | apply Upd.alloc)) (fun _ _ => id)) ⟨wr.heap.size + 1 + 1, 0, none⟩ 1 1 [.pointer (some ⟨wr.heap.size + 1, 0, none⟩)] rfl rfl (World.news_of_block (cs := #[.pointer (some ⟨wr.heap.size + 1, 0, none⟩)]) (list13.blk_at _ _ _ (by simp))) (by intro u hu; simp at hu; subst hu; rfl) (by decide) (by unfold maxLen; omega) (by omega) (by have := HWB.out; simp; omega) (wr.heap.size + 1 + 1 + 1) (by simp) ?_; intro g2 cp2 w3 hown hgrow hat hlt; have HF := HFIN.out _ _ _ _ (by repeat (first | exact Upd.refl _ _ | apply Upd.drew | apply Upd.drewN | apply Upd.alloc)) (def_at _ _ _ _ 1 _ _ rfl) (by simp) hown hgrow hat; clear hown hgrow hat hlt)
          have hlen := revK_len la lb N N
          have htn : t = N := by rw [ht0.out]; exact hlen
          have hD2 : Defs w3 g2 (t + 1) cp2 (revK la lb N N ++ [hiddenK]) := RS.defs' HF.out (by simp)
          have hw3 : Below wf.heap.size wf w3 := RS.below HF.out
          have hbf : Below w.heap.size w wf := HBD.out.trans (HBW.out.mono HBD.out.size)
          have hb3 : Below w.heap.size w w3 := hbf.trans (hw3.mono hbf.size)
          have hfine := HDD.out.good
          have hT3 : Tab w3.heap.size w3 := Tab.up (HT0.out.on hb3) hb3.size
          have HA1 := Lib.hid (ask9 w3 G N N (keys la lb N) (Defs.kept HDS.out hw3) hfine (by omega) hT3)
          have HA2 : Hid (∀ w4, Below w3.heap.size w3 w4 → Calls Tryd.prog 9 #[.pointer (some ⟨w4.heap.size, 0, none⟩)] (w4.alloc (.cells #[.pointer none, .slice none 0 0, .slice (some ⟨g2, 0, none⟩) (t + 1) cp2, .pointer none, .pointer none, .pointer none, .slice none 0 0, .int .i64 0] 42)) fun e w' => ∃ K' v, K'.Perm (visK (revK la lb N N ++ [hiddenK])) ∧ InOrder K' ∧ e = .returned (.tuple #[v, .bool true]) ∧ StrRow w' v (K'.map strK) ∧ Below w4.heap.size w4 w') := fun w4 h4 =>
            ask9 w4 g2 (t + 1) cp2 _ (Defs.kept hD2 h4) (fine_rev hfine) (by omega) (Tab.up (hT3.on h4) h4.size)
          have HB3 := Lib.hid hb3
          clear hlen htn hD2 hw3 hbf hb3 hfine hT3 HF HDS HBW HBD HDD HT2 HGE HRR HWB HFIN ht0
          go_wp2_with fail
          go_at_call 9
          refine HA1.out.mono ?_
          rintro e w4 ⟨K1, v1, hp1, ho1, rfl, hs1, hb4⟩
          obtain ⟨b1, c1, hv1, -, -, -⟩ := str_open hs1
          obtain ⟨l, hl⟩ : ∃ l, l = (K1.map strK).length := ⟨_, rfl⟩
          rw [← hl] at hv1
          subst hv1
          have HL := Lib.hid hl
          clear hl
          have HS1 := Lib.hid hs1
          have HP1 := Lib.hid hp1
          have HO1 := Lib.hid ho1
          have HB4 := Lib.hid hb4
          have HC2 := Lib.hid (HA2.out w4 hb4)
          clear HA1 HA2 hp1 ho1 hs1 hb4
          go_wp2_with fail
          go_at_call 9
          refine HC2.out.mono ?_
          rintro e w5 ⟨K2, v2, hp2, ho2, rfl, hs2, hb5⟩
          have hKK : K2 = K1 := inOrder_eq ((hp2.trans (vis_perm la lb N)).trans HP1.out.symm) ho2 HO1.out
          subst hKK
          have hs1 := HS1.out.kept hb5
          have hb := HB3.out.trans ((HB4.out.trans (hb5.mono HB4.out.size)).mono HB3.out.size)
          clear HC2 HP1 HO1 HS1 HB3 HB4 hp2 ho2 hb5
          have hl := HL.out
          clear HL
          generalize K2.map strK = LL at *
          obtain ⟨b2, c2, rfl, hq2, hm2, hat2⟩ := str_open hs2
          obtain ⟨b1', c1', e1, hq1, hm1, hat1⟩ := str_open hs1
          rw [← hl] at e1
          simp only [Value.slice.injEq, true_and] at e1
          obtain ⟨rfl, rfl⟩ := e1
          rw [← hl] at hq1 hq2 ⊢
          unfold maxLen at hm1 hm2
          have HAT : Hid (∀ j, j < l → ∃ s x1 x2, b1 = some x1 ∧ b2 = some x2 ∧ w5.cell? (x1.add j) = some (.string s) ∧ w5.cell? (x2.add j) = some (.string s)) := fun j hj => by
            obtain ⟨s, hs⟩ : ∃ s, LL[j]? = some s := ⟨_, List.getElem?_eq_getElem (by omega)⟩
            obtain ⟨x1, e1, q1, _⟩ := hat1 j s hs
            obtain ⟨x2, e2, q2, _⟩ := hat2 j s hs
            exact ⟨s, x1, x2, e1, e2, q1, q2⟩
          have HB := Lib.hid hb
          clear hs1 hs2 hat1 hat2 hl hb
          go_wp2_with fail
          go_loopw [15] (fun i wr => ∃ j : Nat, j ≤ l ∧ i = .int .i64 j ∧ Hid (Below w5.heap.size w5 wr)) (fun i _ => l - (intOf i).toNat)
          case atStart => exact ⟨0, Nat.zero_le _, rfl, Below.refl _ _⟩
          case round =>
            obtain ⟨j, hj, rfl, HBJ⟩ := hrel
            by_cases hjl : j < l
            · obtain ⟨s, x1, x2, rfl, rfl, q1, q2⟩ := HAT.out j hjl
              have c1 := (HBJ.out.cell (p := x1.add j) (by rw [zs.add_block]; exact zs.addr_lt q1)).trans q1
              have c2 := (HBJ.out.cell (p := x2.add j) (by rw [zs.add_block]; exact zs.addr_lt q2)).trans q2
              have HBN : Hid (∀ k, Below w5.heap.size w5 (wr.drewN k)) := fun k => ⟨HBJ.out.os, HBJ.out.tape, HBJ.out.output, HBJ.out.size, HBJ.out.block⟩
              have j0 : (0 : Int) ≤ j := by omega
              have j1 : (j : Int) < l := by omega
              clear HAT HBJ q1 q2 HB
              go_wp2_with fail
              go_quiet (fail)
              go_wp2_with fail
              refine ⟨⟨j + 1, by omega, by go_num, HBN.out _⟩, ?_⟩
              simp [intOf] <;> omega
            · obtain rfl : l = j := by omega
              have HBE : Hid (Below w.heap.size w wr) := HB.out.trans (HBJ.out.mono HB.out.size)
              clear HAT HBJ HB
              go_wp2_with fail
              go_ret
              exact ⟨rfl, HBE.out⟩
theorem walk (a0 : Option Addr) (len0 cap0 : Nat) (z0 : List ByteArray) (a1 : Option Addr) (len1 cap1 : Nat) (z1 : List Int) (w : World) (w0 : inp.IsStrs w a0 len0 cap0 z0) (w1 : inp.IsRow .i64 w a1 len1 cap1 z1) (hT : Tab w.heap.size w) :
    Calls Tryd.prog 3 #[.slice a0 len0 cap0, .slice a1 len1 cap1] w fun e w' => e = .returned (.bool true) ∧ Below w.heap.size w w' := walk' _ _ _ _ w hT (zs.strRow w0) (zs.intRow w1)
end Go.Proofs.YtbogmmpbmgibnaaDoor.fnListModuleDefsIgnoresOrderAndHiddenDefs
