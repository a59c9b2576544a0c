/- listModuleDefs answers the visible names with their arities, sorted. -/
import Derived.Test.YtbogmmpbmgibnaaDoorPair
import Derived.Test.YtbogmmpbmgibnaaDoorDigits
import Derived.Test.YtbogmmpbmgibnaaDoorLessN
set_option linter.unusedVariables false
namespace Go.Proofs.YtbogmmpbmgibnaaDoor.fnListModuleDefsSortedVisibleNameArity
open Go.ChangeShapes Go.WideShapes Go.ChangeAt Go.RowKit
open upd zs guard defsg less order sort' coll fill list13 copy shim make askq ins pair digits lessn

set_option maxRecDepth 100000 in
set_option maxHeartbeats 16000000 in
theorem walk' (va vb : Value) (la : List ByteArray) (lb : List Int) (w : World) (hT : Tab w.heap.size w) (ha : StrRow w va la) (hb : IntRow w vb lb) :
    Calls Tryd.prog 4 #[va, vb] w fun e w' => e = .returned (.bool true) ∧ Below w.heap.size w w' := by
  have HG := Lib.hid (g10 w va vb la lb ha hb)
  have HDG : Hid (la.length ≤ 4096 → lb.length ≤ 4096 → Calls Tryd.prog 6 #[va, vb] w (DG w la lb)) := fun h1 h2 => dg6 w va vb la lb ha hb h1 h2
  have HCS : Hid (la.length ≤ 2097152 → Calls Tryd.prog 7 #[va] w (CopyS w la)) := fun h => strs w va la ha h
  have HIB := Lib.hid hb
  have HT := Lib.hid hT
  have HTW := Lib.hid hT
  obtain ⟨aa, ca, rfl, hca, hcma, _⟩ := str_open ha
  obtain ⟨ab, cb0, rfl, hcb, hcmb, _⟩ := int_open hb
  obtain ⟨n, hn⟩ : ∃ n, n = la.length := ⟨_, rfl⟩
  obtain ⟨m, hm⟩ : ∃ m, m = lb.length := ⟨_, rfl⟩
  have HN := Lib.hid hn
  have HM := Lib.hid hm
  rw [← hn, ← hm] at HG HDG
  rw [← hm] at HIB hcb ⊢
  rw [← hn] at HCS hca ⊢
  unfold maxLen at hcma hcmb
  clear ha hb hn hm hT
  go_enter Tryd.func4, Tryd.ntmps4
  go_wp2_with fail
  go_at_call 10
  refine HG.out.mono ?_
  rintro e wg ⟨b, rfl, rfl, hb⟩
  cases b with
  | false =>
    clear hb HG HDG HCS HIB HT
    go_wp2_with fail
    (go_ret; exact ⟨rfl, Below.refl _ _⟩)
  | true =>
  obtain ⟨⟨_, hsz⟩, _⟩ := hb rfl
  have HSZ := Lib.hid hsz
  clear hb hsz HG
  by_cases hl1 : 4096 < n
  · clear HDG HCS HIB HSZ HT
    go_wp2_with fail
    all_goals (go_ret; exact ⟨rfl, Below.refl _ _⟩)
  by_cases hl2 : 4096 < m
  · clear HDG HCS HIB HSZ HT
    go_wp2_with fail
    all_goals (go_ret; exact ⟨rfl, Below.refl _ _⟩)
  go_wp2_with fail
  go_at_call 6
  refine (HDG.out (by omega) (by omega)).mono ?_
  rintro e wg ⟨q, b, rfl, rfl, hd⟩
  clear HDG
  cases b with
  | false =>
    clear HCS HIB HSZ HT hd
    go_wp2_with fail
    (go_ret; exact ⟨rfl, Below.refl _ _⟩)
  | true =>
  obtain ⟨rfl, hok⟩ := hd rfl
  rw [← HN.out, ← HM.out] at hok ⊢
  obtain ⟨N, hNN⟩ : ∃ N, N = min n m := ⟨_, rfl⟩
  rw [← hNN] at hok ⊢
  have hNn : N ≤ n := by omega
  have hNm : N ≤ m := by omega
  have HOK := Lib.hid hok
  clear hok hd hNN
  go_wp2_with fail
  go_at_call 7
  refine (HCS.out (by omega)).mono ?_
  rintro e wc ⟨va', rfl, hra, _, hbc⟩
  have HBC := Lib.hid hbc
  have HRA0 := Lib.hid hra
  have HCI := Lib.hid (ints wc _ lb (HIB.out.kept hbc) (by have := HM.out; omega))
  clear HCS HIB hra hbc
  go_wp2_with fail
  go_at_call 8
  refine HCI.out.mono ?_
  rintro e wd ⟨vb', rfl, hrb, _, hbd⟩
  have HBD : Hid (Below w.heap.size w wd) := HBC.out.trans (hbd.mono HBC.out.size)
  obtain ⟨aa2, ca2, rfl, hca2, hcma2, hra2⟩ := str_open (HRA0.out.kept hbd)
  obtain ⟨rb, cb, rfl, hcb2, hcmb2, hrb2⟩ := int_open hrb
  have HRA := Lib.hid hra2
  have HRB := Lib.hid hrb2
  rw [← HM.out] at hcb2 ⊢
  rw [← HN.out] at hca2 ⊢
  unfold maxLen at hcma2 hcmb2
  have HDD : Hid (Src la lb N wd aa2 rb) := src_of HRA.out HRB.out HOK.out HSZ.out (by rw [← HN.out]; exact hNn) (by rw [← HM.out]; exact hNm)
  have hT2 : Tab w.heap.size wd := HT.out.on HBD.out
  have HT2 := Lib.hid hT2
  clear HCI HRA0 HBC hrb hbd hra2 hrb2 HRA HRB HOK HSZ hT2 HT
  have hmk := run_make_row' (P := Tryd.prog) 29 30 (.pointer none) 8 Tryd.underlying29 info30 rfl .i64 .i64 N (by omega) (by omega)
  go_wp2_with fail
  clear hmk
  obtain ⟨W0, hW0⟩ : ∃ W0, W0 = wd.alloc (.cells (madeCells #[.pointer none] N) 30) := ⟨_, rfl⟩
  obtain ⟨G, hG⟩ : ∃ G, G = wd.heap.size := ⟨_, rfl⟩
  rw [← hW0, ← hG]
  have HS0 : Hid (DS la lb N wd G 0 W0) := DS.start hW0 hG
  have HGE := Lib.hid hG
  clear hW0 hG
  go_loopw [8] (fun i wr => ∃ k : Nat, k ≤ N ∧ i = .int .i64 k ∧ Hid (DS la lb N wd G k wr)) (fun i _ => N - (intOf i).toNat)
  case atStart => exact ⟨0, Nat.zero_le _, rfl, HS0⟩
  case round =>
    obtain ⟨k, hk, rfl, HS⟩ := hrel
    clear HS0
    by_cases hlt : k < N
    · obtain ⟨s, a, x1, x2, rfl, rfl, c1, c2, hs1, hs2⟩ := DS.read HDD.out HS.out hlt
      have hz := HS.out.cell hlt
      have hzf := HS.out.free k
      have hzl := HS.out.lt
      obtain ⟨xS, HNX⟩ := DS.next HDD.out HS.out hlt hs1 hs2 c1 c2 HGE.out
      unfold nextW at xS HNX
      have ha := HDD.out.small k s a hlt hs1 hs2
      have hmk := run_make_row' (P := Tryd.prog) 22 9 (.string ⟨#[]⟩) 16 Tryd.underlying22 make.info9 rfl .i64 .i64 a (by omega) (by omega)
      have j0 : (0 : Int) ≤ k := by omega
      have j1 : (k : Int) < N := by omega
      clear hs1 hs2 HS
      go_wp2_with fail
      go_region_held_law (fun w' => w'.cell? (x1.add k) = some (.string s) ∧ w'.cell? (x2.add k) = some (.int .i64 a)) (first | assumption | go_keep) (fail)
      all_goals go_wp2_with fail
      all_goals refine ⟨⟨k + 1, by omega, by go_num, HNX⟩, ?_⟩
      all_goals (simp [intOf]; omega)
    · obtain rfl : N = k := by omega
      have hfine := HDD.out.good
      have hb3 : Below w.heap.size w wr := HBD.out.trans ((by obtain ⟨_, _, _, _, h, _⟩ := HS.out; exact h : Below wd.heap.size wd wr).mono HBD.out.size)
      have hT3 : Tab wr.heap.size wr := Tab.up (HTW.out.on hb3) hb3.size
      have HA1 := Lib.hid (ask9 wr G N N (keys la lb N) HS.out.defs hfine (by omega) hT3)
      have HFK := Lib.hid hfine
      have HBW : Hid (Below wd.heap.size wd wr) := by obtain ⟨_, _, _, _, h, _⟩ := HS.out; exact h
      clear hfine hT3 hb3 HS hk hlt HGE HT2
      go_wp2_with fail
      go_at_call 9
      refine HA1.out.mono ?_
      rintro e w4 ⟨K1, v1, hp1, ho1, rfl, hs1, hb4⟩
      obtain ⟨b1, c1, hv1, hlc1, hcm1, -⟩ := str_open hs1
      obtain ⟨l, hl⟩ : ∃ l, l = (K1.map strK).length := ⟨_, rfl⟩
      rw [← hl] at hv1 hlc1
      subst hv1
      have HL : Hid (l = K1.length) := by unfold Hid; rw [hl, List.length_map]
      have HS1 := Lib.hid hs1
      have HP1 := Lib.hid hp1
      have HO1 := Lib.hid ho1
      have HB4 : Hid (Below wd.heap.size wd w4) := HBW.out.trans (hb4.mono HBW.out.size)
      unfold maxLen at hcm1
      clear HA1 HBW hp1 ho1 hs1 hb4 hl
      have hmk1 : ∀ wz : World, (Instr.makeSlice 22 (.int .i64 0) (.int .i64 (N : Int))).run Tryd.prog wz = .ok (.slice (some ⟨wz.heap.size, 0, none⟩) 0 N) (wz.alloc (.cells (madeCells #[.string ⟨#[]⟩] N) 9)) := makeS N (by omega)
      have hmk2 : ∀ wz : World, (Instr.makeSlice 23 (.int .i64 0) (.int .i64 (N : Int))).run Tryd.prog wz = .ok (.slice (some ⟨wz.heap.size, 0, none⟩) 0 N) (wz.alloc (.cells (madeCells #[.int .i64 0] N) 3)) := makeI N (by omega)
      have HT0 : Hid (TR w4 ((w4.alloc (.cells (madeCells #[.string ⟨#[]⟩] N) 9)).alloc (.cells (madeCells #[.int .i64 0] N) 3)) (.slice (some ⟨w4.heap.size, 0, none⟩) 0 N) (.slice (some ⟨w4.heap.size + 1, 0, none⟩) 0 N) (visK ((keys la lb N).take 0))) := PR.start w4 N (by omega)
      go_wp2_with fail
      clear hmk1 hmk2
      go_loopw [11, 12, 13] (fun u1 u2 i wr => ∃ (k : Nat) (V1 V2 : Value), k ≤ N ∧ i = .int .i64 k ∧ u1 = V1 ∧ u2 = V2 ∧ Hid (TR w4 wr V1 V2 (visK ((keys la lb N).take k)))) (fun _ _ i _ => N - (intOf i).toNat)
      case atStart => exact ⟨0, _, _, Nat.zero_le _, rfl, rfl, rfl, HT0⟩
      case round =>
        obtain ⟨k, V1, V2, hk, rfl, rfl, rfl, HTR⟩ := hrel
        clear HT0
        obtain ⟨va, p1, vb, p2, rfl, rfl⟩ := HTR.out.forms
        obtain ⟨KK, hKK⟩ : ∃ KK, KK = visK ((keys la lb N).take k) := ⟨_, rfl⟩
        obtain ⟨t, ht⟩ : ∃ t, t = KK.length := ⟨_, rfl⟩
        have htN : t ≤ N := by
          rw [ht, hKK]
          have h1 := List.length_filter_le (fun x : ByteArray × Int => vis x.1) ((keys la lb N).take k)
          have h2 := List.length_take_le k (keys la lb N)
          unfold visK
          omega
        rw [← hKK] at HTR ⊢
        rw [← ht] at HTR ⊢
        have HKK := Lib.hid hKK
        have HTL := Lib.hid ht
        clear ht hKK
        by_cases hlt : k < N
        · obtain ⟨s, a, x1, x2, rfl, rfl, q1, q2, q3, q4⟩ := HDD.out.at' k hlt
          obtain ⟨hs0, hs1, ha0, ha1⟩ := HDD.out.fine k s hlt q3
          have hbw : Below wd.heap.size wd wr := HB4.out.trans (HTR.out.2.2.1.mono HB4.out.size)
          have c1 := (hbw.cell (p := x1.add k) (by rw [zs.add_block]; exact zs.addr_lt q1)).trans q1
          have c2 := (hbw.cell (p := x2.add k) (by rw [zs.add_block]; exact zs.addr_lt q2)).trans q2
          have hx : (keys la lb N)[k]? = some (s, (a : Int)) := by
            unfold keys
            rw [List.getElem?_map, List.getElem?_range hlt]
            have e : key la lb k = (s, (a : Int)) := by unfold key; rw [q4]; simp [List.getD, q3]
            simp [e]
          have HVS := Lib.hid (vis_snoc hx)
          have i0 : (0 : Int) ≤ k := by omega
          have i1 : (k : Int) < n := by omega
          have i2 : (k : Int) < m := by omega
          have hz0 : (0 : Int) < s.size := by omega
          cases hv : vis s with
          | false =>
            have hv1 : (((s[0]'hs0).toNat : Int) != 95) = false := by unfold vis at hv; rw [dif_pos hs0] at hv; exact hv
            have HX2 : Hid (TR w4 wr (.slice va t p1) (.slice vb t p2) (visK ((keys la lb N).take (k + 1)))) := by
              unfold Hid; rw [HVS.out, hv]; simpa [← HKK.out] using HTR.out
            clear HTR HKK HTL HVS hv hbw hx
            go_wp2_with fail
            refine ⟨⟨k + 1, _, _, by omega, by go_num, rfl, rfl, HX2⟩, ?_⟩
            simp [intOf] <;> omega
          | true =>
            have hv1 : (((s[0]'hs0).toNat : Int) != 95) = true := by unfold vis at hv; rw [dif_pos hs0] at hv; exact hv
            have HVS2 : Hid (visK ((keys la lb N).take (k + 1)) = KK ++ [(s, (a : Int))]) := by unfold Hid; rw [HVS.out, hv, HKK.out]; rfl
            obtain ⟨base, hbase⟩ : ∃ base, base = w4.heap.size := ⟨_, rfl⟩
            have HWB : Hid (base ≤ wr.heap.size) := by unfold Hid; rw [hbase]; exact HTR.out.2.2.1.size
            have HPR : Hid (PR w4 wr (.slice va t p1) t (strV KK) (.slice vb t p2) t (intV KK)) := by unfold Hid; have h := HTR.out; unfold TR at h; rw [← HTL.out] at h; exact h
            have HRR : Hid (wr.ownsRow base 9 1 (.slice va t p1) t (strV KK)) := by unfold Hid; rw [hbase]; exact HPR.out.1
            have HF1 : Hid (∀ (g2 cp2 : Nat) (w3 : World), w3.ownsRow base 9 1 (.slice (some ⟨g2, 0, none⟩) (t + 1) cp2) (t + 1) (strV KK ++ [.string s]) → (wr.alloc (.cells #[.string s] 9)).grownBy w3 (Value.slice va t p1).ownBlock → ((Value.slice va t p1).ownBlock = some g2 ∨ g2 = wr.heap.size + 1) →
                w3.cell? (x2.add k) = some (.int .i64 a) ∧ base ≤ w3.heap.size ∧ Hid (w3.ownsRow base 3 1 (.slice vb t p2) t (intV KK)) ∧ Hid (PR w4 w3 (.slice (some ⟨g2, 0, none⟩) (t + 1) cp2) (t + 1) (strV KK ++ [.string s]) (.slice vb t p2) t (intV KK))) := by
              unfold Hid; intro g2 cp2 w3 k1 k2 k3
              rw [hbase] at k1 ⊢
              have h := PR.left (PR.upd HPR.out ((Upd.refl _ _).alloc (.cells #[.string s] 9))) k1 k2 k3 (by simp)
              have hb3 : Below wd.heap.size wd w3 := HB4.out.trans (h.2.2.1.mono HB4.out.size)
              exact ⟨(hb3.cell (p := x2.add k) (by rw [zs.add_block]; exact zs.addr_lt q2)).trans q2, h.2.2.1.size, h.2.1, h⟩
            have HF2 : Hid (∀ (g2 cp2 : Nat) (w3 : World), PR w4 w3 (.slice (some ⟨g2, 0, none⟩) (t + 1) cp2) (t + 1) (strV KK ++ [.string s]) (.slice vb t p2) t (intV KK) → ∀ (g4 cp4 : Nat) (w5 : World), w5.ownsRow base 3 1 (.slice (some ⟨g4, 0, none⟩) (t + 1) cp4) (t + 1) (intV KK ++ [.int .i64 a]) → (w3.alloc (.cells #[.int .i64 a] 3)).grownBy w5 (Value.slice vb t p2).ownBlock → ((Value.slice vb t p2).ownBlock = some g4 ∨ g4 = w3.heap.size + 1) →
                Hid (TR w4 w5 (.slice (some ⟨g2, 0, none⟩) (t + 1) cp2) (.slice (some ⟨g4, 0, none⟩) (t + 1) cp4) (visK ((keys la lb N).take (k + 1))))) := by
              unfold Hid; intro g2 cp2 w3 h g4 cp4 w5 k1 k2 k3
              rw [hbase] at k1
              have h2 := PR.right (PR.upd h ((Upd.refl _ _).alloc (.cells #[.int .i64 a] 3))) k1 k2 k3 (by simp)
              rw [HVS2.out]
              unfold TR
              rw [strV_snoc, intV_snoc, List.length_append, ← HTL.out]
              exact h2
            obtain ⟨j1, ji1, jx1, jy1, jz1⟩ := info_parts make.info9
            obtain ⟨j2, ji2, jx2, jy2, jz2⟩ := info_parts pair.info3
            have htM : t ≤ 4096 := by omega
            clear HTR HKK HTL HVS HVS2 HPR hv hbw hx hbase q1 q2 q3 q4 hs1 ha0 ha1 htN
            have tk1 := Lib.hid trivial
            have tk2 := Lib.hid trivial
            go_wp2_with (first | (at_builtin; clear tk1; refine wpList_append_lies _ rfl (.tmp 88) (.tmp 93) 22 rfl base 9 j1 (.string ⟨#[]⟩) 1 16 Tryd.underlying22 ji1 jx1 jy1 jz1 rfl (by decide) _ t (strV KK) rfl (own_kept HRR.out (S := fun _ => False) (by repeat (first | exact Upd.refl _ _ | apply Upd.drew | apply Upd.drewN | apply Upd.alloc)) (fun _ _ => id)) ⟨wr.heap.size, 0, none⟩ 1 1 [.string s] rfl rfl (World.news_of_block (cs := #[.string s]) (list13.blk_at _ _ _ (by simp))) (by intro u hu; simp at hu; subst hu; rfl) (by decide) (by unfold maxLen; omega) (by omega) (by have := HWB.out; simp; omega) (wr.heap.size + 1) (by simp) ?_; intro g2 cp2 w3 hown hgrow hat hlt2; obtain ⟨d2, hB3, HR3, HP3⟩ := HF1.out _ _ _ hown hgrow hat; clear hown hgrow hat hlt2 HF1 HRR c1 c2) | (at_builtin; clear tk2; refine wpList_append_lies _ rfl (.tmp 95) (.tmp 100) 23 rfl base 3 j2 (.int .i64 0) 1 8 Tryd.underlying23 ji2 jx2 jy2 jz2 rfl (by decide) _ t (intV KK) rfl (own_kept HR3.out (S := fun _ => False) (by repeat (first | exact Upd.refl _ _ | apply Upd.drew | apply Upd.drewN | apply Upd.alloc)) (fun _ _ => id)) ⟨w3.heap.size, 0, none⟩ 1 1 [.int .i64 a] rfl rfl (World.news_of_block (cs := #[.int .i64 a]) (list13.blk_at _ _ _ (by simp))) (by intro u hu; simp at hu; subst hu; rfl) (by decide) (by unfold maxLen; omega) (by omega) (by have := hB3; simp; omega) (w3.heap.size + 1) (by simp) ?_; intro g4 cp4 w5 hown hgrow hat hlt2; have HN5 := HF2.out _ _ _ HP3.out _ _ _ hown hgrow hat; clear hown hgrow hat hlt2 HF2 HR3 HP3 d2 hB3))
            refine ⟨⟨k + 1, _, _, by omega, by go_num, rfl, rfl, HN5⟩, ?_⟩
            simp [intOf] <;> omega
        · obtain rfl : N = k := by omega
          have hall : (keys la lb N).take N = keys la lb N := List.take_of_length_le (by simp [keys])
          have HK0 : Hid (KK = visK (keys la lb N)) := by unfold Hid; rw [HKK.out, hall]
          clear HKK hlt hk hall
          go_wp2_with fail
          go_loopw [14] (fun i wz => ∃ (p : Nat) (K' : List (ByteArray × Int)), 1 ≤ p ∧ p ≤ t + 1 ∧ i = .int .i64 p ∧ Hid (K'.Perm KK) ∧ Hid (Pre K' p) ∧ Hid (TR w4 wz (.slice va t p1) (.slice vb t p2) K')) (fun i _ => t - (intOf i).toNat)
          case atStart => exact ⟨1, KK, Nat.le_refl _, by omega, rfl, List.Perm.refl _, Pre.one _, HTR.out⟩
          case round =>
            obtain ⟨p, K', hp1, hpt, rfl, HPM, HPP, HTP⟩ := hrel
            clear HTR
            by_cases hlt : p < t
            · have HN0 := Lib.hid HPP.out.near
              go_wp2_with fail
              go_loopw [15] (fun j wz => ∃ (q : Nat) (K2 : List (ByteArray × Int)), q ≤ p ∧ j = .int .i64 q ∧ Hid (K2.Perm KK) ∧ Hid (Near K2 p q) ∧ Hid (TR w4 wz (.slice va t p1) (.slice vb t p2) K2)) (fun j _ => (intOf j).toNat)
              case atStart => exact ⟨p, K', Nat.le_refl _, rfl, HPM.out, HN0.out, HTP.out⟩
              case round =>
                obtain ⟨q, K2, hq, rfl, HPM2, HNR, HTR2⟩ := hrel
                clear HN0 HPP HPM HTP
                have HTn : Hid (∀ z, TR w4 (wr.drewN z) (.slice va t p1) (.slice vb t p2) K2) := fun z => PR.upd HTR2.out ((Upd.refl _ _).drewN z)
                by_cases hq0 : q = 0
                · subst hq0
                  have HNZ := Lib.hid HNR.out.zero
                  clear HNR HTR2
                  go_wp2_with fail
                  go_quiet (fail)
                  go_wp2_with fail
                  refine ⟨⟨p + 1, K2, by omega, by omega, by go_num, HPM2, HNZ, HTn.out _⟩, ?_⟩
                  simp [intOf] <;> omega
                · obtain ⟨u, hu⟩ : ∃ u, q = u + 1 := ⟨q - 1, by omega⟩
                  have htl : t = K2.length := HTL.out.trans HPM2.out.length_eq.symm
                  obtain ⟨x, hx⟩ : ∃ x, K2[u]? = some x := ⟨_, List.getElem?_eq_getElem (by omega)⟩
                  obtain ⟨y, hy⟩ : ∃ y, K2[u + 1]? = some y := ⟨_, List.getElem?_eq_getElem (by omega)⟩
                  obtain ⟨g1, g2, rfl, rfl, hne, cx1, cx2, hf1, hf2, -⟩ := HTR2.out.at' hx
                  obtain ⟨g1', g2', e1, e2, -, cy1, cy2, -, -, -⟩ := HTR2.out.at' hy
                  simp only [Option.some.injEq, Addr.mk.injEq, and_true] at e1 e2
                  subst e1 e2
                  rw [← hu] at cy1 cy2 hy
                  have HX := Lib.hid hx
                  have HY := Lib.hid hy
                  have hq1 : (q : Int) - 1 = u := by omega
                  have q0 : (0 : Int) < q := by omega
                  have hd1 : decide ((0 : Int) < (q : Int)) = true := decide_eq_true q0
                  have hd2 : decide (0 < q) = true := decide_eq_true (by omega)
                  have q1 : (0 : Int) ≤ q := by omega
                  have q2 : (q : Int) < t := by omega
                  have u0 : (0 : Int) ≤ u := by omega
                  have u1 : (u : Int) < t := by omega
                  have HU := Lib.hid hu
                  clear hx hy htl hu
                  cases hl : keyLt y x with
                  | false =>
                    have HLS : Hid (∀ W : World, Calls Tryd.prog 11 #[.string y.1, .int .i64 y.2, .string x.1, .int .i64 x.2] W fun e w' => e = .returned (.bool false) ∧ w' = W) := fun W => by
                      have h := less11 W y.1 x.1 y.2 x.2
                      have e : keyLt (y.1, y.2) (x.1, x.2) = false := hl
                      rwa [e] at h
                    have HNZ : Hid (Pre K2 (p + 1)) := by
                      have h := HNR.out
                      have hy := HY.out
                      rw [HU.out] at h hy
                      exact Near.stop h HX.out hy hl
                    clear HNR HTR2 HX HY hl HU
                    go_wp2_with fail
                    go_quiet ((go_at_call 11; exact Calls.quiet_of_same (HLS.out _)))
                    go_wp2_with fail
                    refine ⟨⟨p + 1, K2, by omega, by omega, by go_num, HPM2, HNZ, HTn.out _⟩, ?_⟩
                    simp [intOf] <;> omega
                  | true =>
                    have HLS : Hid (∀ W : World, Calls Tryd.prog 11 #[.string y.1, .int .i64 y.2, .string x.1, .int .i64 x.2] W fun e w' => e = .returned (.bool true) ∧ w' = W) := fun W => by
                      have h := less11 W y.1 x.1 y.2 x.2
                      have e : keyLt (y.1, y.2) (x.1, x.2) = true := hl
                      rwa [e] at h
                    have HNZ : Hid (Near (xch K2 u x y) p u) := by
                      have h := HNR.out
                      have hy := HY.out
                      rw [HU.out] at h hy
                      exact Near.step h (by have := HU.out; omega) HX.out hy hl
                    clear HNR hl
                    go_wp2_with fail
                    go_quiet ((go_at_call 11; exact Calls.quiet_of_same (HLS.out _)))
                    have HTq := Lib.hid (HTn.out nq)
                    clear HTn HTR2 HLS cx1 cx2 cy1 cy2 hf1 hf2
                    generalize wr.drewN nq = wq at *
                    obtain ⟨m1, m2, m3, m4, m5, m6, m7⟩ := TR.moves HTq.out HX.out HY.out (by have := HU.out; omega)
                    obtain ⟨G1, G2, e1, e2, -, a1, a2, f1, f2, -⟩ := HTq.out.at' HX.out
                    simp only [Option.some.injEq, Addr.mk.injEq, and_true] at e1 e2
                    subst e1 e2
                    obtain ⟨G1, G2, e1, e2, -, a3, a4, -, -, -⟩ := HTq.out.at' HY.out
                    simp only [Option.some.injEq, Addr.mk.injEq, and_true] at e1 e2
                    subst e1 e2
                    have f3 := f1 q
                    have f4 := f1 u
                    have f5 := f2 q
                    have f6 := f2 u
                    have HXD : Hid (TR w4 ((((wq.setCell ⟨g1, q, none⟩ (.string x.1)).setCell ⟨g1, u, none⟩ (.string y.1)).setCell ⟨g2, q, none⟩ (.int .i64 x.2)).setCell ⟨g2, u, none⟩ (.int .i64 y.2)) (.slice (some ⟨g1, 0, none⟩) t p1) (.slice (some ⟨g2, 0, none⟩) t p2) (xch K2 u x y)) := by
                      have hy := HY.out
                      rw [HU.out] at hy ⊢
                      exact TR.xch HTq.out HX.out hy
                    have HPX : Hid ((xch K2 u x y).Perm KK) := by
                      have hy := HY.out
                      rw [HU.out] at hy
                      exact (xch_perm HX.out hy).trans HPM2.out
                    have hup : u ≤ p := by have := HU.out; omega
                    have HUL : Hid (u < q) := by unfold Hid; have := HU.out; omega
                    clear f1 f2 HTq HX HY HPM2 HU
                    go_wp2_with fail
                    refine ⟨⟨u, xch K2 u x y, hup, by go_num, HPX, HNZ, HXD⟩, ?_⟩
                    have := HUL.out
                    simp [intOf] <;> omega
            · have htl : t = K'.length := HTL.out.trans HPM.out.length_eq.symm
              have hord : InOrder K' := HPP.out.all (by omega)
              have hKK : K' = K1 := by
                refine inOrder_eq ((HPM.out.trans ?_).trans HP1.out.symm) hord HO1.out
                rw [HK0.out]
              subst hKK
              obtain rfl : l = t := by rw [HL.out, htl]
              have hb45 : Below w4.heap.size w4 wr := HTP.out.2.2.1
              have hfk : Fine K' := Fine.perm (Fine.vis HFK.out) (by rw [← HK0.out]; exact HPM.out)
              have hs5 := HS1.out.kept hb45
              have hbw4 : Below w.heap.size w w4 := HBD.out.trans (HB4.out.mono HBD.out.size)
              have HBZ : Hid (Below w.heap.size w wr) := hbw4.trans (hb45.mono hbw4.size)
              obtain ⟨b1', c1', e1, -, -, hat1⟩ := str_open hs5
              simp only [Value.slice.injEq] at e1
              obtain ⟨rfl, -, rfl⟩ := e1
              obtain ⟨w5, hw5⟩ : ∃ w5, w5 = wr := ⟨_, rfl⟩
              rw [← hw5] at HBZ hat1 HTP ⊢
              clear hw5
              have HAT : Hid (∀ j, j < l → ∃ (k : ByteArray × Int) (ar : Nat) (xb : Addr) (g1 g2 : Nat), ar ≤ 65536 ∧ k.1.size ≤ 1048576 ∧ b1 = some xb ∧ va = some ⟨g1, 0, none⟩ ∧ vb = some ⟨g2, 0, none⟩ ∧ w5.cell? (xb.add j) = some (.string (k.1 ++ ⟨#[47]⟩ ++ ⟨(Lib.decDigits ar).toArray⟩)) ∧ w5.cell? ⟨g1, j, none⟩ = some (.string k.1) ∧ w5.cell? ⟨g2, j, none⟩ = some (.int .i64 ar)) := fun j hj => by
                obtain ⟨k, hk⟩ : ∃ k, K'[j]? = some k := ⟨_, List.getElem?_eq_getElem (by omega)⟩
                obtain ⟨f1, f2, f3, f4⟩ := hfk j k hk
                obtain ⟨ar, har⟩ : ∃ ar : Nat, k.2 = ar := ⟨k.2.toNat, by omega⟩
                obtain ⟨g1, g2, e1, e2, -, q1, q2, -, -, -⟩ := HTP.out.at' hk
                obtain ⟨xb, e3, q3, -⟩ := hat1 j (strK k) (by rw [List.getElem?_map, hk]; rfl)
                refine ⟨k, ar, xb, g1, g2, by omega, f2, e3, e1, e2, ?_, q1, by rw [← har]; exact q2⟩
                rw [q3]; unfold strK; rw [har]; rfl
              have hl4 : l ≤ 4096 := by omega
              clear htl hord hb45 hfk hs5 hbw4 hat1 HTP HPP HPM HK0 HL HS1 HP1 HO1 HFK HTL HBD HDD HB4 HTW HN HM
              go_wp2_with fail
              go_loopw [18] (fun i wz => ∃ j : Nat, j ≤ l ∧ i = .int .i64 j ∧ Hid (Below w5.heap.size w5 wz)) (fun i _ => l - (intOf i).toNat)
              case atStart => exact ⟨0, Nat.zero_le _, rfl, Below.refl _ _⟩
              case round =>
                obtain ⟨j, hj, rfl, HBJ⟩ := hrel
                by_cases hjl : j < l
                · obtain ⟨k, ar, xb, g1, g2, har, hks, rfl, rfl, rfl, q1, q2, q3⟩ := HAT.out j hjl
                  have c1 := (HBJ.out.cell (p := xb.add j) (by rw [zs.add_block]; exact zs.addr_lt q1)).trans q1
                  have c2 := (HBJ.out.cell (p := ⟨g1, j, none⟩) (blk_lt q2)).trans q2
                  have c3 := (HBJ.out.cell (p := ⟨g2, j, none⟩) (blk_lt q3)).trans q3
                  have HIT := Lib.hid (itoa12 ar har wr.drew)
                  have HFIN : Hid (∀ w6, Below wr.drew.heap.size wr.drew w6 → (w6.cell? (xb.add j) = some (.string (k.1 ++ ⟨#[47]⟩ ++ ⟨(Lib.decDigits ar).toArray⟩)) ∧ w6.cell? ⟨g1, j, none⟩ = some (.string k.1) ∧ w6.cell? ⟨g2, j, none⟩ = some (.int .i64 ar)) ∧ Hid (Below w5.heap.size w5 w6)) := by
                    unfold Hid; intro w6 h6
                    have h6' : Below wr.heap.size wr w6 := ⟨h6.os, h6.tape, h6.output, h6.size, h6.block⟩
                    have hb6 : Below w5.heap.size w5 w6 := HBJ.out.trans (h6'.mono HBJ.out.size)
                    exact ⟨⟨(hb6.cell (p := xb.add j) (by rw [zs.add_block]; exact zs.addr_lt q1)).trans q1, (hb6.cell (p := ⟨g1, j, none⟩) (blk_lt q2)).trans q2, (hb6.cell (p := ⟨g2, j, none⟩) (blk_lt q3)).trans q3⟩, hb6⟩
                  have hdl := digits_le ar har
                  have j0 : (0 : Int) ≤ j := by omega
                  have j1 : (j : Int) < l := by omega
                  have s1 : ¬ 9223372036854775807 < k.1.size + 1 := by omega
                  have s2 : ¬ 9223372036854775807 < k.1.size + 1 + (Lib.decDigits ar).length := by omega
                  clear HAT HBJ HBZ q1 q2 q3
                  go_wp2_with fail
                  go_region_held_law (fun w' => w'.cell? (xb.add j) = some (.string (k.1 ++ ⟨#[47]⟩ ++ ⟨(Lib.decDigits ar).toArray⟩)) ∧ w'.cell? ⟨g1, j, none⟩ = some (.string k.1) ∧ w'.cell? ⟨g2, j, none⟩ = some (.int .i64 ar)) (first | assumption | go_keep)
                    ((go_at_call 12; refine HIT.out.mono ?_; rintro e w6 ⟨rfl, hb6⟩; obtain ⟨xS, HBN⟩ := HFIN.out w6 hb6; clear hb6))
                  go_wp2_with fail
                  refine ⟨⟨j + 1, by omega, by go_num, HBN⟩, ?_⟩
                  simp [intOf] <;> omega
                · obtain rfl : l = j := by omega
                  have HBE : Hid (Below w.heap.size w wr) := HBZ.out.trans (HBJ.out.mono HBZ.out.size)
                  clear HAT HBJ HBZ
                  go_wp2_with fail
                  go_ret
                  exact ⟨rfl, HBE.out⟩
theorem walk (a0 : Option Addr) (len0 cap0 : Nat) (z0 : List ByteArray) (a1 : Option Addr) (len1 cap1 : Nat) (z1 : List Int) (w : World) (w0 : inp.IsStrs w a0 len0 cap0 z0) (w1 : inp.IsRow .i64 w a1 len1 cap1 z1) (hT : Tab w.heap.size w) :
    Calls Tryd.prog 4 #[.slice a0 len0 cap0, .slice a1 len1 cap1] w fun e w' => e = .returned (.bool true) ∧ Below w.heap.size w w' := walk' _ _ _ _ w hT (zs.strRow w0) (zs.intRow w1)
end Go.Proofs.YtbogmmpbmgibnaaDoor.fnListModuleDefsSortedVisibleNameArity
