/- What the statement's script runner does: the stack and the model stay in step. -/
import Derived.Test.YtkahmfdebkfcjaaStep
namespace Go.Proofs.Ytkahmfdebkfcjaa.apply
open Go.ChangeShapes Go.WideShapes Go.ChangeAt Go.RowKit
open upd stack full plain step

set_option maxRecDepth 100000 in
set_option maxHeartbeats 40000000 in
theorem apply (base b mb : Nat) (w : World) (x : Addr) (n cap : Nat) (bs : Nat → Int) (off : Int) (hst : State base b mb w 0) (hn : n ≤ 65536) (hbs : ∀ i, 0 ≤ bs i ∧ bs i < 256) (hx : 0 < n → x.block < base) (hc : ∀ i, i < n → w.cell? (x.add i) = some (.int .u8 (bs i))) (hbase : base ≤ w.heap.size) (ho : 0 ≤ off ∧ off ≤ 1000000) :
    Calls Try.prog 10 #[.pointer (some ⟨b, 0, none⟩), .pointer (some ⟨mb, 0, none⟩), .slice (some x) n cap, .int .i64 off] w fun e w' => e = .returned (.bool true) ∧ State base b mb w' n ∧ Below base w w' := by
  obtain ⟨i0, hi, hz0, hz1, hz2⟩ := info_parts info3
  have HC := Lib.hid hc; have HS := Lib.hid hst; have HBS := Lib.hid hbs
  clear hc hst hbs
  go_enter Try.func10, Try.ntmps10
  go_wp2_with fail
  go_loopw [9] (fun i wr => ∃ k : Nat, k ≤ n ∧ i = .int .i64 k ∧ Hid (State base b mb wr k) ∧ Hid (Below base w wr)) (fun i _ => n - (intOf i).toNat)
  case atStart => exact ⟨0, Nat.zero_le _, rfl, HS, Below.refl _ _⟩
  case round =>
    obtain ⟨k, hk, rfl, HT, HB⟩ := hrel
    clear HS
    obtain ⟨d, md, idx, lim, head, sv, col, dv, a1, a2, a3, a4, a5, k1, k2, k3, k4, k5, l1, l2, l3, l4, l5, hinv, htie, hd, n1, n2, n3, n4, n5, hfull⟩ := HT.out
    obtain ⟨m0, m1, m2, m3, m4, m5, mf, mlt⟩ := hfull.cells
    have HI := Lib.hid hinv; have HTI := Lib.hid htie; have HTS := HT; have HF := Lib.hid hfull
    have hem := hinv.empty
    have hne : (decide (idx < 0) != decide (head < 0)) = false := by simp [hem.1]
    clear hinv hfull HT htie
    by_cases hlt : k < n
    · have hby := HBS.out k
      have c0 : wr.cell? (x.add k) = some (.int .u8 (bs k)) := by
        have hbk : (x.add k).block = x.block := by unfold Addr.add; split <;> rfl
        rw [HB.out.cell (p := x.add k) (by rw [hbk]; exact hx (by omega))]; exact HC.out k hlt
      have HCk := Lib.hid (HC.out k hlt)
      generalize bs k = bk at c0 hby HCk
      have hr : (bk % 4 = 0) ∨ bk % 4 = 1 ∨ bk % 4 = 2 ∨ bk % 4 = 3 := by omega
      rcases hr with hr | hr | hr | hr
      · have hq0 : (bk % 4 == 0) = true := by simp [hr]
        clear hr
        go_wp2_with fail
        go_quiet ((go_at_call 20; exact Calls.quiet_of_same (zemptyQ _ _ _ _ _ _ _ (Stk.drewN HF.out.stk _))))
        have HF1 := Lib.hid (HF.out.still ((Upd.refl (fun _ => False) _).drewN nq))
        have HB1 : Hid (Below base w (wr.drewN nq)) := HB.out.trans ⟨rfl, rfl, rfl, Nat.le_refl _, fun _ _ => rfl⟩
        generalize wr.drewN nq = wa at HF1 HB1 ⊢
        clear m0 m1 m2 m3 m4 m5 mf mlt c0 HF HB
        have c0 : wa.cell? (x.add k) = some (.int .u8 bk) := by
          have hbk : (x.add k).block = x.block := by unfold Addr.add; split <;> rfl
          rw [HB1.out.cell (p := x.add k) (by rw [hbk]; exact hx (by omega))]; exact HCk.out
        have hbw : base ≤ wa.heap.size := Nat.le_trans hbase HB1.out.size
        go_wp2_with (first | (go_at_call 19; refine (zpush _ _ _ _ _ _ _ _ HF1.out.stk HI.out.wf hbw (by omega)).mono ?_; rintro e wb ⟨rfl, dv2, hS2, hu2, hl2⟩; obtain ⟨col2, hF2⟩ := HF1.out.stack hS2 hu2 hl2; obtain ⟨m0, m1, m2, m3, m4, m5, mf, mlt⟩ := hF2.cells; have HF2 := Lib.hid hF2; have HBb := Lib.hid (below_stk HB1.out HF1.out.stk HF1.out.hb hu2 hbw); have hbw2 : base ≤ wb.heap.size := Nat.le_trans hbase HBb.out.size; clear hS2 hl2 hu2 hF2) | (at_builtin; refine wpList_append_lies _ rfl (.tmp 47) (.tmp 49) 38 rfl base 3 i0 (.int .i64 0) 1 8 Try.underlying38 hi hz0 hz1 hz2 rfl (by decide) _ l1.length (ic l1) rfl (HF2.out.o1.alloc _) ⟨wb.heap.size, 0, none⟩ 1 1 [.int .i64 (off + k)] rfl rfl (cell_one_new _ _ _) (by intro u hu; simp at hu; subst hu; rfl) (by decide) (by unfold maxLen; omega) (by omega) (by simp; omega) _ rfl ?_; intro g1 cp1 wc hown hgrow hat hlt; have HBc := Lib.hid (below_app HBb.out hgrow ((Upd.refl _ _).alloc _) hbw2 (fun k hk => (HF2.out.o1.lt k hk).1)); obtain ⟨kb, col3, hF3⟩ := HF2.out.app1 (off + k) hgrow ((Upd.refl _ _).alloc _) hown hat (by simp); have HF3 := Lib.hid hF3; clear hown hgrow hat hlt hF3 m0 m1 m2 m3 m4 m5 mf mlt; have q0 := (blk_cells kb).1; have q1 := kb.free 0; clear kb))
        have HZ3 : Hid (base ≤ (wc.setCell ⟨mb, 0, none⟩ (.slice (some ⟨g1, 0, none⟩) (l1.length + 1) cp1)).heap.size) := by unfold Hid; exact Nat.le_trans HF3.out.hm (Nat.le_of_lt HF3.out.blk.lt)
        have HBd : Hid (Below base w (wc.setCell ⟨mb, 0, none⟩ (.slice (some ⟨g1, 0, none⟩) (l1.length + 1) cp1))) := HBc.out.setCell HF2.out.hm _
        generalize wc.setCell ⟨mb, 0, none⟩ (.slice (some ⟨g1, 0, none⟩) (l1.length + 1) cp1) = wd at HF3 HZ3 HBd ⊢
        obtain ⟨m0, m1, m2, m3, m4, m5, mf, mlt⟩ := HF3.out.cells
        have mn : mb ≠ wd.heap.size := by omega
        have mn1 : mb < wd.heap.size + 1 := by omega
        go_region_law (refine step_append_lies _ rfl (.tmp 57) (.tmp 62) 38 rfl base 3 i0 (.int .i64 0) 1 8 Try.underlying38 hi hz0 hz1 hz2 rfl (by decide) _ l2.length (ic l2) rfl ?_ ⟨wd.heap.size, 0, none⟩ 1 1 [.int .i64 head] rfl rfl ?_ ?_ (by decide) ?_ ?_ ?_ (wd.heap.size + 1) ?_ ?_; (exact own_kept HF3.out.o2 (S := fun _ => False) (by repeat (first | exact Upd.refl _ _ | apply Upd.drew | apply Upd.drewN | apply Upd.alloc)) (fun _ _ => id)); (first | exact World.news_of_block (cs := #[.int .i64 head]) (blk_drew _ _ _ rfl) | exact World.news_of_block (cs := #[.int .i64 head]) (blk_at _ _ _ rfl)); (intro u hu; simp at hu; subst hu; rfl); (unfold maxLen; omega); omega; (have := HZ3.out; simp; omega); simp; intro g2 cp2 we hown hgrow hat hlt; have HBe := Lib.hid (below_app HBd.out hgrow (by repeat (first | exact Upd.refl _ _ | apply Upd.drew | apply Upd.drewN | apply Upd.alloc)) HZ3.out (fun k hk => (HF3.out.o2.lt k hk).1)); obtain ⟨kb, col4, hF4⟩ := HF3.out.app2 head hgrow (by repeat (first | exact Upd.refl _ _ | apply Upd.drew | apply Upd.drewN | apply Upd.alloc)) hown hat (by omega); have HF4 := Lib.hid hF4; clear hown hgrow hat hlt hF4 m0 m1 m2 m3 m4 m5 mf; have q2 := (blk_cells kb).2.1; have q3 := kb.free 1; clear kb)
        all_goals
          as_aux_lemma =>
            have HBf : Hid (Below base w (we.setCell ⟨mb, 1, none⟩ (.slice (some ⟨g2, 0, none⟩) (l2.length + 1) cp2))) := HBe.out.setCell HF3.out.hm _
            generalize we.setCell ⟨mb, 1, none⟩ (.slice (some ⟨g2, 0, none⟩) (l2.length + 1) cp2) = wf at HF4 HBf ⊢
            obtain ⟨m0, m1, m2, m3, m4, m5, mf, mlt2⟩ := HF4.out.cells
            have HS := Lib.hid (state_push HI.out HTI.out hd n1 n2 n3 n4 n5 (HF4.out.setHead l1.length))
            have HBg : Hid (Below base w (wf.setCell ⟨mb, 2, none⟩ (.int .i64 l1.length))) := HBf.out.setCell HF3.out.hm _
            go_wp2_with fail
            go_roundw
            case rel => exact ⟨k + 1, by omega, by go_num, HS, HBg⟩
            case measure => simp [intOf]; omega
      · have hq0 : (bk % 4 == 0) = false := by simp; omega
        have hq1 : (bk % 4 == 1) = true := by simp [hr]
        clear hr
        by_cases hh : 0 ≤ head
        · as_aux_lemma =>
            obtain ⟨kk, j, v, nx, nx', e1, e2, e3, e4, e5, hinv'⟩ := HI.out.pop hh
            obtain ⟨t1, t2, _, _, _⟩ := HTI.out
            have hl1 : l1[j]? = some v.1 := by rw [t1]; simp [e4]
            have hl2 : l2[j]? = some nx' := by rw [t2]; simp [e4]
            obtain ⟨g1, rfl, r1, j1⟩ := own_at HF.out.o1 hl1
            obtain ⟨g2, rfl, r2, j2⟩ := own_at HF.out.o2 hl2
            have HIN := Lib.hid hinv'; have HE3 := Lib.hid e3; have HL1 := Lib.hid hl1; have HL2 := Lib.hid hl2; have HE1 := Lib.hid e1
            subst e2
            clear hinv' e3 e4 e5 t1 t2 hl1 hl2 r1 r2 e1
            go_wp2_with fail
            go_quiet ((go_at_call 20; exact Calls.quiet_of_same (zemptyQ _ _ _ _ _ _ _ (Stk.drewN HF.out.stk _))))
            have HF1 := Lib.hid (HF.out.still ((Upd.refl (fun _ => False) _).drewN nq))
            have HB1 : Hid (Below base w (wr.drewN nq)) := HB.out.trans ⟨rfl, rfl, rfl, Nat.le_refl _, fun _ _ => rfl⟩
            generalize wr.drewN nq = wa at HF1 HB1 ⊢
            clear m0 m1 m2 m3 m4 m5 mf mlt c0 HF HB
            obtain ⟨m0, m1, m2, m3, m4, m5, mf, mlt⟩ := HF1.out.cells
            have c0 : wa.cell? (x.add k) = some (.int .u8 bk) := by
              have hbk : (x.add k).block = x.block := by unfold Addr.add; split <;> rfl
              rw [HB1.out.cell (p := x.add k) (by rw [hbk]; exact hx (by omega))]; exact HCk.out
            have hbw : base ≤ wa.heap.size := Nat.le_trans hbase HB1.out.size
            go_wp2_with (go_at_call 21; refine (zpop _ _ _ _ _ _ _ _ _ _ HF1.out.stk HE1.out HE3.out).mono ?_; rintro e wb ⟨rfl, hS2, hu2⟩; obtain ⟨col2, hF2⟩ := HF1.out.stack hS2 (hu2.mono (fun _ _ h => .inl h)) (.inl rfl); have HF2 := Lib.hid hF2; have HBb := Lib.hid (below_stk HB1.out HF1.out.stk HF1.out.hb (hu2.mono (fun _ _ h => .inl h)) hbw); clear hS2 hu2 hF2 m0 m1 m2 m3 m4 m5 mf)
            obtain ⟨m0, m1, m2, m3, m4, m5, mf, _⟩ := HF2.out.cells
            have r1 := own_cell HF2.out.o1 HL1.out
            have r2 := own_cell HF2.out.o2 HL2.out
            have ij : (0 : Int) ≤ j := by omega
            have ij1 : (j : Int) < l1.length := by omega
            have ij2 : (j : Int) < l2.length := by omega
            go_quiet (fail)
            have HFc := Lib.hid (HF2.out.still ((Upd.refl (fun _ => False) _).drewN nq))
            have HBc : Hid (Below base w (wb.drewN nq)) := HBb.out.trans ⟨rfl, rfl, rfl, Nat.le_refl _, fun _ _ => rfl⟩
            clear m0 m1 m2 m3 m4 m5 mf r1 r2
            generalize wb.drewN nq = wc at HFc HBc ⊢
            obtain ⟨m0, m1, m2, m3, m4, m5, mf, _⟩ := HFc.out.cells
            have r1 := own_cell HFc.out.o1 HL1.out
            have r2 := own_cell HFc.out.o2 HL2.out
            have HS := Lib.hid (state_pop HIN.out HTI.out hd n1 n2 n3 n4 n5 ((HFc.out.setHead nx').still (Upd.refl (fun _ => False) _).drew))
            have HBd : Hid (Below base w (wc.setCell ⟨mb, 2, none⟩ (.int .i64 nx')).drew) := (HBc.out.setCell HFc.out.hm _).drew
            go_wp2_with fail
            go_region
            all_goals go_wp2_with fail
            all_goals
              as_aux_lemma =>
                go_roundw
                case rel => exact ⟨k + 1, by omega, by go_num, HS, HBd⟩
                case measure => simp [intOf]; omega
        · as_aux_lemma =>
            go_wp2_with fail
            go_quiet ((go_at_call 20; exact Calls.quiet_of_same (zemptyQ _ _ _ _ _ _ _ (Stk.drewN HF.out.stk _))))
            have HF1 := Lib.hid (HF.out.still ((Upd.refl (fun _ => False) _).drewN nq))
            have HB1 : Hid (Below base w (wr.drewN nq)) := HB.out.trans ⟨rfl, rfl, rfl, Nat.le_refl _, fun _ _ => rfl⟩
            have HS := Lib.hid (state_pop HI.out HTI.out hd n1 n2 n3 n4 n5 HF1.out)
            go_wp2_with fail
            go_roundw
            case rel => exact ⟨k + 1, by omega, by go_num, HS, HB1⟩
            case measure => simp [intOf]; omega
      · have hq0 : (bk % 4 == 0) = false := by simp; omega
        have hq1 : (bk % 4 == 1) = false := by simp; omega
        have hq2 : (bk % 4 == 2) = true := by simp [hr]
        clear hr
        go_wp2_with fail
        go_quiet ((go_at_call 20; exact Calls.quiet_of_same (zemptyQ _ _ _ _ _ _ _ (Stk.drewN HF.out.stk _))))
        have HF1 := Lib.hid (HF.out.still ((Upd.refl (fun _ => False) _).drewN nq))
        have HB1 : Hid (Below base w (wr.drewN nq)) := HB.out.trans ⟨rfl, rfl, rfl, Nat.le_refl _, fun _ _ => rfl⟩
        generalize wr.drewN nq = wa at HF1 HB1 ⊢
        clear m0 m1 m2 m3 m4 m5 mf mlt c0 HF HB
        have c0 : wa.cell? (x.add k) = some (.int .u8 bk) := by
          have hbk : (x.add k).block = x.block := by unfold Addr.add; split <;> rfl
          rw [HB1.out.cell (p := x.add k) (by rw [hbk]; exact hx (by omega))]; exact HCk.out
        have hbw : base ≤ wa.heap.size := Nat.le_trans hbase HB1.out.size
        go_wp2_with (first | (go_at_call 16; refine (zsave _ _ _ _ _ _ _ HF1.out.stk).mono ?_; rintro e wb ⟨rfl, hS2, hu2⟩; obtain ⟨col2, hF2⟩ := HF1.out.stack hS2 (hu2.mono (fun _ _ h => .inl h)) (.inl rfl); obtain ⟨m0, m1, m2, m3, m4, m5, mf, mlt⟩ := hF2.cells; have HF2 := Lib.hid hF2; have HBb := Lib.hid (below_stk HB1.out HF1.out.stk HF1.out.hb (hu2.mono (fun _ _ h => .inl h)) hbw); have hbw2 : base ≤ wb.heap.size := Nat.le_trans hbase HBb.out.size; clear hS2 hu2 hF2) | (at_builtin; refine wpList_append_lies _ rfl (.tmp 120) (.tmp 122) 38 rfl base 3 i0 (.int .i64 0) 1 8 Try.underlying38 hi hz0 hz1 hz2 rfl (by decide) _ l4.length (ic l4) rfl (HF2.out.o4.alloc _) ⟨wb.heap.size, 0, none⟩ 1 1 [.int .i64 idx] rfl rfl (cell_one_new _ _ _) (by intro u hu; simp at hu; subst hu; rfl) (by decide) (by unfold maxLen; omega) (by omega) (by simp; omega) _ rfl ?_; intro g4 cp4 wc hown hgrow hat hlt; have HBc := Lib.hid (below_app HBb.out hgrow ((Upd.refl _ _).alloc _) hbw2 (fun k hk => (HF2.out.o4.lt k hk).1)); obtain ⟨kb, col3, hF3⟩ := HF2.out.app4 idx hgrow ((Upd.refl _ _).alloc _) hown hat (by simp); have HF3 := Lib.hid hF3; clear hown hgrow hat hlt hF3 m0 m1 m2 m3 m4 m5 mf mlt; obtain ⟨m0, m1, m2, m3, m4, m5, mf⟩ := blk_cells kb; have HBd : Hid (Below base w (wc.setCell ⟨mb, 4, none⟩ (.slice (some ⟨g4, 0, none⟩) (l4.length + 1) cp4))) := HBc.out.setCell HF2.out.hm _; have hbw3 : base ≤ wc.heap.size := Nat.le_trans hbase HBc.out.size; clear kb) | (at_builtin; refine wpList_append_lies _ rfl (.tmp 130) (.tmp 132) 38 rfl base 3 i0 (.int .i64 0) 1 8 Try.underlying38 hi hz0 hz1 hz2 rfl (by decide) _ l5.length (ic l5) rfl (HF3.out.o5.alloc _) ⟨wc.heap.size, 0, none⟩ 1 1 [.int .i64 lim] rfl rfl (news1 _ _ _ _ (by simp)) (by intro u hu; simp at hu; subst hu; rfl) (by decide) (by unfold maxLen; omega) (by omega) (by simp; omega) _ rfl ?_; intro g5 cp5 we hown hgrow hat hlt; have HBe := Lib.hid (below_app HBd.out hgrow ((Upd.refl _ _).alloc _) (by simp; omega) (fun k hk => (HF3.out.o5.lt k hk).1)); obtain ⟨kb, col4, hF4⟩ := HF3.out.app5 lim hgrow ((Upd.refl _ _).alloc _) hown hat (by simp); have HF4 := Lib.hid hF4; clear hown hgrow hat hlt hF4 m0 m1 m2 m3 m4 m5 mf; obtain ⟨m0, m1, m2, m3, m4, m5, mf⟩ := blk_cells kb; clear kb))
        have HZ5 : Hid (base ≤ (we.setCell ⟨mb, 5, none⟩ (.slice (some ⟨g5, 0, none⟩) (l5.length + 1) cp5)).heap.size) := by unfold Hid; exact Nat.le_trans HF4.out.hm (Nat.le_of_lt HF4.out.blk.lt)
        have HBf : Hid (Below base w (we.setCell ⟨mb, 5, none⟩ (.slice (some ⟨g5, 0, none⟩) (l5.length + 1) cp5))) := HBe.out.setCell HF3.out.hm _
        generalize we.setCell ⟨mb, 5, none⟩ (.slice (some ⟨g5, 0, none⟩) (l5.length + 1) cp5) = wf at HF4 HZ5 HBf ⊢
        clear m0 m1 m2 m3 m4 m5 mf
        obtain ⟨m0, m1, m2, m3, m4, m5, mf, mlt⟩ := HF4.out.cells
        have mn : mb ≠ wf.heap.size := by omega
        have mn1 : mb < wf.heap.size + 1 := by omega
        go_region_law (refine step_append_lies _ rfl (.tmp 140) (.tmp 145) 38 rfl base 3 i0 (.int .i64 0) 1 8 Try.underlying38 hi hz0 hz1 hz2 rfl (by decide) _ l3.length (ic l3) rfl ?_ ⟨wf.heap.size, 0, none⟩ 1 1 [.int .i64 head] rfl rfl ?_ ?_ (by decide) ?_ ?_ ?_ (wf.heap.size + 1) ?_ ?_; (exact own_kept HF4.out.o3 (S := fun _ => False) (by repeat (first | exact Upd.refl _ _ | apply Upd.drew | apply Upd.drewN | apply Upd.alloc)) (fun _ _ => id)); (first | exact World.news_of_block (cs := #[.int .i64 head]) (blk_drew _ _ _ rfl) | exact World.news_of_block (cs := #[.int .i64 head]) (blk_at _ _ _ rfl)); (intro u hu; simp at hu; subst hu; rfl); (unfold maxLen; omega); omega; (have := HZ5.out; simp; omega); simp; intro g3 cp3 wg hown hgrow hat hlt; have HBg := Lib.hid (below_app HBf.out hgrow (by repeat (first | exact Upd.refl _ _ | apply Upd.drew | apply Upd.drewN | apply Upd.alloc)) HZ5.out (fun k hk => (HF4.out.o3.lt k hk).1)); obtain ⟨kb, col5, hF5⟩ := HF4.out.app3 head hgrow (by repeat (first | exact Upd.refl _ _ | apply Upd.drew | apply Upd.drewN | apply Upd.alloc)) hown hat (by omega); have HF5 := Lib.hid hF5; clear hown hgrow hat hlt hF5 m0 m1 m2 m3 m4 m5 mf; have q2 := (blk_cells kb).2.2.2.1; have q3 := kb.free 3; clear kb)
        all_goals
          as_aux_lemma =>
            have HBh : Hid (Below base w (wg.setCell ⟨mb, 3, none⟩ (.slice (some ⟨g3, 0, none⟩) (l3.length + 1) cp3))) := HBg.out.setCell HF4.out.hm _
            have HS := Lib.hid (state_save HI.out HTI.out hd n1 n2 n3 n4 n5 HF5.out)
            go_wp2_with fail
            go_roundw
            case rel => exact ⟨k + 1, by omega, by go_num, HS, HBh⟩
            case measure => simp [intOf]; omega
      · have hq0 : (bk % 4 == 0) = false := by simp; omega
        have hq1 : (bk % 4 == 1) = false := by simp; omega
        have hq2 : (bk % 4 == 2) = false := by simp; omega
        clear hr
        cases sv with
        | nil =>
          as_aux_lemma =>
            have hl3 : l3.length = 0 := by obtain ⟨_, _, e, _, _⟩ := HTI.out; rw [e]; rfl
            have hl3' : ¬ (0 : Int) < l3.length := by omega
            clear hl3
            go_wp2_with fail
            go_quiet ((go_at_call 20; exact Calls.quiet_of_same (zemptyQ _ _ _ _ _ _ _ (Stk.drewN HF.out.stk _))))
            have HF1 := Lib.hid (HF.out.still ((Upd.refl (fun _ => False) _).drewN nq))
            have HB1 : Hid (Below base w (wr.drewN nq)) := HB.out.trans ⟨rfl, rfl, rfl, Nat.le_refl _, fun _ _ => rfl⟩
            have HS := Lib.hid (state_pop HI.out HTI.out hd n1 n2 n3 n4 n5 HF1.out)
            go_wp2_with fail
            go_roundw
            case rel => exact ⟨k + 1, by omega, by go_num, HS, HB1⟩
            case measure => simp [intOf]; omega
        | cons s0 rest =>
          obtain ⟨sh, si, sl⟩ := s0
          obtain ⟨r3, r4, r5, e3, e4, e5, f4, f5, htie'⟩ := tie_last HTI.out
          clear HTI
          subst e3 e4 e5
          have HTI := Lib.hid htie'; have HF4 := Lib.hid f4; have HF5 := Lib.hid f5
          clear htie'
          obtain ⟨g3, rfl, b3⟩ := own_last HF.out.o3
          obtain ⟨g4, rfl, b4⟩ := own_last HF.out.o4
          obtain ⟨g5, rfl, b5⟩ := own_last HF.out.o5
          have n3' : r3.length + 1 ≤ k := by simpa using n3
          have i4a : r3.length < r4.length + 1 := by omega
          have i5a : r3.length < r5.length + 1 := by omega
          have i4 : (r3.length : Int) < (r4.length : Int) + 1 := by omega
          have i5 : (r3.length : Int) < (r5.length : Int) + 1 := by omega
          have j3 : r3.length ≤ k3 := by omega
          have j4 : r3.length ≤ k4 := by omega
          have j5 : r3.length ≤ k5 := by omega
          clear f4 f5 n3 n4 n5 b3 b4 b5
          go_wp2_with fail
          go_quiet ((go_at_call 20; exact Calls.quiet_of_same (zemptyQ _ _ _ _ _ _ _ (Stk.drewN HF.out.stk _))))
          have HF1 := Lib.hid (HF.out.still ((Upd.refl (fun _ => False) _).drewN nq))
          have HB1 : Hid (Below base w (wr.drewN nq)) := HB.out.trans ⟨rfl, rfl, rfl, Nat.le_refl _, fun _ _ => rfl⟩
          generalize wr.drewN nq = wa at HF1 HB1 ⊢
          clear m0 m1 m2 m3 m4 m5 mf mlt c0 HF HB
          obtain ⟨m0, m1, m2, m3, m4, m5, mf, mlt⟩ := HF1.out.cells
          have c0 : wa.cell? (x.add k) = some (.int .u8 bk) := by
            have hbk : (x.add k).block = x.block := by unfold Addr.add; split <;> rfl
            rw [HB1.out.cell (p := x.add k) (by rw [hbk]; exact hx (by omega))]; exact HCk.out
          have hbw : base ≤ wa.heap.size := Nat.le_trans hbase HB1.out.size
          have y4 := own_end HF1.out.o4 HF4.out
          have y5 := own_end HF1.out.o5 HF5.out
          go_wp2_with fail
          have hwr : IntKind.i64.wrap (r3.length : Int) = r3.length := IntWalk.i64_in _ (by omega)
          go_region_law (first | (go_simp; go_at_call 17; refine (zrestore _ _ _ _ _ _ _ _ _ (HF1.out.stk.kept (S := fun _ => False) (by repeat (first | exact Upd.refl _ _ | apply Upd.drew | apply Upd.drewN)) id (fun _ _ => id))).mono ?_; rintro e wb ⟨rfl, hS2, hu2⟩; obtain ⟨col2, hF2⟩ := (HF1.out.still (by repeat (first | exact Upd.refl _ _ | apply Upd.drew | apply Upd.drewN))).stack hS2 (hu2.mono (fun _ _ h => .inl h)) (.inl rfl); have HF2 := Lib.hid hF2; have HBb := Lib.hid (HB1.out.trans ((Upd.below ((Upd.refl (· = b) wa).drew.trans hu2) hbw (fun k hk => by rw [hk]; exact HF1.out.hb)))); clear hS2 hu2 hF2 m0 m1 m2 m3 m4 m5 mf y4 y5))
          all_goals
            as_aux_lemma =>
              clear hwr
              obtain ⟨m0, m1, m2, m3, m4, m5, mf, _⟩ := HF2.out.cells
              have y3 := own_end HF2.out.o3 rfl
              have HS := Lib.hid (state_back HI.out HTI.out HF4.out HF5.out rfl hd n1 n2 (by omega) ((((HF2.out.setHead sh).cut3 r3.length (by simp)).cut4 r3.length (by simp; omega)).cut5 r3.length (by simp; omega)))
              have HBc : Hid (Below base w ((((wb.setCell ⟨mb, 2, none⟩ (.int .i64 sh)).setCell ⟨mb, 3, none⟩ (.slice (some ⟨g3, 0, none⟩) r3.length k3)).setCell ⟨mb, 4, none⟩ (.slice (some ⟨g4, 0, none⟩) r3.length k4)).setCell ⟨mb, 5, none⟩ (.slice (some ⟨g5, 0, none⟩) r3.length k5))) := (((HBb.out.setCell HF2.out.hm _).setCell HF2.out.hm _).setCell HF2.out.hm _).setCell HF2.out.hm _
              go_wp2_with fail
              go_roundw
              case rel => exact ⟨k + 1, by omega, by go_num, HS, HBc⟩
              case measure => simp [intOf]; omega
    · as_aux_lemma =>
        have e : k = n := by omega
        have hne2 : (decide (idx < 0) == decide (head < 0)) = true := by simp [hem.1]
        have HS : Hid (State base b mb wr n) := HTS.out.mono hk
        clear e
        go_wp2_with fail
        go_quiet ((go_at_call 20; exact Calls.quiet_of_same (zemptyQ _ _ _ _ _ _ _ (Stk.drewN HF.out.stk _))))
        go_wp2_with fail
        go_ret
        refine ⟨by simp, ?_, HB.out.trans ⟨rfl, rfl, rfl, Nat.le_refl _, fun _ _ => rfl⟩⟩
        exact State.drewN HS.out _
end Go.Proofs.Ytkahmfdebkfcjaa.apply
