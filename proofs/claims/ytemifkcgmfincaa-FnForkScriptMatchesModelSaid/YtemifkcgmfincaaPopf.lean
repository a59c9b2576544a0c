/- What popfork does. -/
import Derived.Test.YtemifkcgmfincaaForks
import Derived.StillTailTactics
namespace Go.Proofs.Ytemifkcgmfincaa.popf
open Go.ChangeShapes Go.WideShapes Go.ChangeAt Go.RowKit
open upd env plain ops forks

theorem Env.lastF {base : Nat} {w : World} {eb sb pb cb : Nat} {col : Nat → Nat} {dv dc fv : Value} {s : St} {r : List Fk} {f : Fk} (h : Env base w eb sb pb cb col dv dc fv s) (hF : s.F = r ++ [f]) :
    ∃ g cap, fv = .slice (some ⟨g, 0, none⟩) (r.length + 1) cap ∧ r.length + 1 ≤ cap ∧ g ≠ eb ∧ g < w.heap.size ∧ ∀ j, j < 9 → w.cell? ⟨g, r.length * 9 + j, none⟩ = (fc f)[j]? := by
  have hr := h.fr
  have hl : s.F.length = r.length + 1 := by rw [hF]; simp
  rw [hl] at hr
  rcases own_form hr with ⟨_, h0, _⟩ | ⟨g, cap, rfl, hb, hn, hlt⟩
  · omega
  · refine ⟨g, cap, rfl, hn, h.nfr g rfl, hlt, fun j hj => ?_⟩
    rw [hr.cellAt (r.length * 9 + j) (by omega), hF]
    exact fcs_last r f j hj

set_option maxHeartbeats 2000000 in
set_option maxRecDepth 100000 in
theorem popfork42 (w : World) (base eb : Nat) (col : Nat → Nat) (s : St) (r : List Fk) (f : Fk) (h : EnvAt base w eb col s) (hF : s.F = r ++ [f]) (hbd : r.length ≤ 1000000) :
    Calls Try.prog 42 #[.pointer (some ⟨eb, 0, none⟩)] w fun e w' => e = .returned (.int .i64 f.pc) ∧ Nxt base eb w col { s with F := r, vi := f.vi, vl := f.vl, ci := f.ci, cl := f.cl, off := f.off, ex := f.ex } w' := by
  obtain ⟨sb, pb, cb, dv, dc, fv, h⟩ := h
  obtain ⟨g, cap, rfl, hcap, hge, hgl, hc⟩ := Env.lastF h hF
  obtain ⟨c1, c2, c3, c7, c9, c10, cf, hl⟩ := h.mem
  have e0 := hc 0 (by omega); have e1 := hc 1 (by omega); have e2 := hc 2 (by omega); have e3 := hc 3 (by omega); have e4 := hc 4 (by omega); have e5 := hc 5 (by omega); have e6 := hc 6 (by omega); have e7 := hc 7 (by omega); have e8 := hc 8 (by omega)
  simp only [fc, List.getElem?_cons_zero, List.getElem?_cons_succ] at e0 e1 e2 e3 e4 e5 e6 e7 e8
  rw [Nat.add_zero] at e0
  have H := Lib.hid h; have HF := Lib.hid hF
  have hn0 : eb ≠ w.heap.size := by omega
  have hgn : g ≠ w.heap.size := by omega
  clear h hF hc
  obtain ⟨n, hn⟩ : ∃ n, n = r.length := ⟨_, rfl⟩
  rw [← hn] at e0 e1 e2 e3 e4 e5 e6 e7 e8 hcap hbd c7
  have HN := Lib.hid hn
  clear hn
  have i1 : (0 : Int) ≤ n := by omega
  have i2 : (n : Int) < (n : Int) + 1 := by omega
  have i3 : n < n + 1 := by omega
  have i4 : n ≤ cap := by omega
  have hwr : IntKind.i64.wrap ((n : Int) + 1 - 1) = n := (IntWalk.i64_in _ (by omega)).trans (by omega)
  have hwr2 : IntKind.i64.wrap (n : Int) = n := (IntWalk.i64_in _ (by omega))
  go_enter Try.func42, Try.ntmps42
  go_wp2_with fail
  go_region
  go_wp2_with (go_at_call 49; refine (debug _ _ _ _).mono ?_; rintro e w2 ⟨rfl, rfl⟩)
  obtain ⟨W0, hW0⟩ : ∃ W0, W0 = (w.alloc (.cells #[.int .i64 f.pc, .int .i64 f.vi, .int .i64 f.vl, .int .i64 f.ci, .int .i64 f.cl, .int .i64 (-1), .int .i64 (-1), .int .i64 f.off, .int .i64 f.ex] 83)).drew := ⟨_, rfl⟩
  rw [← hW0]
  have HB : Hid (Blk W0 w.heap.size #[.int .i64 f.pc, .int .i64 f.vi, .int .i64 f.vl, .int .i64 f.ci, .int .i64 f.cl, .int .i64 (-1), .int .i64 (-1), .int .i64 f.off, .int .i64 f.ex] 83) := by
    unfold Hid; rw [hW0]; exact (Blk.new w _ 83).kept (S := fun _ => False) (Upd.refl _ _).drew id
  have HU0 : Hid (Upd (fun _ => False) w W0) := by unfold Hid; rw [hW0]; exact ((Upd.refl _ w).alloc _).drew
  have HZ0 : Hid (W0.heap.size = w.heap.size + 1) := by unfold Hid; rw [hW0]; simp
  clear hW0
  have HK0 : Hid (∀ k, k < w.heap.size → re col w.heap.size 50 k = col k) := re_old (.inr (Nat.le_refl _))
  have HE0 := Lib.hid (H.out.frame (col' := re col w.heap.size 50) HU0.out (fun _ _ _ => id) HK0.out)
  have HC0 : Hid (re col w.heap.size 50 w.heap.size = 50) := re_new _ _ _
  generalize re col w.heap.size 50 = col0 at HK0 HE0 HC0
  obtain ⟨fb, hfb⟩ : ∃ fb, fb = w.heap.size := ⟨_, rfl⟩
  have hfl : fb < W0.heap.size := by have := HB.out.lt; omega
  have hff : w.heap.size ≤ fb := by omega
  rw [← hfb] at HB HC0 hn0 hgn ⊢
  clear hfb c1 c2 c3 c7 c9 c10 cf e0 e1 e2 e3 e4 e5 e6 e7 e8
  obtain ⟨c1, c2, c3, c7, c9, c10, cf, hl0⟩ := HE0.out.mem
  rw [← HN.out] at c7
  obtain ⟨q0, q1, q2, q3, q4, q5, q6, q7, q8, qf⟩ := blk9 HB.out
  go_region
  go_wp2_with fail
  have hle : s.F.length = r.length + 1 := by rw [HF.out]; simp
  have HE0' : Env base W0 eb sb pb cb col0 dv dc (.slice (some ⟨g, 0, none⟩) s.F.length cap) s := by rw [hle]; exact HE0.out
  obtain ⟨a1, a2⟩ := HE0'.cutF HF.out
  obtain ⟨a3, a4⟩ := a1.setOff f.off
  obtain ⟨a5, a6⟩ := a3.setEx f.ex
  rw [← HN.out] at a1 a2 a3 a4 a5 a6
  obtain ⟨W1, hW1⟩ : ∃ W1, W1 = (((W0.setCell ⟨eb, 7, none⟩ (.slice (some ⟨g, 0, none⟩) n cap)).setCell ⟨eb, 9, none⟩ (.int .i64 f.off)).setCell ⟨eb, 10, none⟩ (.int .i64 f.ex)).drew := ⟨_, rfl⟩
  rw [← hW1]
  have HE1 : Hid (Env base W1 eb sb pb cb col0 dv dc (.slice (some ⟨g, 0, none⟩) n cap) { s with F := r, off := f.off, ex := f.ex }) := by unfold Hid; rw [hW1]; exact a5.still (Upd.refl _ _).drew
  have u1 : Upd (Mine base col0) W0 W1 := by rw [hW1]; exact ((a2.trans a4).trans a6).drew
  have HU1 : Hid (Upd (Mine base col) w W1) := Mine.trans (HU0.out.mono (fun _ _ h => h.elim)) u1 HK0.out
  have HB1 := Lib.hid (HB.out.kept u1 (mine_ne HC0.out))
  have HC1 := HC0; have HK1 := HK0
  clear hW1 u1 a1 a2 a3 a4 a5 a6 HE0' hle c1 c2 c3 c7 c9 c10 cf q0 q1 q2 q3 q4 q5 q6 q7 q8 qf HE0 HB HC0 HK0 hwr hwr2
  obtain ⟨c1, c2, c3, c7, c9, c10, cf, hlx⟩ := HE1.out.mem
  obtain ⟨q0, q1, q2, q3, q4, q5, q6, q7, q8, qf⟩ := blk9 HB1.out
  have hzw : w.heap.size ≤ W1.heap.size := HU1.out.size
  go_still_tail 8, (by kernel_rfl)
  go_wp2_with (go_at_call 52; refine (vstk.restore _ _ _ _ _ _ _ f.vi f.vl (HE1.out.vs.kept (S := fun _ => False) (by repeat (first | exact Upd.refl _ _ | apply Upd.drew | apply Upd.drewN)) id (fun _ _ => id))).mono ?_; rintro e W2 ⟨rfl, hS2, hu2⟩; obtain ⟨col2, h4, h5, h6⟩ := (HE1.out.still (by repeat (first | exact Upd.refl _ _ | apply Upd.drew | apply Upd.drewN))).vstep hS2 (hu2.mono (fun _ _ h => .inl h)) (.inl rfl); have HC2 : Hid (col2 fb = 50) := (h5 fb (show fb < W1.heap.size from HB1.out.lt)).trans HC1.out; have HK2 : Hid (∀ k, k < w.heap.size → col2 k = col k) := fun k hk => (h5 k (show k < W1.heap.size by omega)).trans (HK1.out k hk); have HU2 : Hid (Upd (Mine base col) w W2) := Mine.trans HU1.out (Upd.trans (by repeat (first | exact Upd.refl _ _ | apply Upd.drew | apply Upd.drewN)) h6) HK1.out; have HB2 := Lib.hid (HB1.out.kept (Upd.trans (by repeat (first | exact Upd.refl _ _ | apply Upd.drew | apply Upd.drewN)) h6) (mine_ne HC1.out)); have HE2 := Lib.hid h4; clear hS2 hu2 h4 h5 h6 c1 c2 c3 c7 c9 c10 cf q0 q1 q2 q3 q4 q5 q6 q7 q8 qf hlx hzw HE1 HU1 HB1 HC1 HK1)
  obtain ⟨c1, c2, c3, c7, c9, c10, cf, hlx⟩ := HE2.out.mem
  obtain ⟨q0, q1, q2, q3, q4, q5, q6, q7, q8, qf⟩ := blk9 HB2.out
  have hzw : w.heap.size ≤ W2.heap.size := HU2.out.size
  go_still_tail 8, (by kernel_rfl)
  go_wp2_with (go_at_call 53; refine (sstk.restore _ _ _ _ _ _ _ f.ci f.cl (HE2.out.ss.kept (S := fun _ => False) (by repeat (first | exact Upd.refl _ _ | apply Upd.drew | apply Upd.drewN)) id (fun _ _ => id))).mono ?_; rintro e W3 ⟨rfl, hS2, hu2⟩; obtain ⟨col3, h4, h5, h6⟩ := (HE2.out.still (by repeat (first | exact Upd.refl _ _ | apply Upd.drew | apply Upd.drewN))).sstep hS2 (hu2.mono (fun _ _ h => .inl h)) (.inl rfl); have HC3 : Hid (col3 fb = 50) := (h5 fb (show fb < W2.heap.size from HB2.out.lt)).trans HC2.out; have HK3 : Hid (∀ k, k < w.heap.size → col3 k = col k) := fun k hk => (h5 k (show k < W2.heap.size by omega)).trans (HK2.out k hk); have HU3 : Hid (Upd (Mine base col) w W3) := Mine.trans HU2.out (Upd.trans (by repeat (first | exact Upd.refl _ _ | apply Upd.drew | apply Upd.drewN)) h6) HK2.out; have HB3 := Lib.hid (HB2.out.kept (Upd.trans (by repeat (first | exact Upd.refl _ _ | apply Upd.drew | apply Upd.drewN)) h6) (mine_ne HC2.out)); have HE3 := Lib.hid h4; clear hS2 hu2 h4 h5 h6 c1 c2 c3 c7 c9 c10 cf q0 q1 q2 q3 q4 q5 q6 q7 q8 qf hlx hzw HE2 HU2 HB2 HC2 HK2)
  obtain ⟨c1, c2, c3, c7, c9, c10, cf, hlx⟩ := HE3.out.mem
  obtain ⟨q0, q1, q2, q3, q4, q5, q6, q7, q8, qf⟩ := blk9 HB3.out
  have hzw : w.heap.size ≤ W3.heap.size := HU3.out.size
  go_still_tail 8, (by kernel_rfl)
  go_wp2_with (go_at_call 52; refine (vstk.restore _ _ _ _ _ _ _ (-1) (-1) (HE3.out.ps.kept (S := fun _ => False) (by repeat (first | exact Upd.refl _ _ | apply Upd.drew | apply Upd.drewN)) id (fun _ _ => id))).mono ?_; rintro e W4 ⟨rfl, hS2, hu2⟩; obtain ⟨h4, h6⟩ := (HE3.out.still (by repeat (first | exact Upd.refl _ _ | apply Upd.drew | apply Upd.drewN))).pstep hS2 hu2; have HC4 := HC3; have HK4 := HK3; have HU4 : Hid (Upd (Mine base col) w W4) := Mine.trans HU3.out (Upd.trans (by repeat (first | exact Upd.refl _ _ | apply Upd.drew | apply Upd.drewN)) h6) HK3.out; have HB4 := Lib.hid (HB3.out.kept (Upd.trans (by repeat (first | exact Upd.refl _ _ | apply Upd.drew | apply Upd.drewN)) h6) (mine_ne HC3.out)); have HE4 := Lib.hid h4; clear hS2 hu2 h4 h6 c1 c2 c3 c7 c9 c10 cf q0 q1 q2 q3 q4 q5 q6 q7 q8 qf hlx hzw HE3 HU3 HB3 HC3 HK3; have q0 := (blk9 HB4.out).1)
  go_ret
  exact ⟨rfl, _, ⟨_, _, _, _, _, _, HE4.out⟩, HK4.out, HU4.out⟩
theorem popfork (w : World) (base eb : Nat) (col : Nat → Nat) (s : St) (r : List Fk) (f : Fk) (h : EnvAt base w eb col s) (hF : s.F = r ++ [f]) (hbd : r.length ≤ 1000000) :
    Calls Try.prog 19 #[.pointer (some ⟨eb, 0, none⟩)] w fun e w' => e = .returned (.int .i64 f.pc) ∧ Nxt base eb w col { s with F := r, vi := f.vi, vl := f.vl, ci := f.ci, cl := f.cl, off := f.off, ex := f.ex } w' := by
  have HP := Lib.hid (popfork42 w base eb col s r f h hF hbd)
  clear h hF
  go_enter Try.func19, Try.ntmps19
  go_wp2_with (go_at_call 42; refine HP.out.mono ?_; rintro e w1 ⟨rfl, h1⟩)
  go_ret
  exact ⟨rfl, h1⟩
end Go.Proofs.Ytemifkcgmfincaa.popf
