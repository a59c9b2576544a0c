/- What popscope, pushfork and popfork do. -/
import Derived.Test.YtemifkcgmfincaaOps
namespace Go.Proofs.Ytemifkcgmfincaa.forks
open Go.ChangeShapes Go.WideShapes Go.ChangeAt Go.RowKit
open upd env plain ops

theorem debug (w : World) (a b c : Value) : Calls Try.prog 49 #[a, b, c] w fun e w' => e = .returned (.tuple #[]) ∧ w = w' := by
  go_enter Try.func49, Try.ntmps49
  go_wp2_with fail
  go_end0
  exact ⟨rfl, rfl⟩

/-- the offset behind popscope -/
def popOff (s : St) (x : Int) : Int := if s.cl < s.ci then x else s.off
theorem popscope41 (w : World) (base eb : Nat) (col : Nat → Nat) (s : St) (k : Nat) (x0 x1 x2 x3 x4 n : Int) (h : EnvAt base w eb col s) (hi : s.ci = k) (hk : s.C[k]? = some ((x0, x1, x2, x3, x4), n)) :
    Calls Try.prog 41 #[.pointer (some ⟨eb, 0, none⟩)] w fun e w' => e = .returned (.tuple #[.int .i64 x2, .int .i64 x3]) ∧ Nxt base eb w col { s with ci := n, off := popOff s x1 } w' := by
  obtain ⟨sb, pb, cb, dv, dc, fv, h⟩ := h
  obtain ⟨c1, c2, c3, c7, c9, c10, cf, hl⟩ := h.mem
  obtain ⟨s0, s1, s2, g0, g1, g2⟩ := h.ss.cells
  have HP := fun m => Lib.hid (sstk.pop (w.drewN m) base cb dc s.C s.ci s.cl k (x0, x1, x2, x3, x4) n (h.ss.kept ((Upd.refl (fun _ => False) w).drewN m) id (fun _ _ => id)) hi hk)
  unfold sstk.scv at HP
  dsimp only at HP
  have H := Lib.hid h
  clear h hi hk
  by_cases hg : s.cl < s.ci
  · have HI : Hid (popOff s x1 = x1) := if_pos hg
    go_enter Try.func41, Try.ntmps41
    go_wp2_with fail
    go_quiet (fail)
    obtain ⟨wq, hwq⟩ : ∃ wq, wq = w.drewN nq := ⟨_, rfl⟩
    have HQ := HP nq
    have HU : Hid (Upd (fun _ => False) w (w.drewN nq)) := (Upd.refl _ w).drewN nq
    rw [← hwq] at HQ HU ⊢
    clear hwq HP c1 c2 c3 c7 c9 c10 cf s0 s1 s2 g0 g1 g2
    have HE := Lib.hid (H.out.still HU.out)
    obtain ⟨c1, c2, c3, c7, c9, c10, cf, hl'⟩ := HE.out.mem
    go_wp2_with (go_at_call 51; refine HQ.out.mono ?_; rintro e w1 ⟨rfl, h1, h2⟩; obtain ⟨col', h4, h5, h6⟩ := HE.out.sstep h1 (h2.mono (fun _ _ h => .inl h)) (.inl rfl); clear c1 c2 c3 c7 c9 c10 cf; obtain ⟨c1, c2, c3, c7, c9, c10, cf, hl2⟩ := h4.mem; have H4 := Lib.hid h4; have H5 := Lib.hid h5; have H6 := Lib.hid h6; clear h1 h2 h4 h5 h6; have hn1 : eb ≠ w1.heap.size := by omega)
    go_quiet (fail)
    go_wp2_with fail
    go_ret2
    refine ⟨rfl, ?_⟩
    rw [HI.out]
    obtain ⟨a1, a2⟩ := H4.out.setOff x1
    exact Nxt.trans (HU.out.mono (fun _ _ h => h.elim)) (fun _ _ => rfl) ⟨col', ⟨_, _, _, _, _, _, a1.still (by repeat (first | exact Upd.refl _ _ | apply Upd.drew | apply Upd.drewN | apply Upd.alloc))⟩, H5.out, Mine.trans H6.out (a2.trans (by repeat (first | exact Upd.refl _ _ | apply Upd.drew | apply Upd.drewN | apply Upd.alloc))) H5.out⟩
  · have HI : Hid (popOff s x1 = s.off) := if_neg hg
    have hg' : decide (s.cl < s.ci) = false := by simpa using hg
    go_enter Try.func41, Try.ntmps41
    go_wp2_with fail
    go_quiet (fail)
    obtain ⟨wq, hwq⟩ : ∃ wq, wq = w.drewN nq := ⟨_, rfl⟩
    have HQ := HP nq
    have HU : Hid (Upd (fun _ => False) w (w.drewN nq)) := (Upd.refl _ w).drewN nq
    rw [← hwq] at HQ HU ⊢
    clear hwq HP c1 c2 c3 c7 c9 c10 cf s0 s1 s2 g0 g1 g2
    have HE := Lib.hid (H.out.still HU.out)
    obtain ⟨c1, c2, c3, c7, c9, c10, cf, hl'⟩ := HE.out.mem
    go_wp2_with (go_at_call 51; refine HQ.out.mono ?_; rintro e w1 ⟨rfl, h1, h2⟩; obtain ⟨col', h4, h5, h6⟩ := HE.out.sstep h1 (h2.mono (fun _ _ h => .inl h)) (.inl rfl); clear c1 c2 c3 c7 c9 c10 cf; obtain ⟨c1, c2, c3, c7, c9, c10, cf, hl2⟩ := h4.mem; have H4 := Lib.hid h4; have H5 := Lib.hid h5; have H6 := Lib.hid h6; clear h1 h2 h4 h5 h6; have hn1 : eb ≠ w1.heap.size := by omega)
    go_quiet (fail)
    go_wp2_with fail
    go_ret2
    refine ⟨rfl, ?_⟩
    rw [HI.out]
    exact Nxt.trans (HU.out.mono (fun _ _ h => h.elim)) (fun _ _ => rfl) ⟨col', ⟨_, _, _, _, _, _, H4.out.still (by repeat (first | exact Upd.refl _ _ | apply Upd.drew | apply Upd.drewN | apply Upd.alloc))⟩, H5.out, H6.out.trans (by repeat (first | exact Upd.refl _ _ | apply Upd.drew | apply Upd.drewN | apply Upd.alloc))⟩
theorem popscope (w : World) (base eb : Nat) (col : Nat → Nat) (s : St) (k : Nat) (x0 x1 x2 x3 x4 n : Int) (h : EnvAt base w eb col s) (hi : s.ci = k) (hk : s.C[k]? = some ((x0, x1, x2, x3, x4), n)) :
    Calls Try.prog 18 #[.pointer (some ⟨eb, 0, none⟩)] w fun e w' => e = .returned (.tuple #[.int .i64 x2, .int .i64 x3]) ∧ Nxt base eb w col { s with ci := n, off := popOff s x1 } w' := by
  have HP := Lib.hid (popscope41 w base eb col s k x0 x1 x2 x3 x4 n h hi hk)
  clear h hi hk
  go_enter Try.func18, Try.ntmps18
  go_wp2_with (go_at_call 41; refine HP.out.mono ?_; rintro e w1 ⟨rfl, h1⟩)
  go_ret2
  exact ⟨rfl, h1⟩

theorem blk9 {w : World} {b : Nat} {v0 v1 v2 v3 v4 v5 v6 v7 v8 : Value} (h : Blk w b #[v0, v1, v2, v3, v4, v5, v6, v7, v8] 83) :
    w.cell? ⟨b, 0, none⟩ = some v0 ∧ w.cell? ⟨b, 1, none⟩ = some v1 ∧ w.cell? ⟨b, 2, none⟩ = some v2 ∧ w.cell? ⟨b, 3, none⟩ = some v3 ∧ w.cell? ⟨b, 4, none⟩ = some v4 ∧ w.cell? ⟨b, 5, none⟩ = some v5 ∧ w.cell? ⟨b, 6, none⟩ = some v6 ∧ w.cell? ⟨b, 7, none⟩ = some v7 ∧ w.cell? ⟨b, 8, none⟩ = some v8 ∧ (∀ j, w.frozen? ⟨b, j, none⟩ = false) := by
  refine ⟨?_, ?_, ?_, ?_, ?_, ?_, ?_, ?_, ?_, fun j => h.free j⟩ <;> (rw [h.cell]; rfl)
theorem info83 : (Try.prog.info? 83).map (fun i => (i.zero, i.size, i.bytes)) = some (some (.agg #[.int .i64 0, .int .i64 0, .int .i64 0, .int .i64 0, .int .i64 0, .int .i64 0, .int .i64 0, .int .i64 0, .int .i64 0]), 9, 72) := by kernel_rfl
theorem mine_ne {base : Nat} {col : Nat → Nat} {fb : Nat} (h : col fb = 50) : ¬ Mine base col fb := fun m => by have := m.2; omega

/-- a cell of a block of the method's own is written -/
theorem poke {base : Nat} {w W : World} {eb sb pb cb fb : Nat} {col col1 : Nat → Nat} {dv dc fv : Value} {s : St} (h : Env base W eb sb pb cb col1 dv dc fv s) (hc : col1 fb = 50) (hu : Upd (Mine base col) w W) (hf : w.heap.size ≤ fb) (j : Nat) (v : Value) :
    Env base (W.setCell ⟨fb, j, none⟩ v) eb sb pb cb col1 dv dc fv s ∧ Upd (Mine base col) w (W.setCell ⟨fb, j, none⟩ v) :=
  ⟨h.frame (upd_self W fb j v) (fun k _ hk e => by rw [e, hc] at hk; omega) (fun _ _ => rfl), hu.setCell (.inr hf) _⟩

set_option maxHeartbeats 2000000 in
theorem pushfork39 (w : World) (base eb : Nat) (col : Nat → Nat) (s : St) (pc : Int) (h : EnvAt base w eb col s) (hbase : base ≤ w.heap.size) (hbd : s.F.length ≤ 1000000) :
    Calls Try.prog 39 #[.pointer (some ⟨eb, 0, none⟩), .int .i64 pc] w fun e w' => e = .returned (.tuple #[]) ∧ Nxt base eb w col { s with F := s.F ++ [⟨pc, s.vi, s.vl, s.ci, s.cl, s.off, s.ex⟩], vl := max s.vi s.vl, cl := max s.ci s.cl } w' := by
  obtain ⟨sb, pb, cb, dv, dc, fv, h⟩ := h
  obtain ⟨c1, c2, c3, c7, c9, c10, cf, hl⟩ := h.mem
  obtain ⟨i0, hi, hz0, hz1, hz2⟩ := info_parts info83
  have H := Lib.hid h
  have hn0 : eb ≠ w.heap.size := by omega
  clear h
  go_enter Try.func39, Try.ntmps39
  go_wp2_with fail
  go_region
  obtain ⟨W0, hW0⟩ : ∃ W0, W0 = (w.alloc (.cells #[.int .i64 pc, .int .i64 0, .int .i64 0, .int .i64 0, .int .i64 0, .int .i64 0, .int .i64 0, .int .i64 s.off, .int .i64 s.ex] 83)).drew := ⟨_, rfl⟩
  rw [← hW0]
  have HB : Hid (Blk W0 w.heap.size #[.int .i64 pc, .int .i64 0, .int .i64 0, .int .i64 0, .int .i64 0, .int .i64 0, .int .i64 0, .int .i64 s.off, .int .i64 s.ex] 83) := by
    unfold Hid; rw [hW0]; exact (Blk.new w _ 83).kept (S := fun _ => False) (Upd.refl _ _).drew id
  have HU0 : Hid (Upd (fun _ => False) w W0) := by unfold Hid; rw [hW0]; exact ((Upd.refl _ w).alloc _).drew
  have HZ0 : Hid (W0.heap.size = w.heap.size + 1) := by unfold Hid; rw [hW0]; simp
  clear hW0
  have HK0 : Hid (∀ k, k < w.heap.size → re col w.heap.size 50 k = col k) := re_old (.inr (Nat.le_refl _))
  have HE0 := Lib.hid (H.out.frame (col' := re col w.heap.size 50) HU0.out (fun _ _ _ => id) HK0.out)
  have HC0 : Hid (re col w.heap.size 50 w.heap.size = 50) := re_new _ _ _
  generalize re col w.heap.size 50 = col0 at HK0 HE0 HC0
  obtain ⟨fb, hfb⟩ : ∃ fb, fb = w.heap.size := ⟨_, rfl⟩
  have hfl : fb < W0.heap.size := by have := HB.out.lt; omega
  rw [← hfb] at HB HC0 hn0 ⊢
  have HFB := Lib.hid hfb
  have hff : w.heap.size ≤ fb := by omega
  clear hfb c1 c2 c3 c7 c9 c10 cf
  obtain ⟨c1, c2, c3, c7, c9, c10, cf, hl0⟩ := HE0.out.mem
  go_wp2_with fail
  refine (vstk.save _ _ _ _ _ _ _ HE0.out.vs).mono ?_
  rintro e W1 ⟨rfl, h1, h2⟩
  obtain ⟨col1, h4, h5, h6⟩ := HE0.out.vstep h1 (h2.mono (fun _ _ h => .inl h)) (.inl rfl)
  have HB1 := Lib.hid (HB.out.kept h6 (mine_ne HC0.out))
  have HC1 : Hid (col1 fb = 50) := (h5 fb hfl).trans HC0.out
  have hfl1 : fb < W1.heap.size := Nat.lt_of_lt_of_le hfl h2.size
  have HK1 : Hid (∀ k, k < w.heap.size → col1 k = col k) := fun k hk => (h5 k (by have := HZ0.out; omega)).trans (HK0.out k hk)
  have HU1 : Hid (Upd (Mine base col) w W1) := Mine.trans (HU0.out.mono (fun _ _ h => h.elim)) h6 HK0.out
  have HE1 := Lib.hid h4
  clear h1 h2 h4 h5 h6 c1 c2 c3 c7 c9 c10 cf HE0 HB HC0 HK0
  obtain ⟨c1, c2, c3, c7, c9, c10, cf, hl1⟩ := HE1.out.mem
  obtain ⟨q0, q1, q2, q3, q4, q5, q6, q7, q8, qf⟩ := blk9 HB1.out
  go_wp2_with fail
  obtain ⟨e1a, u1a⟩ := poke HE1.out HC1.out HU1.out hff 1 (.int .i64 s.vi)
  obtain ⟨e1b, u1b⟩ := poke e1a HC1.out u1a hff 2 (.int .i64 s.vl)
  have b1b := (HB1.out.set 1 (.int .i64 s.vi)).set 2 (.int .i64 s.vl)
  have z1 : fb < ((W1.setCell ⟨fb, 1, none⟩ (.int .i64 s.vi)).setCell ⟨fb, 2, none⟩ (.int .i64 s.vl)).heap.size := b1b.lt
  have zw1 : w.heap.size ≤ ((W1.setCell ⟨fb, 1, none⟩ (.int .i64 s.vi)).setCell ⟨fb, 2, none⟩ (.int .i64 s.vl)).heap.size := u1b.size
  have HEP1 := Lib.hid e1b
  have HUP1 := Lib.hid u1b
  have HBP1 := Lib.hid b1b
  clear e1a u1a e1b u1b b1b c1 c2 c3 c7 c9 c10 cf q0 q1 q2 q3 q4 q5 q6 q7 q8 qf HE1 HU1 HB1
  generalize (W1.setCell ⟨fb, 1, none⟩ (.int .i64 s.vi)).setCell ⟨fb, 2, none⟩ (.int .i64 s.vl) = P1 at HEP1 HUP1 HBP1 z1 zw1 ⊢
  refine (sstk.save _ _ _ _ _ _ _ HEP1.out.ss).mono ?_
  rintro e W2 ⟨rfl, h1, h2⟩
  obtain ⟨col2, h4, h5, h6⟩ := HEP1.out.sstep h1 (h2.mono (fun _ _ h => .inl h)) (.inl rfl)
  have HB2 := Lib.hid (HBP1.out.kept h6 (mine_ne HC1.out))
  have HC2 : Hid (col2 fb = 50) := (h5 fb z1).trans HC1.out
  have HK2 : Hid (∀ k, k < w.heap.size → col2 k = col k) := fun k hk => (h5 k (by omega)).trans (HK1.out k hk)
  have HU2 : Hid (Upd (Mine base col) w W2) := Mine.trans HUP1.out h6 HK1.out
  have HE2 := Lib.hid h4
  clear h1 h2 h4 h5 h6 HEP1 HBP1 HC1 HK1 HUP1
  obtain ⟨c1, c2, c3, c7, c9, c10, cf, hl2⟩ := HE2.out.mem
  obtain ⟨q0, q1, q2, q3, q4, q5, q6, q7, q8, qf⟩ := blk9 HB2.out
  go_wp2_with fail
  obtain ⟨e2a, u2a⟩ := poke HE2.out HC2.out HU2.out hff 3 (.int .i64 s.ci)
  obtain ⟨e2b, u2b⟩ := poke e2a HC2.out u2a hff 4 (.int .i64 s.cl)
  have b2b := (HB2.out.set 3 (.int .i64 s.ci)).set 4 (.int .i64 s.cl)
  have z2 : fb < ((W2.setCell ⟨fb, 3, none⟩ (.int .i64 s.ci)).setCell ⟨fb, 4, none⟩ (.int .i64 s.cl)).heap.size := b2b.lt
  have zw2 : w.heap.size ≤ ((W2.setCell ⟨fb, 3, none⟩ (.int .i64 s.ci)).setCell ⟨fb, 4, none⟩ (.int .i64 s.cl)).heap.size := u2b.size
  have HEP2 := Lib.hid e2b
  have HUP2 := Lib.hid u2b
  have HBP2 := Lib.hid b2b
  clear e2a u2a e2b u2b b2b c1 c2 c3 c7 c9 c10 cf q0 q1 q2 q3 q4 q5 q6 q7 q8 qf HE2 HU2 HB2
  generalize (W2.setCell ⟨fb, 3, none⟩ (.int .i64 s.ci)).setCell ⟨fb, 4, none⟩ (.int .i64 s.cl) = P2 at HEP2 HUP2 HBP2 z2 zw2 ⊢
  refine (vstk.save _ _ _ _ _ _ _ HEP2.out.ps).mono ?_
  rintro e W3 ⟨rfl, h1, h2⟩
  obtain ⟨h4, h6⟩ := HEP2.out.pstep h1 h2
  have HB3 := Lib.hid (HBP2.out.kept h6 (mine_ne HC2.out))
  have HU3 : Hid (Upd (Mine base col) w W3) := Mine.trans HUP2.out h6 HK2.out
  have HE3 := Lib.hid h4
  clear h1 h2 h4 h6 HEP2 HBP2 HUP2
  obtain ⟨c1, c2, c3, c7, c9, c10, cf, hl3⟩ := HE3.out.mem
  obtain ⟨q0, q1, q2, q3, q4, q5, q6, q7, q8, qf⟩ := blk9 HB3.out
  go_wp2_with fail
  obtain ⟨e3a, u3a⟩ := poke HE3.out HC2.out HU3.out hff 5 (.int .i64 (-1))
  obtain ⟨e3b, u3b⟩ := poke e3a HC2.out u3a hff 6 (.int .i64 (-1))
  have b3b := (HB3.out.set 5 (.int .i64 (-1))).set 6 (.int .i64 (-1))
  have z3 : fb < ((W3.setCell ⟨fb, 5, none⟩ (.int .i64 (-1))).setCell ⟨fb, 6, none⟩ (.int .i64 (-1))).heap.size := b3b.lt
  have zw3 : w.heap.size ≤ ((W3.setCell ⟨fb, 5, none⟩ (.int .i64 (-1))).setCell ⟨fb, 6, none⟩ (.int .i64 (-1))).heap.size := u3b.size
  have HEP3 := Lib.hid e3b
  have HUP3 := Lib.hid u3b
  have HBP3 := Lib.hid b3b
  clear e3a u3a e3b u3b b3b c1 c2 c3 c7 c9 c10 cf q0 q1 q2 q3 q4 q5 q6 q7 q8 qf HE3 HU3 HB3
  generalize (W3.setCell ⟨fb, 5, none⟩ (.int .i64 (-1))).setCell ⟨fb, 6, none⟩ (.int .i64 (-1)) = P3 at HEP3 HUP3 HBP3 z3 zw3 ⊢
  obtain ⟨c1, c2, c3, c7, c9, c10, cf, hl4⟩ := HEP3.out.mem
  obtain ⟨q0, q1, q2, q3, q4, q5, q6, q7, q8, qf⟩ := blk9 HBP3.out
  have hn4 : eb ≠ P3.heap.size := by omega
  have hn5 : eb < P3.heap.size + 1 := by omega
  have hbp : base ≤ P3.heap.size := by omega
  have hnf : fb ≠ P3.heap.size := by omega
  have HF := Lib.hid HEP3.out.fr
  obtain ⟨sa, sc, rfl⟩ := own_slice HF.out
  go_region_law (refine step_append_lies _ rfl (.tmp 49) (.tmp 51) 61 rfl base 83 i0 _ 9 72 Try.underlying61 hi hz0 hz1 hz2 rfl (by decide) _ s.F.length (fcs s.F) rfl ?_ ⟨P3.heap.size, 0, none⟩ 1 1 [.int .i64 pc, .int .i64 s.vi, .int .i64 s.vl, .int .i64 s.ci, .int .i64 s.cl, .int .i64 (-1), .int .i64 (-1), .int .i64 s.off, .int .i64 s.ex] rfl rfl ?_ ?_ (by decide) ?_ ?_ ?_ (P3.heap.size + 1) ?_ ?_; (first | (exact own_kept HF.out (S := fun _ => False) (by repeat (first | exact Upd.refl _ _ | apply Upd.drew | apply Upd.drewN | apply Upd.alloc)) (fun _ _ => id))); (first | exact World.news_of_block (cs := #[.int .i64 pc, .int .i64 s.vi, .int .i64 s.vl, .int .i64 s.ci, .int .i64 s.cl, .int .i64 (-1), .int .i64 (-1), .int .i64 s.off, .int .i64 s.ex]) (sstk.blk_at _ _ _ (by simp)) | exact World.news_of_block (cs := #[.int .i64 pc, .int .i64 s.vi, .int .i64 s.vl, .int .i64 s.ci, .int .i64 s.cl, .int .i64 (-1), .int .i64 (-1), .int .i64 s.off, .int .i64 s.ex]) (sstk.blk_drew _ _ _ 1 (by simp))); (intro u hu; simp at hu; rcases hu with rfl | rfl | rfl | rfl | rfl | rfl | rfl | rfl <;> rfl); (unfold maxLen; omega); omega; (simp; omega); simp; intro g cap w1 hown hgrow hat hlt; obtain ⟨k0, k1, hf⟩ := HEP3.out.appF ⟨pc, s.vi, s.vl, s.ci, s.cl, s.off, s.ex⟩ hgrow (by repeat (first | exact Upd.refl _ _ | apply Upd.drew | apply Upd.drewN | apply Upd.alloc)) hown hat (by omega); have HFI := Lib.hid hf; clear hown hgrow hat hlt hf c1 c2 c3 c7 c9 c10 cf q0 q1 q2 q3 q4 q5 q6 q7 q8 qf)
  all_goals go_wp2_with (go_at_call 49; refine (debug _ _ _ _).mono ?_; rintro e w2 ⟨rfl, rfl⟩)
  all_goals go_end0
  all_goals
    obtain ⟨col4, e4, k4, u4⟩ := HFI.out
    exact ⟨rfl, col4, ⟨_, _, _, _, _, _, e4⟩, fun k hk => (k4 k (by omega)).trans (HK2.out k hk), Mine.trans HUP3.out u4 HK2.out⟩
theorem pushfork (w : World) (base eb : Nat) (col : Nat → Nat) (s : St) (pc : Int) (h : EnvAt base w eb col s) (hbase : base ≤ w.heap.size) (hbd : s.F.length ≤ 1000000) :
    Calls Try.prog 16 #[.pointer (some ⟨eb, 0, none⟩), .int .i64 pc] w fun e w' => e = .returned (.tuple #[]) ∧ Nxt base eb w col { s with F := s.F ++ [⟨pc, s.vi, s.vl, s.ci, s.cl, s.off, s.ex⟩], vl := max s.vi s.vl, cl := max s.ci s.cl } w' := by
  have HP := Lib.hid (pushfork39 w base eb col s pc h hbase hbd)
  clear h
  go_enter Try.func16, Try.ntmps16
  go_wp2_with (go_at_call 39; refine HP.out.mono ?_; rintro e w1 ⟨rfl, h1⟩)
  go_end0
  exact ⟨rfl, h1⟩
end Go.Proofs.Ytemifkcgmfincaa.forks
