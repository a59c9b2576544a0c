/- What index does: it follows the outer places from the top scope on, to the first one of the given id. -/
import Derived.Test.YtemifkcgmfincaaSteps
namespace Go.Proofs.Ytemifkcgmfincaa.idx
open Go.ChangeShapes Go.WideShapes Go.ChangeAt Go.RowKit
open upd env plain ops forks popf fill init steps

/-- from place i on, the first scope of id q has offset r -/
inductive Find (f : Nat → Sc) (q : Int) : Int → Int → Prop
  | here {i : Nat} : (f i).1 = q → Find f q i (f i).2.1
  | next {i : Nat} {r : Int} : (f i).1 ≠ q → (f i).2.2.2.2 < i → Find f q (f i).2.2.2.2 r → Find f q i r
theorem Find.pos {f : Nat → Sc} {q i r : Int} (h : Find f q i r) : 0 ≤ i := by cases h <;> omega

set_option maxHeartbeats 1000000 in
theorem index45 (w : World) (base eb : Nat) (col : Nat → Nat) (s : St) (f : Nat → Sc) (n : Nat) (i q k r : Int) (h : EnvAt base w eb col s) (hC : s.C = Lg f n) (hi : s.ci = i) (hF : Find f q i r) (hn : i < n) :
    Calls Try.prog 45 #[.pointer (some ⟨eb, 0, none⟩), .agg #[.int .i64 q, .int .i64 k]] w fun e w' => e = .returned (.int .i64 (wrap64 (r + k))) ∧ Upd (fun _ => False) w w' := by
  obtain ⟨sb, pb, cb, dv, dc, fv, h⟩ := h
  obtain ⟨c1, c2, c3, c7, c9, c10, cf, hl⟩ := h.mem
  obtain ⟨s0, s1, s2, g0, g1, g2⟩ := h.ss.cells
  rw [hi] at s1
  have hbl := h.ss.lt
  have H := Lib.hid h
  have HF := Lib.hid hF
  have HC := Lib.hid hC
  have hi0 := hF.pos
  clear h hF hC hi
  have hn1 : eb ≠ w.heap.size := by omega
  have hn2 : cb ≠ w.heap.size := by omega
  go_enter Try.func45, Try.ntmps45
  go_wp2_with fail
  go_quiet (fail)
  obtain ⟨W0, hW0⟩ : ∃ W0, W0 = (w.alloc (.cells #[.int .i64 q, .int .i64 k] 79)).drewN nq := ⟨_, rfl⟩
  rw [← hW0]
  have HU0 : Hid (Upd (fun _ => False) w W0) := by unfold Hid; rw [hW0]; exact ((Upd.refl _ w).alloc _).drewN _
  have HB0 : Hid (Blk W0 w.heap.size #[.int .i64 q, .int .i64 k] 79) := by unfold Hid; rw [hW0]; exact (Blk.new w _ 79).drewN _
  obtain ⟨vb, hvb⟩ : ∃ vb, vb = w.heap.size := ⟨_, rfl⟩
  rw [← hvb] at HB0 ⊢
  clear hW0 hn1 hn2 hvb c1 c2 c3 c7 c9 c10 cf s0 s1 s2 g0 g1 g2
  go_wp2_with fail
  go_loopw [6] (fun u wr => ∃ j : Int, 0 ≤ j ∧ j < n ∧ u = .int .i64 j ∧ Hid (Find f q j r) ∧ Hid (Upd (fun _ => False) W0 wr)) (fun u _ => (intOf u).toNat)
  case atStart => exact ⟨i, hi0, hn, rfl, HF, Upd.refl _ _⟩
  case round =>
    obtain ⟨j, hj0, hj1, rfl, HJ, HU⟩ := hrel
    clear HF
    obtain ⟨jj, rfl⟩ : ∃ jj : Nat, j = jj := ⟨j.toNat, by omega⟩
    have HE := Lib.hid (H.out.still (HU0.out.trans HU.out))
    obtain ⟨c1, c2, c3, c7, c9, c10, cf, hl'⟩ := HE.out.mem
    obtain ⟨s0, s1, s2, g0, g1, g2⟩ := HE.out.ss.cells
    obtain ⟨g, cap, hdc, hgb, hgl, hkl, hc⟩ := HE.out.ss.entry (k := jj) (x := (f jj, (jj : Int) - 1)) (by rw [HC.out]; exact Lg_at f n jj (by omega))
    rw [hdc] at s0
    have e0 := hc 0 (by omega); have e1 := hc 1 (by omega); have e2 := hc 2 (by omega); have e3 := hc 3 (by omega); have e4 := hc 4 (by omega)
    have hV := (HB0.out.kept HU.out id)
    have v0 := hV.cell 0; have v1 := hV.cell 1
    have hlen : s.C.length = n := by rw [HC.out, Lg_len]
    rw [hlen] at s0
    have hvl := hV.lt
    obtain ⟨⟨x0, x1, x2, x3, x4⟩, hx⟩ : ∃ x, x = f jj := ⟨_, rfl⟩
    have HX := Lib.hid hx
    rw [← hx] at e0 e1 e2 e3 e4
    simp only [sstk.ec, List.getElem?_cons_zero, List.getElem?_cons_succ] at e0 e1 e2 e3 e4
    rw [Nat.add_zero] at e0
    simp at v0 v1
    have z1 : eb ≠ wr.heap.size := by omega
    have z2 : cb ≠ wr.heap.size := by have := HE.out.ss.lt; omega
    have z3 : g ≠ wr.heap.size := by omega
    have z4 : vb ≠ wr.heap.size := by omega
    clear hc hdc hlen hV hx
    by_cases hq : x0 = q
    · subst hq
      have HR : Hid (r = x1) := by
        unfold Hid
        generalize hjj : ((jj : Nat) : Int) = jz at HJ
        cases HJ.out with
        | @here i2 h => obtain rfl : jj = i2 := by omega
                        rw [← HX.out]
        | @next i2 r2 h _ _ => obtain rfl : jj = i2 := by omega
                               rw [← HX.out] at h; exact absurd rfl h
      go_wp2_with fail
      go_ret
      exact ⟨inp.ret_int (by rw [HR.out]), (HU0.out.trans HU.out).trans (by repeat (first | exact Upd.refl _ _ | apply Upd.drew | apply Upd.drewN | apply Upd.alloc))⟩
    · obtain ⟨HN1, HN2⟩ : x4 < (jj : Int) ∧ Find f q x4 r := by
        generalize hjj : ((jj : Nat) : Int) = jz at HJ
        cases HJ.out with
        | @here i2 h => obtain rfl : jj = i2 := by omega
                        rw [← HX.out] at h; exact absurd h hq
        | @next i2 r2 h h2 h3 => obtain rfl : jj = i2 := by omega
                                 rw [← HX.out] at h2 h3; exact ⟨h2, h3⟩
      have hp := HN2.pos
      have HN3 := Lib.hid HN2
      clear HN2
      have hq' : (x0 == q) = false := by simpa using hq
      go_wp2_with fail
      go_roundw
      case rel => exact ⟨x4, hp, by omega, rfl, HN3, HU.out.trans (by repeat (first | exact Upd.refl _ _ | apply Upd.drew | apply Upd.drewN | apply Upd.alloc))⟩
      case measure => simp [intOf]; omega
theorem s_index {base eb : Nat} {W w : World} {s : St} (h : At base eb W w s) {f : Nat → Sc} {n : Nat} {q k r : Int} (hC : s.C = Lg f n) (hF : Find f q s.ci r) (hn : s.ci < n) :
    Calls Try.prog 32 #[.pointer (some ⟨eb, 0, none⟩), .int .i64 q, .int .i64 k] w fun e w' => e = .returned (.int .i64 (wrap64 (r + k))) ∧ Upd (fun _ => False) w w' := by
  obtain ⟨⟨col, h⟩, hb, hz⟩ := h
  have HP := Lib.hid (index45 w base eb col s f n s.ci q k r h hC rfl hF hn)
  clear h hC hF hn
  go_enter Try.func32, Try.ntmps32
  go_wp2_with (go_at_call 45; refine HP.out.mono ?_; rintro e w1 ⟨rfl, h1⟩)
  go_ret
  exact ⟨rfl, h1⟩
end Go.Proofs.Ytemifkcgmfincaa.idx
