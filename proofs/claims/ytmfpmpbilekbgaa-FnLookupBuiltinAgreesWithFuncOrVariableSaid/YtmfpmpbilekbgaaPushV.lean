/- pushVariable: the first variable of that name in the innermost scope, or a new one. -/
import Derived.Test.YtmfpmpbilekbgaaWrap
set_option linter.unusedVariables false
namespace Go.Proofs.Ytmfpmpbilekbgaa.pushv
open Go.ChangeShapes Go.WideShapes Go.ChangeAt Go.RowKit
open upd comp grow add lookv var newc push wrap

theorem now_undrew {base c bb : Nat} {X w1 : World} {col : Nat → Nat} {cv : Value} {B : Sc} {L : List Sc} {cnt : Int} {d : Nat} (h : Now base (X.drewN d) col c cv bb B L cnt w1) : Now base X col c cv bb B L cnt w1 := by
  obtain ⟨col', sv, bs, hN, hC⟩ := h
  exact ⟨col', sv, bs, ⟨hN.old, ⟨hN.upd.os, hN.upd.tape, hN.upd.output, hN.upd.size, hN.upd.block⟩⟩, hC⟩
/-- no place ahead of m holds nm -/
def NoneTo (vs : List ByteArray) (nm : ByteArray) (m : Nat) : Prop := ∀ t, t < m → vs[t]? ≠ some nm
def PushV (base : Nat) (w : World) (col : Nat → Nat) (c : Nat) (cv : Value) (bb : Nat) (B : Sc) (L : List Sc) (s : Sc) (cnt : Int) (nm : ByteArray) (e : Ending) (w' : World) : Prop :=
  (∃ j, s.vars[j]? = some nm ∧ NoneTo s.vars nm j ∧ e = .returned (lookv.two s.id j) ∧ Now base w col c cv bb B (L ++ [s]) cnt w') ∨
  (NoneTo s.vars nm s.vars.length ∧ e = .returned (lookv.two s.id s.vars.length) ∧ Now base w col c cv bb B (L ++ [{ s with vars := s.vars ++ [nm] }]) cnt w')

set_option maxRecDepth 100000 in
set_option maxHeartbeats 2000000 in
theorem pushVar {base c bb : Nat} {w : World} {col : Nat → Nat} {cv sv : Value} {bs : List Nat} {B s : Sc} {L : List Sc} {cnt : Int} (h : CompAt base w col c cv bb sv bs B (L ++ [s]) cnt) (nm : ByteArray) (hn : L.length ≤ 2097152) (hf : s.vars.length ≤ 2097152) (hbase : base ≤ w.heap.size) :
    Calls Try.prog 53 #[.pointer (some ⟨c, 0, none⟩), .string nm] w (PushV base w col c cv bb B L s cnt nm) := by
  have HE := Lib.hid (enter h (.cells #[.int .i64 0, .int .i64 0] 50))
  obtain ⟨hbl, b, vv, fv, ps, fs, hb, hS⟩ := CompAt.last h
  obtain ⟨ao, cp, rfl⟩ := slice_form h.row
  obtain ⟨g, rfl, _, hcp, _, hgl, hc⟩ := row_at h.row hb
  obtain ⟨va, vc, rfl⟩ := slice_form hS.vars.row
  obtain ⟨q, hq⟩ : ∃ q, q = L.length := ⟨_, rfl⟩
  obtain ⟨n, hnn⟩ : ∃ n, n = bs.length := ⟨_, rfl⟩
  obtain ⟨m, hmm⟩ : ∃ m, m = ps.length := ⟨_, rfl⟩
  have c8 : w.cell? ⟨c, 8, none⟩ = some (.slice (some ⟨g, 0, none⟩) n cp) := by rw [h.blk.cell, hnn]; rfl
  have b0 : w.cell? ⟨b, 0, none⟩ = some (.slice va m vc) := by rw [hS.blk.cell, hmm]; rfl
  have b3 : w.cell? ⟨b, 3, none⟩ = some (.int .i64 0) := by rw [hS.blk.cell]; rfl
  have l0 := h.blk.lt
  have lb := hS.blk.lt
  rw [← hq] at hc
  unfold ptr at hc
  have hw : IntKind.i64.wrap ((n : Int) - 1) = q := by rw [IntWalk.i64_in _ (by omega)]; omega
  have i0 : (0 : Int) ≤ q := by omega
  have i1 : (q : Int) < n := by omega
  have i2 : n ≤ cp := by omega
  have hmf : m ≤ 2097152 := by rw [hmm, hS.plen]; exact hf
  have HCR := Lib.hid (fun (d : Nat) => var.create (HE.out.step (S := fun _ => False) ((Upd.refl _ _).drewN d) (fun _ h => h.elim) (fun _ _ => rfl)) nm hn hf (by simp [World.drewN]; omega))
  have HS := Lib.hid hS
  have HM := Lib.hid hmm
  clear h hS hb hcp hq hnn hmm hbl hn hf
  go_enter Try.func53, Try.ntmps53
  go_wp2_with fail
  go_quiet (fail)
  go_wp2_with fail
  obtain ⟨X, hX⟩ : ∃ X, X = w.alloc (.cells #[.int .i64 0, .int .i64 0] 50) := ⟨_, rfl⟩
  obtain ⟨r, hr⟩ : ∃ r, r = w.heap.size := ⟨_, rfl⟩
  rw [← hX, ← hr]
  have hu : Upd (fun _ => False) w X := by rw [hX]; exact (Upd.refl _ _).alloc _
  have hR : Blk X r #[.int .i64 0, .int .i64 0] 50 := by rw [hX, hr]; exact Blk.new _ _ _
  have d0 := (hu.cell (p := ⟨b, 0, none⟩) lb id).trans b0
  have d3 := (hu.cell (p := ⟨b, 3, none⟩) lb id).trans b3
  have u0 : X.cell? ⟨r, 0, none⟩ = some (.int .i64 0) := by rw [hR.cell]; rfl
  have u1 : X.cell? ⟨r, 1, none⟩ = some (.int .i64 0) := by rw [hR.cell]; rfl
  have f0 := hR.free 0
  have f1 := hR.free 1
  have lr := hR.lt
  have lb1 : b < X.heap.size := Nat.lt_of_lt_of_le lb hu.size
  have HNOW : Hid (∀ W4, Upd (· = r) X W4 → Now base w col c cv bb B (L ++ [s]) cnt W4) := by
    unfold Hid; intro W4 hu4
    rw [hX, hr] at hu4
    exact leave (o := .cells #[.int .i64 0, .int .i64 0] 50) ⟨_, _, _, ⟨fun _ _ => rfl, Upd.refl _ _⟩, HE.out⟩ hu4
  have HCALL : Hid (∀ d : Nat, Calls Try.prog 52 #[.pointer (some ⟨c, 0, none⟩), .string nm] (X.drewN d) fun e w1 => e = .returned (lookv.two s.id s.vars.length) ∧ Blk w1 r #[.int .i64 0, .int .i64 0] 50 ∧ ∀ W4, Upd (· = r) w1 W4 → Now base w col c cv bb B (L ++ [{ s with vars := s.vars ++ [nm] }]) cnt W4) := by
    unfold Hid; intro d
    rw [hX, hr]
    refine (HCR.out d).mono ?_
    rintro e w1 ⟨rfl, hN⟩
    have hN2 := now_undrew hN
    exact ⟨rfl, keep hN2 (Blk.new w _ _), fun W4 hu4 => leave hN2 hu4⟩
  have HU := Lib.hid hu
  have HR := Lib.hid hR
  have HX0 := Lib.hid hX
  have HRR := Lib.hid hr
  clear b0 b3 c8 hc hu hR hX hr l0 lb
  go_loopw [7, 25] (fun _ i wr => ∃ t d : Nat, t ≤ m ∧ i = .int .i64 t ∧ Hid (NoneTo s.vars nm t) ∧ wr = X.drewN d) (fun _ i _ => m - (intOf i).toNat)
  case atStart => exact ⟨0, nq, Nat.zero_le _, rfl, fun t h => by omega, rfl⟩
  case round =>
    obtain ⟨t, d, ht, rfl, HT, rfl⟩ := hrel
    by_cases hlt : t < m
    · have j0 : (0 : Int) ≤ t := by omega
      have j1 : (t : Int) < m := by omega
      obtain ⟨p, hp⟩ : ∃ p, ps[t]? = some p := ⟨_, List.getElem?_eq_getElem (by have := HM.out; omega)⟩
      obtain ⟨⟨_, lp, _⟩, x, hx, hVA⟩ := HS.out.vars.at' t p hp
      obtain ⟨g2, rfl, _, hcp3, _, hgl2, hc2⟩ := row_at HS.out.vars.row hp
      have hcp4 : m ≤ vc := by have := HM.out; omega
      have hVX := hVA.kept HU.out id
      have v0 : X.cell? ⟨p, 0, none⟩ = some (.string x) := by rw [Blk.cell hVX]; rfl
      have v1 : X.cell? ⟨p, 1, none⟩ = some (.int .i64 s.id) := by rw [Blk.cell hVX]; rfl
      have v2 : X.cell? ⟨p, 2, none⟩ = some (.int .i64 t) := by rw [Blk.cell hVX]; rfl
      have v3 : X.cell? ⟨p, 3, none⟩ = some (.int .i64 0) := by rw [Blk.cell hVX]; rfl
      have k2 := (HU.out.cell (p := ⟨g2, t, none⟩) hgl2 id).trans hc2
      have HX := Lib.hid hx
      unfold ptr at k2
      clear hp hVA hVX hx hcp3 hc2 hlt
      by_cases hq : x = nm
      · subst hq
        go_wp2_with fail
        go_region
        all_goals go_wp2_with fail
        all_goals
          have R2 := (((HR.out.kept (S := fun _ => False) ((Upd.refl _ _).drewN (d + 1)) id).set 0 (.int .i64 s.id)).set 1 (.int .i64 t))
          have z0 := R2.cell 0
          have z1 := R2.cell 1
          simp at z0 z1
          refine bodyPost_ret (v := lookv.two s.id t) (by simp [results, Try.results53, go_sem, z0, z1, lookv.two]) rfl ?_
          exact .inl ⟨t, HX.out, HT.out, rfl, HNOW.out _ (((Upd.refl (· = r) X).drewN (d + 1)).setCell (.inl rfl) _ |>.setCell (.inl rfl) _)⟩
      · have hne : (x.toList == nm.toList) = false := by
          rw [beq_eq_false_iff_ne]; intro e; rw [Lib.toList_data, Lib.toList_data] at e; exact hq (ByteArray.ext (Array.toList_inj.1 e))
        go_wp2_with fail
        go_region
        all_goals go_wp2_with fail
        all_goals refine ⟨⟨t + 1, d + 1, by omega, by go_num, fun t' h => by (rcases Nat.lt_or_ge t' t with h1 | h1; exact HT.out t' h1; (have e : t' = t := (by omega); rw [e, HX.out]; intro e2; exact hq (by injection e2))), rfl⟩, ?_⟩
        all_goals simp [intOf] <;> omega
    · obtain rfl : t = m := by omega
      clear hlt
      have hvl : t = s.vars.length := by rw [HM.out, HS.out.plen]
      go_wp2_with fail
      go_at_call 52
      refine (HCALL.out d).mono ?_
      rintro e w1 ⟨rfl, hB, hF⟩
      have q0 : w1.cell? ⟨r, 0, none⟩ = some (.int .i64 0) := by rw [hB.cell]; rfl
      have q1 : w1.cell? ⟨r, 1, none⟩ = some (.int .i64 0) := by rw [hB.cell]; rfl
      have p0 := hB.free 0
      have p1 := hB.free 1
      have HB := Lib.hid hB
      have HF := Lib.hid hF
      clear hB hF
      unfold lookv.two
      go_wp2_with fail
      have R2 := ((HB.out.set 0 (.int .i64 s.id)).set 1 (.int .i64 s.vars.length))
      have z0 := R2.cell 0
      have z1 := R2.cell 1
      simp at z0 z1
      refine bodyPost_ret (v := lookv.two s.id s.vars.length) (by simp [results, Try.results53, go_sem, z0, z1, lookv.two]) rfl ?_
      exact .inr ⟨by rw [← hvl]; exact HT.out, rfl, HF.out _ (((Upd.refl (· = r) w1).setCell (.inl rfl) _).setCell (.inl rfl) _)⟩
end Go.Proofs.Ytmfpmpbilekbgaa.pushv
