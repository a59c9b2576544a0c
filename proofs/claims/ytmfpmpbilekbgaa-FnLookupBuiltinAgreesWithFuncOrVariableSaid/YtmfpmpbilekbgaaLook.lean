/- What the look-ups answer. -/
import Derived.Test.YtmfpmpbilekbgaaComp
set_option linter.unusedVariables false
namespace Go.Proofs.Ytmfpmpbilekbgaa.lookv
open Go.ChangeShapes Go.WideShapes Go.ChangeAt Go.RowKit
open upd comp

/-- j is the last place of nm -/
def LastIn (vs : List ByteArray) (nm : ByteArray) (j : Nat) : Prop := vs[j]? = some nm ∧ ∀ t, j < t → vs[t]? ≠ some nm
/-- no place at m or behind it holds nm -/
def NoneFrom (vs : List ByteArray) (nm : ByteArray) (m : Nat) : Prop := ∀ t, m ≤ t → vs[t]? ≠ some nm
/-- no scope at m or above it has nm -/
def FreeFrom (L : List Sc) (nm : ByteArray) (m : Nat) : Prop := ∀ (k : Nat) (s : Sc), m ≤ k → L[k]? = some s → NoneFrom s.vars nm 0
theorem NoneFrom.top (vs : List ByteArray) (nm : ByteArray) : NoneFrom vs nm vs.length := fun t h e => by rw [List.getElem?_eq_none h] at e; cases e
theorem NoneFrom.down {vs : List ByteArray} {nm x : ByteArray} {m : Nat} (h : NoneFrom vs nm (m + 1)) (hx : vs[m]? = some x) (hne : x ≠ nm) : NoneFrom vs nm m := fun t ht e => by
  rcases Nat.lt_or_ge m t with hlt | hge
  · exact h t hlt e
  · obtain rfl : t = m := by omega
    rw [hx] at e; cases e; exact hne rfl
theorem FreeFrom.top (L : List Sc) (nm : ByteArray) : FreeFrom L nm L.length := fun k s h e => by rw [List.getElem?_eq_none h] at e; cases e
theorem FreeFrom.down {L : List Sc} {nm : ByteArray} {m : Nat} {s : Sc} (h : FreeFrom L nm (m + 1)) (hs : L[m]? = some s) (hn : NoneFrom s.vars nm 0) : FreeFrom L nm m := fun k s' hk e => by
  rcases Nat.lt_or_ge m k with hlt | hge
  · exact h k s' hlt e
  · obtain rfl : k = m := by omega
    rw [hs] at e; cases e; exact hn
def Found (L : List Sc) (nm : ByteArray) (k j : Nat) (s : Sc) : Prop := L[k]? = some s ∧ LastIn s.vars nm j ∧ FreeFrom L nm (k + 1)
def two (a b : Int) : Value := .agg #[.int .i64 a, .int .i64 b]
/-- what lookupVariable answers -/
def LookV (L : List Sc) (nm : ByteArray) (e : Ending) : Prop :=
  (∃ k j s, Found L nm k j s ∧ e = .returned (.tuple #[two s.id j, .nilIface])) ∨
  (FreeFrom L nm 0 ∧ ∃ t v, e = .returned (.tuple #[two 0 0, .iface t v]))
theorem beq_no {a b : ByteArray} (h : ¬ a = b) : (a == b) = false := by
  obtain ⟨x⟩ := a; obtain ⟨y⟩ := b
  have e : (({ data := x } : ByteArray) == { data := y }) = (x == y) := by rfl
  rw [e]
  exact beq_eq_false_iff_ne.2 (fun e => h (by rw [e]))

set_option maxRecDepth 100000 in
set_option maxHeartbeats 2000000 in
theorem lookVar {base c bb : Nat} {w : World} {col : Nat → Nat} {cv sv : Value} {bs : List Nat} {B : Sc} {L : List Sc} {cnt : Int} (h : CompAt base w col c cv bb sv bs B L cnt) (nm : ByteArray) (hn : L.length ≤ 2097152) (hv : ∀ (k : Nat) (s : Sc), L[k]? = some s → s.vars.length ≤ 2097152) :
    Calls Try.prog 51 #[.pointer (some ⟨c, 0, none⟩), .string nm] w fun e w' => LookV L nm e ∧ Below w.heap.size w w' := by
  obtain ⟨ao, cp, rfl⟩ := slice_form h.row
  have HN := Lib.hid hn
  have HV := Lib.hid hv
  obtain ⟨n, hnn⟩ : ∃ n, n = bs.length := ⟨_, rfl⟩
  have hnL : n = L.length := by rw [hnn, h.len]
  have HNL := Lib.hid hnL
  have HBL := Lib.hid hnn
  have hn2 : n ≤ 2097152 := by omega
  have c8 : w.cell? ⟨c, 8, none⟩ = some (.slice ao n cp) := by rw [h.blk.cell, hnn]; rfl
  have l0 := h.blk.lt
  have H := Lib.hid h
  clear h hn hv hnn hnL
  go_enter Try.func51, Try.ntmps51
  go_wp2_with fail
  obtain ⟨W, hW⟩ : ∃ W, W = w.alloc (.cells #[.int .i64 0, .int .i64 0] 50) := ⟨_, rfl⟩
  rw [← hW]
  have hu : Upd (fun _ => False) w W := by rw [hW]; exact (Upd.refl _ _).alloc _
  have HW := Lib.hid (H.out.step (col' := col) hu (fun _ h => h.elim) (fun _ _ => rfl))
  have HR : Hid (Blk W w.heap.size #[.int .i64 0, .int .i64 0] 50) := by unfold Hid; rw [hW]; exact Blk.new _ _ _
  have HB : Hid (Below w.heap.size w W) := by unfold Hid; rw [hW]; exact (Below.refl _ _).alloc (Nat.le_refl _) _
  have d8 : W.cell? ⟨c, 8, none⟩ = some (.slice ao n cp) := (hu.cell (p := ⟨c, 8, none⟩) l0 id).trans c8
  obtain ⟨r, hr⟩ : ∃ r, r = w.heap.size := ⟨_, rfl⟩
  have HRR := Lib.hid hr
  rw [← hr] at HR ⊢
  have r0 : W.cell? ⟨r, 0, none⟩ = some (.int .i64 0) := by rw [Blk.cell HR]; rfl
  have r1 : W.cell? ⟨r, 1, none⟩ = some (.int .i64 0) := by rw [Blk.cell HR]; rfl
  have f0 : W.frozen? ⟨r, 0, none⟩ = false := Blk.free HR 0
  have f1 : W.frozen? ⟨r, 1, none⟩ = false := Blk.free HR 1
  have lr : r < W.heap.size := Blk.lt HR
  have HU : Hid (∀ w2, Upd (· = r) W w2 → Below w.heap.size w w2) := fun w2 hu2 => HB.out.trans (hu2.below HB.out.size (fun k hk => by have := HRR.out; omega))
  clear c8 hu hW H l0 hr
  go_wp2_with fail
  go_loop [6, 7, 8, 9] (fun i _ _ _ => ∃ m : Nat, m ≤ n ∧ i = .int .i64 ((m : Int) - 1) ∧ Hid (FreeFrom L nm m)) (fun i _ _ _ => (intOf i + 1).toNat)
  case atStart => exact ⟨n, Nat.le_refl _, rfl, by unfold Hid; rw [HNL.out]; exact FreeFrom.top _ _⟩
  case round =>
    obtain ⟨m, hm, rfl, HF⟩ := hrel
    by_cases hlt : 0 < m
    · obtain ⟨q, rfl⟩ : ∃ q, m = q + 1 := ⟨m - 1, by omega⟩
      have e1 : (((q + 1 : Nat) : Int) - 1) = q := by omega
      rw [e1]
      clear e1 hlt
      have i0 : (0 : Int) ≤ q := by omega
      have i1 : (q : Int) < n := by omega
      obtain ⟨s, hs⟩ : ∃ s, L[q]? = some s := ⟨_, List.getElem?_eq_getElem (by have := HNL.out; omega)⟩
      obtain ⟨b, hb, vv, fv, ps, fs, hS⟩ := HW.out.sc q s hs
      obtain ⟨g, rfl, _, hcp, _, hgl, hc⟩ := row_at HW.out.row hb
      have HS := Lib.hid hS
      have hpn := HV.out q s hs
      obtain ⟨va, vc, rfl⟩ := slice_form hS.vars.row
      obtain ⟨pn, hpp⟩ : ∃ pn, pn = ps.length := ⟨_, rfl⟩
      have b0 : W.cell? ⟨b, 0, none⟩ = some (.slice va pn vc) := by rw [hS.blk.cell, hpp]; rfl
      have lb := hS.blk.lt
      have HPS : Hid (pn = s.vars.length) := by unfold Hid; rw [hpp, hS.plen]
      have HPP := Lib.hid hpp
      have hpn2 : pn ≤ 2097152 := by rw [HPS.out]; exact hpn
      have hcp2 : n ≤ cp := by have := HBL.out; omega
      have HSS := Lib.hid hs
      unfold ptr at hc
      clear hb hS hpn hpp hs hcp
      go_wp2_with fail
      go_loop [8, 9] (fun i _ => ∃ t : Nat, t ≤ pn ∧ i = .int .i64 ((t : Int) - 1) ∧ Hid (NoneFrom s.vars nm t)) (fun i _ => (intOf i + 1).toNat)
      case atStart => exact ⟨pn, Nat.le_refl _, rfl, by unfold Hid; rw [HPS.out]; exact NoneFrom.top _ _⟩
      case round =>
        obtain ⟨t, ht, rfl, HT⟩ := hrel
        by_cases ht0 : 0 < t
        · obtain ⟨u, rfl⟩ : ∃ u, t = u + 1 := ⟨t - 1, by omega⟩
          have e1 : (((u + 1 : Nat) : Int) - 1) = u := by omega
          rw [e1]
          clear e1 ht0
          have j0 : (0 : Int) ≤ u := by omega
          have j1 : (u : Int) < pn := by omega
          obtain ⟨p, hp⟩ : ∃ p, ps[u]? = some p := ⟨_, List.getElem?_eq_getElem (by have := HPP.out; omega)⟩
          obtain ⟨⟨_, lp, _⟩, x, hx, hVA⟩ := HS.out.vars.at' u p hp
          obtain ⟨g2, rfl, _, hcp3, _, hgl2, hc2⟩ := row_at HS.out.vars.row hp
          have hcp4 : pn ≤ vc := by have := HPP.out; omega
          have v0 : W.cell? ⟨p, 0, none⟩ = some (.string x) := by rw [Blk.cell hVA]; rfl
          have v1 : W.cell? ⟨p, 1, none⟩ = some (.int .i64 s.id) := by rw [Blk.cell hVA]; rfl
          have v2 : W.cell? ⟨p, 2, none⟩ = some (.int .i64 u) := by rw [Blk.cell hVA]; rfl
          have HX := Lib.hid hx
          unfold ptr at hc2
          clear hp hVA hx hcp3
          by_cases hq : x = nm
          · subst hq
            go_wp2_with fail
            have R0 : Blk W r #[.int .i64 0, .int .i64 0] 50 := HR.out
            have R2 := ((R0.set 0 (.int .i64 s.id)).set 1 (.int .i64 u))
            have z0 := R2.cell 0; have z1 := R2.cell 1
            simp at z0 z1
            refine bodyPost_ret (v := .tuple #[two s.id u, .nilIface]) (by simp [results, Try.results51, go_sem, z0, z1, two]) rfl ?_
            exact ⟨.inl ⟨q, u, s, ⟨HSS.out, ⟨HX.out, fun t' h => HT.out t' h⟩, HF.out⟩, rfl⟩, HU.out _ (((Upd.refl (· = r) W).setCell (.inl rfl) _).setCell (.inl rfl) _)⟩
          · have hne : (x.toList == nm.toList) = false := by
              rw [beq_eq_false_iff_ne]; intro e; rw [Lib.toList_data, Lib.toList_data] at e; exact hq (ByteArray.ext (Array.toList_inj.1 e))
            go_wp2_with fail
            refine ⟨⟨u, by omega, rfl, HT.out.down HX.out hq⟩, ?_⟩
            simp [intOf] <;> omega
        · obtain rfl : t = 0 := by omega
          have e1 : (((0 : Nat) : Int) - 1) = -1 := rfl
          rw [e1]
          go_wp2_with fail
          go_round
          case rel => exact ⟨q, by omega, rfl, HF.out.down HSS.out HT.out⟩
          case measure => simp [intOf] <;> omega
    · obtain rfl : m = 0 := by omega
      have e1 : (((0 : Nat) : Int) - 1) = -1 := rfl
      rw [e1]
      go_wp2_with fail
      have R0 : Blk W r #[.int .i64 0, .int .i64 0] 50 := HR.out
      have R2 := ((R0.set 0 (.int .i64 0)).set 1 (.int .i64 0)).alloc (.cells #[.string nm] 120)
      have z0 := R2.cell 0; have z1 := R2.cell 1
      simp at z0 z1
      refine bodyPost_ret (v := .tuple #[two 0 0, _]) (by simp [results, Try.results51, go_sem, z0, z1, two]; rfl) rfl ?_
      exact ⟨.inr ⟨HF.out, _, _, rfl⟩, HU.out _ ((((Upd.refl (· = r) W).setCell (.inl rfl) _).setCell (.inl rfl) _).alloc _)⟩
end Go.Proofs.Ytmfpmpbilekbgaa.lookv
