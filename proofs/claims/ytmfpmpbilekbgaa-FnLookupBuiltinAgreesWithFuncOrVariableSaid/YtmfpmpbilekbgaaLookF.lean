/- What lookupFuncOrVariable answers. -/
import Derived.Test.YtmfpmpbilekbgaaWrap
set_option linter.unusedVariables false
namespace Go.Proofs.Ytmfpmpbilekbgaa.lookf
open Go.ChangeShapes Go.WideShapes Go.ChangeAt Go.RowKit
open upd comp grow add lookv var newc push wrap

/-- no function of that name with no argument at m or behind it -/
def NoFun (fs : List (ByteArray × Int × Int)) (nm : ByteArray) (m : Nat) : Prop := ∀ t f, m ≤ t → fs[t]? = some f → ¬ (f.1 = nm ∧ f.2.2 = 0)
theorem NoFun.top (fs : List (ByteArray × Int × Int)) (nm : ByteArray) : NoFun fs nm fs.length := fun t f h e => by rw [List.getElem?_eq_none h] at e; cases e
theorem NoFun.down {fs : List (ByteArray × Int × Int)} {nm : ByteArray} {f : ByteArray × Int × Int} {m : Nat} (h : NoFun fs nm (m + 1)) (hx : fs[m]? = some f) (hne : ¬ (f.1 = nm ∧ f.2.2 = 0)) : NoFun fs nm m := fun t f' ht e => by
  rcases Nat.lt_or_ge m t with hlt | hge
  · exact h t f' hlt e
  · obtain rfl : t = m := by omega
    rw [hx] at e; cases e; exact hne
/-- no candidate in the scope -/
def Bare (s : Sc) (nm : ByteArray) (isF : Bool) : Prop := NoneFrom s.vars nm 0 ∧ (isF = true → NoFun s.funcs nm 0)
def BareFrom (L : List Sc) (nm : ByteArray) (isF : Bool) (m : Nat) : Prop := ∀ (k : Nat) (s : Sc), m ≤ k → L[k]? = some s → Bare s nm isF
theorem BareFrom.top (L : List Sc) (nm : ByteArray) (isF : Bool) : BareFrom L nm isF L.length := fun k s h e => by rw [List.getElem?_eq_none h] at e; cases e
theorem BareFrom.down {L : List Sc} {nm : ByteArray} {isF : Bool} {m : Nat} {s : Sc} (h : BareFrom L nm isF (m + 1)) (hs : L[m]? = some s) (hn : Bare s nm isF) : BareFrom L nm isF m := fun k s' hk e => by
  rcases Nat.lt_or_ge m k with hlt | hge
  · exact h k s' hlt e
  · obtain rfl : k = m := by omega
    rw [hs] at e; cases e; exact hn
/-- what lookupFuncOrVariable answers: the last function of the innermost scope with a candidate, or its last variable, or nothing -/
def LookF (L : List Sc) (nm : ByteArray) (isF : Bool) (w : World) (e : Ending) : Prop :=
  (∃ k j s f p, L[k]? = some s ∧ BareFrom L nm isF (k + 1) ∧ isF = true ∧ s.funcs[j]? = some f ∧ f.1 = nm ∧ f.2.2 = 0 ∧ NoFun s.funcs nm (j + 1) ∧ FunAt w p f ∧ e = .returned (.tuple #[.pointer (some ⟨p, 0, none⟩), .pointer none])) ∨
  (∃ k j s p, L[k]? = some s ∧ BareFrom L nm isF (k + 1) ∧ (isF = true → NoFun s.funcs nm 0) ∧ LastIn s.vars nm j ∧ VarAt w p nm s.id j ∧ e = .returned (.tuple #[.pointer none, .pointer (some ⟨p, 0, none⟩)])) ∨
  (BareFrom L nm isF 0 ∧ e = .returned (.tuple #[.pointer none, .pointer none]))

/-- the way to the j-th pointer in row f (0 the variables, 1 the functions) of scope k -/
def Way (w : World) (col : Nat → Nat) (c f k j p : Nat) : Prop := ∃ g n cp b ga m cp2 : Nat, w.cell? ⟨c, 8, none⟩ = some (.slice (some ⟨g, 0, none⟩) n cp) ∧ w.cell? ⟨g, k, none⟩ = some (.pointer (some ⟨b, 0, none⟩)) ∧ w.cell? ⟨b, f, none⟩ = some (.slice (some ⟨ga, 0, none⟩) m cp2) ∧ w.cell? ⟨ga, j, none⟩ = some (.pointer (some ⟨p, 0, none⟩)) ∧
  g < w.heap.size ∧ b < w.heap.size ∧ ga < w.heap.size ∧ col g = 2 ∧ col b = 10 + 3 * k ∧ col ga = 11 + 3 * k + f
theorem Way.det {w : World} {col col' : Nat → Nat} {c f k j p q : Nat} (h : Way w col c f k j p) (h' : Way w col' c f k j q) : p = q := by
  obtain ⟨g, n, cp, b, ga, m, cp2, h1, h2, h3, h4, _⟩ := h
  obtain ⟨g', n', cp', b', ga', m', cp2', k1, k2, k3, k4, _⟩ := h'
  rw [h1] at k1; cases k1
  rw [h2] at k2; cases k2
  rw [h3] at k3; cases k3
  rw [h4] at k4; cases k4
  rfl
theorem Way.kept {S : Nat → Prop} {w w' : World} {col : Nat → Nat} {c f k j p : Nat} (h : Way w col c f k j p) (hu : Upd S w w') (hS : ∀ t, S t → t < w.heap.size → col t ≠ 2 ∧ col t < 10) (hc : w'.cell? ⟨c, 8, none⟩ = w.cell? ⟨c, 8, none⟩) : Way w' col c f k j p := by
  obtain ⟨g, n, cp, b, ga, m, cp2, h1, h2, h3, h4, l1, l2, l3, c1, c2, c3⟩ := h
  exact ⟨g, n, cp, b, ga, m, cp2, hc.trans h1, (hu.cell (p := ⟨g, k, none⟩) l1 (fun s => (hS g s l1).1 c1)).trans h2, (hu.cell (p := ⟨b, f, none⟩) l2 (fun s => by have := (hS b s l2).2; omega)).trans h3, (hu.cell (p := ⟨ga, j, none⟩) l3 (fun s => by have := (hS ga s l3).2; omega)).trans h4, Nat.lt_of_lt_of_le l1 hu.size, Nat.lt_of_lt_of_le l2 hu.size, Nat.lt_of_lt_of_le l3 hu.size, c1, c2, c3⟩
/-- the same answers, and where their pointers stand -/
def LookG (L : List Sc) (nm : ByteArray) (isF : Bool) (w : World) (col : Nat → Nat) (c : Nat) (e : Ending) : Prop :=
  (∃ k j s f p, L[k]? = some s ∧ BareFrom L nm isF (k + 1) ∧ isF = true ∧ s.funcs[j]? = some f ∧ f.1 = nm ∧ f.2.2 = 0 ∧ NoFun s.funcs nm (j + 1) ∧ FunAt w p f ∧ Way w col c 1 k j p ∧ e = .returned (.tuple #[.pointer (some ⟨p, 0, none⟩), .pointer none])) ∨
  (∃ k j s p, L[k]? = some s ∧ BareFrom L nm isF (k + 1) ∧ (isF = true → NoFun s.funcs nm 0) ∧ LastIn s.vars nm j ∧ VarAt w p nm s.id j ∧ Way w col c 0 k j p ∧ e = .returned (.tuple #[.pointer none, .pointer (some ⟨p, 0, none⟩)])) ∨
  (BareFrom L nm isF 0 ∧ e = .returned (.tuple #[.pointer none, .pointer none]))
theorem LookG.plain {L : List Sc} {nm : ByteArray} {isF : Bool} {w : World} {col : Nat → Nat} {c : Nat} {e : Ending} (h : LookG L nm isF w col c e) : LookF L nm isF w e := by
  rcases h with ⟨k, j, s, f, p, h1, h2, h3, h4, h5, h6, h7, h8, _, h9⟩ | ⟨k, j, s, p, h1, h2, h3, h4, h5, _, h6⟩ | h
  · exact .inl ⟨k, j, s, f, p, h1, h2, h3, h4, h5, h6, h7, h8, h9⟩
  · exact .inr (.inl ⟨k, j, s, p, h1, h2, h3, h4, h5, h6⟩)
  · exact .inr (.inr h)

set_option maxRecDepth 100000 in
set_option maxHeartbeats 2000000 in
theorem lookFG {base c bb : Nat} {w : World} {col : Nat → Nat} {cv sv : Value} {bs : List Nat} {B : Sc} {L : List Sc} {cnt : Int} (h : CompAt base w col c cv bb sv bs B L cnt) (nm : ByteArray) (hn : L.length ≤ 2097152) (hv : ∀ (k : Nat) (s : Sc), L[k]? = some s → s.vars.length ≤ 2097152 ∧ s.funcs.length ≤ 2097152) (h0 : 0 < nm.size) (isF : Bool) (hisF : (((nm[0]'h0).toNat : Int) != 36) = isF) :
    Calls Try.prog 50 #[.pointer (some ⟨c, 0, none⟩), .string nm] w fun e w' => (∃ n, w' = w.drewN n) ∧ LookG L nm isF w col c e := by
  obtain ⟨ao, cp, rfl⟩ := slice_form h.row
  have HV := Lib.hid hv
  obtain ⟨n, hnn⟩ : ∃ n, n = bs.length := ⟨_, rfl⟩
  have hnL : n = L.length := by rw [hnn, h.len]
  have HNL := Lib.hid hnL
  have HBL := Lib.hid hnn
  have hn2 : n ≤ 2097152 := by omega
  have c8 : w.cell? ⟨c, 8, none⟩ = some (.slice ao n cp) := by rw [h.blk.cell, hnn]; rfl
  have l0 := h.blk.lt
  have H := Lib.hid h
  have hw : IntKind.i64.wrap ((n : Int) - 1) = (n : Int) - 1 := IntWalk.i64_in _ (by omega)
  clear h hn hv hnn hnL
  go_enter Try.func50, Try.ntmps50
  go_wp2_with fail
  go_quiet (fail)
  go_wp2_with fail
  clear hisF
  generalize hz : ((nm[0]'h0).toNat : Int) = z
  clear hz h0
  obtain ⟨W, hW⟩ : ∃ W, W = w.drewN nq := ⟨_, rfl⟩
  rw [← hW]
  have hu : Upd (fun _ => False) w W := by rw [hW]; exact (Upd.refl _ _).drewN _
  have HW := Lib.hid (H.out.step (col' := col) hu (fun _ h => h.elim) (fun _ _ => rfl))
  have HWW := Lib.hid hW
  have d8 : W.cell? ⟨c, 8, none⟩ = some (.slice ao n cp) := (hu.cell (p := ⟨c, 8, none⟩) l0 id).trans c8
  have HOLD : Hid (∀ (p : Nat) (cs : Array Value) (t : TypeId), Blk W p cs t → Blk w p cs t) := by unfold Hid; intro p cs t hb; rw [hW] at hb; exact hb
  have HCEL : Hid (∀ (p : Addr) (v : Value), W.cell? p = some v → w.cell? p = some v) := by unfold Hid; intro p v hb; rw [hW] at hb; exact hb
  have HSZ : Hid (W.heap.size = w.heap.size) := by unfold Hid; rw [hW]; rfl
  have HRC := Lib.hid HW.out.rcol
  clear c8 hu hW H l0
  go_loop [6, 8, 9, 10, 11, 12] (fun i _ _ _ _ _ => ∃ m : Nat, m ≤ n ∧ i = .int .i64 ((m : Int) - 1) ∧ Hid (BareFrom L nm isF m)) (fun i _ _ _ _ _ => (intOf i + 1).toNat)
  case atStart => exact ⟨n, Nat.le_refl _, rfl, by unfold Hid; rw [HNL.out]; exact BareFrom.top _ _ _⟩
  case round =>
    obtain ⟨m, hm, rfl, HF⟩ := hrel
    by_cases hlt : 0 < m
    · obtain ⟨q, rfl⟩ : ∃ q, m = q + 1 := ⟨m - 1, by omega⟩
      have e1 : (((q + 1 : Nat) : Int) - 1) = q := by omega
      rw [e1]
      clear e1 hlt
      have i0 : (0 : Int) ≤ q := by omega
      have i1 : (q : Int) < n := by omega
      obtain ⟨s, hs⟩ : ∃ s, L[q]? = some s := ⟨_, List.getElem?_eq_getElem (by have := HNL.out; omega)⟩
      obtain ⟨b, hb, vv, fv, ps, fs, hS⟩ := HW.out.sc q s hs
      obtain ⟨g, rfl, _, hcp, _, hgl, hc⟩ := row_at HW.out.row hb
      have HS := Lib.hid hS
      have hpn := HV.out q s hs
      obtain ⟨va, vc, rfl⟩ := slice_form hS.vars.row
      obtain ⟨fa, fc, rfl⟩ := slice_form hS.funcs.row
      obtain ⟨pn, hpp⟩ : ∃ pn, pn = ps.length := ⟨_, rfl⟩
      obtain ⟨fn, hff⟩ : ∃ fn, fn = fs.length := ⟨_, rfl⟩
      have b0 : W.cell? ⟨b, 0, none⟩ = some (.slice va pn vc) := by rw [hS.blk.cell, hpp]; rfl
      have b1 : W.cell? ⟨b, 1, none⟩ = some (.slice fa fn fc) := by rw [hS.blk.cell, hff]; rfl
      have lb := hS.blk.lt
      have HPS : Hid (pn = s.vars.length) := by unfold Hid; rw [hpp, hS.plen]
      have HFS : Hid (fn = s.funcs.length) := by unfold Hid; rw [hff, hS.flen]
      have HPP := Lib.hid hpp
      have HFF := Lib.hid hff
      have hpn2 : pn ≤ 2097152 := by rw [HPS.out]; exact hpn.1
      have hfn2 : fn ≤ 2097152 := by rw [HFS.out]; exact hpn.2
      have hcp2 : n ≤ cp := by have := HBL.out; omega
      have HSS := Lib.hid hs
      unfold ptr at hc
      clear hb hS hpn hpp hff hs hcp
      cases isF
      · have HNF : Hid (false = true → NoFun s.funcs nm 0) := fun h => by cases h
        go_wp2_with fail
        go_loop [11, 12] (fun i _ => ∃ t : Nat, t ≤ pn ∧ i = .int .i64 ((t : Int) - 1) ∧ Hid (NoneFrom s.vars nm t)) (fun i _ => (intOf i + 1).toNat)
        case atStart => exact ⟨pn, Nat.le_refl _, rfl, by unfold Hid; rw [HPS.out]; exact NoneFrom.top _ _⟩
        case round =>
          obtain ⟨t, ht, rfl, HT⟩ := hrel
          by_cases ht0 : 0 < t
          · obtain ⟨u, rfl⟩ : ∃ u, t = u + 1 := ⟨t - 1, by omega⟩
            have e1 : (((u + 1 : Nat) : Int) - 1) = u := by omega
            rw [e1]
            clear e1 ht0
            have j0 : (0 : Int) ≤ u := by omega
            have j1 : (u : Int) < pn := by omega
            obtain ⟨p, hp⟩ : ∃ p, ps[u]? = some p := ⟨_, List.getElem?_eq_getElem (by have := HPP.out; omega)⟩
            obtain ⟨⟨_, lp, _⟩, x, hx, hVA⟩ := HS.out.vars.at' u p hp
            obtain ⟨g2, rfl, _, hcp3, _, hgl2, hc2⟩ := row_at HS.out.vars.row hp
            have hcp4 : pn ≤ vc := by have := HPP.out; omega
            have v0 : W.cell? ⟨p, 0, none⟩ = some (.string x) := by rw [Blk.cell hVA]; rfl
            have HX := Lib.hid hx
            have HVA := Lib.hid hVA
            unfold ptr at hc2
            clear hp hVA hx hcp3
            by_cases hq : x = nm
            · subst hq
              go_wp2_with fail
              go_ret2
              exact ⟨⟨nq, HWW.out⟩, .inr (.inl ⟨q, u, s, p, HSS.out, HF.out, HNF.out, ⟨HX.out, fun t' h => HT.out t' h⟩, HOLD.out _ _ _ HVA.out, ⟨g, n, cp, b, g2, pn, vc, HCEL.out _ _ d8, HCEL.out _ _ hc, HCEL.out _ _ b0, HCEL.out _ _ hc2, by have := HSZ.out; omega, by have := HSZ.out; omega, by have := HSZ.out; omega, HRC.out g rfl, HS.out.clr, by have := HS.out.vars.clr g2 rfl; omega⟩, rfl⟩)⟩
            · have hne : (x.toList == nm.toList) = false := by
                rw [beq_eq_false_iff_ne]; intro e; rw [Lib.toList_data, Lib.toList_data] at e; exact hq (ByteArray.ext (Array.toList_inj.1 e))
              go_wp2_with fail
              refine ⟨⟨u, by omega, rfl, HT.out.down HX.out hq⟩, ?_⟩
              simp [intOf] <;> omega
          · obtain rfl : t = 0 := by omega
            have e1 : (((0 : Nat) : Int) - 1) = -1 := rfl
            rw [e1]
            go_wp2_with fail
            refine ⟨⟨q, by omega, rfl, HF.out.down HSS.out ⟨HT.out, HNF.out⟩⟩, ?_⟩
            simp [intOf] <;> omega
      · go_wp2_with fail
        go_loop [9, 10] (fun i _ => ∃ t : Nat, t ≤ fn ∧ i = .int .i64 ((t : Int) - 1) ∧ Hid (NoFun s.funcs nm t)) (fun i _ => (intOf i + 1).toNat)
        case atStart => exact ⟨fn, Nat.le_refl _, rfl, by unfold Hid; rw [HFS.out]; exact NoFun.top _ _⟩
        case round =>
          obtain ⟨t, ht, rfl, HT⟩ := hrel
          by_cases ht0 : 0 < t
          · obtain ⟨u, rfl⟩ : ∃ u, t = u + 1 := ⟨t - 1, by omega⟩
            have e1 : (((u + 1 : Nat) : Int) - 1) = u := by omega
            rw [e1]
            clear e1 ht0
            have j0 : (0 : Int) ≤ u := by omega
            have j1 : (u : Int) < fn := by omega
            obtain ⟨p, hp⟩ : ∃ p, fs[u]? = some p := ⟨_, List.getElem?_eq_getElem (by have := HFF.out; omega)⟩
            obtain ⟨⟨_, lp, _⟩, ⟨x, pc, ac⟩, hx, hVA⟩ := HS.out.funcs.at' u p hp
            obtain ⟨g2, rfl, _, hcp3, _, hgl2, hc2⟩ := row_at HS.out.funcs.row hp
            have hcp4 : fn ≤ fc := by have := HFF.out; omega
            have v0 : W.cell? ⟨p, 0, none⟩ = some (.string x) := by rw [Blk.cell hVA]; rfl
            have v2 : W.cell? ⟨p, 2, none⟩ = some (.int .i64 ac) := by rw [Blk.cell hVA]; rfl
            have HX := Lib.hid hx
            have HVA := Lib.hid hVA
            unfold ptr at hc2
            clear hp hVA hx hcp3
            by_cases hq : x = nm
            · subst hq
              by_cases hac : ac = 0
              · subst hac
                go_wp2_with fail
                go_ret2
                exact ⟨⟨nq, HWW.out⟩, .inl ⟨q, u, s, _, p, HSS.out, HF.out, rfl, HX.out, rfl, rfl, HT.out, HOLD.out _ _ _ HVA.out, ⟨g, n, cp, b, g2, fn, fc, HCEL.out _ _ d8, HCEL.out _ _ hc, HCEL.out _ _ b1, HCEL.out _ _ hc2, by have := HSZ.out; omega, by have := HSZ.out; omega, by have := HSZ.out; omega, HRC.out g rfl, HS.out.clr, by have := HS.out.funcs.clr g2 rfl; omega⟩, rfl⟩⟩
              · have hac2 : (ac == 0) = false := by simp [hac]
                go_wp2_with fail
                refine ⟨⟨u, by omega, rfl, HT.out.down HX.out (fun h => hac h.2)⟩, ?_⟩
                simp [intOf] <;> omega
            · have hne : (x.toList == nm.toList) = false := by
                rw [beq_eq_false_iff_ne]; intro e; rw [Lib.toList_data, Lib.toList_data] at e; exact hq (ByteArray.ext (Array.toList_inj.1 e))
              go_wp2_with fail
              refine ⟨⟨u, by omega, rfl, HT.out.down HX.out (fun h => hq h.1)⟩, ?_⟩
              simp [intOf] <;> omega
          · obtain rfl : t = 0 := by omega
            have e1 : (((0 : Nat) : Int) - 1) = -1 := rfl
            rw [e1]
            have HNF : Hid (NoFun s.funcs nm 0) := HT.out
            clear HT
            go_wp2_with fail
            go_loop [11, 12] (fun i _ => ∃ t : Nat, t ≤ pn ∧ i = .int .i64 ((t : Int) - 1) ∧ Hid (NoneFrom s.vars nm t)) (fun i _ => (intOf i + 1).toNat)
            case atStart => exact ⟨pn, Nat.le_refl _, rfl, by unfold Hid; rw [HPS.out]; exact NoneFrom.top _ _⟩
            case round =>
              obtain ⟨t, ht, rfl, HT⟩ := hrel
              by_cases ht0 : 0 < t
              · obtain ⟨u, rfl⟩ : ∃ u, t = u + 1 := ⟨t - 1, by omega⟩
                have e1 : (((u + 1 : Nat) : Int) - 1) = u := by omega
                rw [e1]
                clear e1 ht0
                have j0 : (0 : Int) ≤ u := by omega
                have j1 : (u : Int) < pn := by omega
                obtain ⟨p, hp⟩ : ∃ p, ps[u]? = some p := ⟨_, List.getElem?_eq_getElem (by have := HPP.out; omega)⟩
                obtain ⟨⟨_, lp, _⟩, x, hx, hVA⟩ := HS.out.vars.at' u p hp
                obtain ⟨g2, rfl, _, hcp3, _, hgl2, hc2⟩ := row_at HS.out.vars.row hp
                have hcp4 : pn ≤ vc := by have := HPP.out; omega
                have v0 : W.cell? ⟨p, 0, none⟩ = some (.string x) := by rw [Blk.cell hVA]; rfl
                have HX := Lib.hid hx
                have HVA := Lib.hid hVA
                unfold ptr at hc2
                clear hp hVA hx hcp3
                by_cases hq : x = nm
                · subst hq
                  go_wp2_with fail
                  go_ret2
                  exact ⟨⟨nq, HWW.out⟩, .inr (.inl ⟨q, u, s, p, HSS.out, HF.out, (fun _ => HNF.out), ⟨HX.out, fun t' h => HT.out t' h⟩, HOLD.out _ _ _ HVA.out, ⟨g, n, cp, b, g2, pn, vc, HCEL.out _ _ d8, HCEL.out _ _ hc, HCEL.out _ _ b0, HCEL.out _ _ hc2, by have := HSZ.out; omega, by have := HSZ.out; omega, by have := HSZ.out; omega, HRC.out g rfl, HS.out.clr, by have := HS.out.vars.clr g2 rfl; omega⟩, rfl⟩)⟩
                · have hne : (x.toList == nm.toList) = false := by
                    rw [beq_eq_false_iff_ne]; intro e; rw [Lib.toList_data, Lib.toList_data] at e; exact hq (ByteArray.ext (Array.toList_inj.1 e))
                  go_wp2_with fail
                  refine ⟨⟨u, by omega, rfl, HT.out.down HX.out hq⟩, ?_⟩
                  simp [intOf] <;> omega
              · obtain rfl : t = 0 := by omega
                have e1 : (((0 : Nat) : Int) - 1) = -1 := rfl
                rw [e1]
                go_wp2_with fail
                refine ⟨⟨q, by omega, rfl, HF.out.down HSS.out ⟨HT.out, (fun _ => HNF.out)⟩⟩, ?_⟩
                simp [intOf] <;> omega
    · obtain rfl : m = 0 := by omega
      have e1 : (((0 : Nat) : Int) - 1) = -1 := rfl
      rw [e1]
      go_wp2_with fail
      go_ret2
      exact ⟨⟨nq, HWW.out⟩, .inr (.inr ⟨HF.out, rfl⟩)⟩
theorem lookFV {base c bb : Nat} {w : World} {col : Nat → Nat} {cv sv : Value} {bs : List Nat} {B : Sc} {L : List Sc} {cnt : Int} (h : CompAt base w col c cv bb sv bs B L cnt) (nm : ByteArray) (hn : L.length ≤ 2097152) (hv : ∀ (k : Nat) (s : Sc), L[k]? = some s → s.vars.length ≤ 2097152 ∧ s.funcs.length ≤ 2097152) (h0 : 0 < nm.size) (isF : Bool) (hisF : (((nm[0]'h0).toNat : Int) != 36) = isF) :
    Calls Try.prog 50 #[.pointer (some ⟨c, 0, none⟩), .string nm] w fun e w' => (∃ n, w' = w.drewN n) ∧ LookF L nm isF w e :=
  (lookFG h nm hn hv h0 isF hisF).mono fun e w' ⟨h1, h2⟩ => ⟨h1, h2.plain⟩
end Go.Proofs.Ytmfpmpbilekbgaa.lookf
