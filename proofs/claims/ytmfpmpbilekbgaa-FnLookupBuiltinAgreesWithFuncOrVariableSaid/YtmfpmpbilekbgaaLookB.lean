/- lookupBuiltin (f47, its door f22), the codes' readers (f19, f20, f21). -/
import Derived.Test.YtmfpmpbilekbgaaBody
set_option linter.unusedVariables false
namespace Go.Proofs.Ytmfpmpbilekbgaa.lookb
open Go.ChangeShapes Go.WideShapes Go.ChangeAt Go.RowKit
open upd comp grow add lookv var newc push wrap pushv lookf doors codes lazy bi45 body

/-- no function of that name and arity at m or behind it -/
def NoFn (fs : List (ByteArray × Int × Int)) (nm : ByteArray) (ac : Int) (m : Nat) : Prop := ∀ t f, m ≤ t → fs[t]? = some f → ¬ (f.1 = nm ∧ f.2.2 = ac)
theorem NoFn.top (fs : List (ByteArray × Int × Int)) (nm : ByteArray) (ac : Int) : NoFn fs nm ac fs.length := fun t f h e => by rw [List.getElem?_eq_none h] at e; cases e
theorem NoFn.down {fs : List (ByteArray × Int × Int)} {nm : ByteArray} {ac : Int} {f : ByteArray × Int × Int} {m : Nat} (h : NoFn fs nm ac (m + 1)) (hx : fs[m]? = some f) (hne : ¬ (f.1 = nm ∧ f.2.2 = ac)) : NoFn fs nm ac m := fun t f' ht e => by
  rcases Nat.lt_or_ge m t with hlt | hge
  · exact h t f' hlt e
  · obtain rfl : t = m := by omega
    rw [hx] at e; cases e; exact hne
/-- what lookupBuiltin answers -/
def LookB (F : List (ByteArray × Int × Int)) (fs : List Nat) (nm : ByteArray) (ac : Int) (w : World) (e : Ending) : Prop :=
  (∃ j f p, F[j]? = some f ∧ f.1 = nm ∧ f.2.2 = ac ∧ NoFn F nm ac (j + 1) ∧ fs[j]? = some p ∧ FunAt w p f ∧ e = .returned (.pointer (some ⟨p, 0, none⟩))) ∨ (NoFn F nm ac 0 ∧ e = .returned (.pointer none))

set_option maxRecDepth 100000 in
set_option maxHeartbeats 2000000 in
theorem look47 {base c bb q : Nat} {w : World} {col : Nat → Nat} {B : Sc} {vv fv : Value} {ps fs : List Nat} (h7 : w.cell? ⟨c, 7, none⟩ = some (.pointer (some ⟨bb, 0, none⟩))) (hS : ScAt base w col q bb B vv fv ps fs) (nm : ByteArray) (ac : Int) (hn : B.funcs.length ≤ 2097152) :
    Calls Try.prog 47 #[.pointer (some ⟨c, 0, none⟩), .string nm, .int .i64 ac] w fun e w' => LookB B.funcs fs nm ac w e ∧ w = w' := by
  obtain ⟨fa, fc, rfl⟩ := slice_form hS.funcs.row
  obtain ⟨fn, hff⟩ : ∃ fn, fn = fs.length := ⟨_, rfl⟩
  have b1 : w.cell? ⟨bb, 1, none⟩ = some (.slice fa fn fc) := by rw [hS.blk.cell, hff]; rfl
  have HS := Lib.hid hS
  have HFS : Hid (fn = B.funcs.length) := by unfold Hid; rw [hff, hS.flen]
  have HFF := Lib.hid hff
  have hfn2 : fn ≤ 2097152 := by rw [HFS.out]; exact hn
  have hw : IntKind.i64.wrap ((fn : Int) - 1) = (fn : Int) - 1 := IntWalk.i64_in _ (by omega)
  clear hS hff hn
  go_enter Try.func47, Try.ntmps47
  go_wp2_with fail
  go_loop [8, 9] (fun i _ => ∃ t : Nat, t ≤ fn ∧ i = .int .i64 ((t : Int) - 1) ∧ Hid (NoFn B.funcs nm ac t)) (fun i _ => (intOf i + 1).toNat)
  case atStart => exact ⟨fn, Nat.le_refl _, rfl, by unfold Hid; rw [HFS.out]; exact NoFn.top _ _ _⟩
  case round =>
    obtain ⟨t, ht, rfl, HT⟩ := hrel
    by_cases ht0 : 0 < t
    · obtain ⟨u, rfl⟩ : ∃ u, t = u + 1 := ⟨t - 1, by omega⟩
      have e1 : (((u + 1 : Nat) : Int) - 1) = u := by omega
      rw [e1]
      clear e1 ht0
      have j0 : (0 : Int) ≤ u := by omega
      have j1 : (u : Int) < fn := by omega
      obtain ⟨p, hp⟩ : ∃ p, fs[u]? = some p := ⟨_, List.getElem?_eq_getElem (by have := HFF.out; omega)⟩
      obtain ⟨⟨_, lp, _⟩, ⟨x, pc, a⟩, hx, hVA⟩ := HS.out.funcs.at' u p hp
      obtain ⟨g2, rfl, _, hcp3, _, hgl2, hc2⟩ := row_at HS.out.funcs.row hp
      have hcp4 : fn ≤ fc := by have := HFF.out; omega
      have v0 : w.cell? ⟨p, 0, none⟩ = some (.string x) := by rw [Blk.cell hVA]; rfl
      have v2 : w.cell? ⟨p, 2, none⟩ = some (.int .i64 a) := by rw [Blk.cell hVA]; rfl
      have HX := Lib.hid hx
      have HVA := Lib.hid hVA
      have HPP := Lib.hid hp
      unfold ptr at hc2
      clear hp hVA hx hcp3
      by_cases hq : x = nm
      · subst hq
        by_cases hac : a = ac
        · subst hac
          go_wp2_with fail
          go_ret
          exact ⟨.inl ⟨u, _, p, HX.out, rfl, rfl, HT.out, HPP.out, HVA.out, rfl⟩, rfl⟩
        · have hac2 : (a == ac) = false := by simp [hac]
          go_wp2_with fail
          refine ⟨⟨u, by omega, rfl, HT.out.down HX.out (fun h => hac h.2)⟩, ?_⟩
          simp [intOf] <;> omega
      · have hne : (x.toList == nm.toList) = false := by
          rw [beq_eq_false_iff_ne]; intro e; rw [Lib.toList_data, Lib.toList_data] at e; exact hq (ByteArray.ext (Array.toList_inj.1 e))
        go_wp2_with fail
        refine ⟨⟨u, by omega, rfl, HT.out.down HX.out (fun h => hq h.1)⟩, ?_⟩
        simp [intOf] <;> omega
    · obtain rfl : t = 0 := by omega
      have e1 : (((0 : Nat) : Int) - 1) = -1 := rfl
      rw [e1]
      go_wp2_with fail
      go_ret
      exact ⟨.inr ⟨HT.out, rfl⟩, rfl⟩
theorem zlookB {base c bb q : Nat} {w : World} {col : Nat → Nat} {B : Sc} {vv fv : Value} {ps fs : List Nat} (h7 : w.cell? ⟨c, 7, none⟩ = some (.pointer (some ⟨bb, 0, none⟩))) (hS : ScAt base w col q bb B vv fv ps fs) (nm : ByteArray) (ac : Int) (hn : B.funcs.length ≤ 2097152) :
    Calls Try.prog 22 #[.pointer (some ⟨c, 0, none⟩), .string nm, .int .i64 ac] w fun e w' => LookB B.funcs fs nm ac w e ∧ w = w' := by
  have HC := Lib.hid (look47 h7 hS nm ac hn)
  clear h7 hS hn
  go_enter Try.func22, Try.ntmps22
  go_wp2_with fail
  go_at_call 47
  refine HC.out.mono ?_
  rintro e w1 ⟨hl, rfl⟩
  rcases hl with ⟨j, f, p, h1, h2, h3, h4, h5, h6, rfl⟩ | ⟨h1, rfl⟩
  · have HF := Lib.hid (And.intro h1 (And.intro h2 (And.intro h3 (And.intro h4 (And.intro h5 h6)))))
    clear h1 h2 h3 h4 h5 h6
    go_wp2_with fail
    go_ret
    obtain ⟨h1, h2, h3, h4, h5, h6⟩ := HF.out
    exact ⟨.inl ⟨j, f, p, h1, h2, h3, h4, h5, h6, rfl⟩, rfl⟩
  · have HF := Lib.hid h1
    clear h1
    go_wp2_with fail
    go_ret
    exact ⟨.inr ⟨HF.out, rfl⟩, rfl⟩

theorem codesLen (w : World) (c n cc : Nat) (ca : Option Addr) (h5 : w.cell? ⟨c, 5, none⟩ = some (.slice ca n cc)) : Calls Try.prog 19 #[.pointer (some ⟨c, 0, none⟩)] w fun e w' => e = .returned (.int .i64 n) ∧ w = w' := by
  go_enter Try.func19, Try.ntmps19
  go_wp2_with fail
  go_ret
  exact ⟨rfl, rfl⟩
theorem some_at {ps : List (Option Nat)} (h : AllSome ps) {j : Nat} (hj : j < ps.length) : ∃ p, ps[j]? = some (some p) := by
  obtain ⟨p, hp⟩ := h ps[j] (List.getElem_mem hj)
  exact ⟨p, by rw [List.getElem?_eq_getElem hj, hp]⟩
theorem codeOp {base c : Nat} {w : World} {col : Nat → Nat} {cv : Value} {ps : List (Option Nat)} {cs : List (Int × Value)} (h5 : w.cell? ⟨c, 5, none⟩ = some cv) (hD : Cods base w col cv ps cs) (hF : AllSome ps) (j : Nat) (x : Int × Value) (hx : cs[j]? = some x) :
    Calls Try.prog 20 #[.pointer (some ⟨c, 0, none⟩), .int .i64 j] w fun e w' => e = .returned (.int .i64 x.1) ∧ w = w' := by
  obtain ⟨ca, cc, rfl⟩ := slice_form hD.row
  have hj : j < ps.length := by rw [hD.len]; exact (List.getElem?_eq_some_iff.1 hx).1
  obtain ⟨p, hp⟩ := some_at hF hj
  obtain ⟨_, y, hy, hb⟩ := hD.at' j p hp
  rw [hx] at hy; cases hy
  rcases own_form hD.row with ⟨_, h1, _⟩ | ⟨g, cap, h1, hgb, hcc, hgl⟩
  · omega
  simp only [Value.slice.injEq, true_and] at h1
  obtain ⟨rfl, rfl⟩ := h1
  have e0 : w.cell? ⟨g, j, none⟩ = some (.pointer (some ⟨p, 0, none⟩)) := by rw [hD.row.cellAt j (by rw [Nat.mul_one]; exact hj)]; simp [optrs, hp, optr]
  have e1 : w.cell? ⟨p, 1, none⟩ = some (.int .i64 x.1) := by rw [Blk.cell hb]; rfl
  obtain ⟨n, hn⟩ : ∃ n, n = ps.length := ⟨_, rfl⟩
  rw [← hn] at h5 hj hcc
  have i0 : (0 : Int) ≤ j := by omega
  have i1 : (j : Int) < n := by omega
  have i2 : n ≤ cc := by omega
  clear hD hF hx hb hn hp
  go_enter Try.func20, Try.ntmps20
  go_wp2_with fail
  go_ret
  exact ⟨rfl, rfl⟩
set_option maxRecDepth 100000 in
theorem codeInt {base c : Nat} {w : World} {col : Nat → Nat} {cv : Value} {ps : List (Option Nat)} {cs : List (Int × Value)} (h5 : w.cell? ⟨c, 5, none⟩ = some cv) (hD : Cods base w col cv ps cs) (hF : AllSome ps) (j n0 : Nat) (hx : cs[j]? = some (jump n0)) :
    Calls Try.prog 21 #[.pointer (some ⟨c, 0, none⟩), .int .i64 j] w fun e w' => e = .returned (.tuple #[.int .i64 n0, .bool true]) ∧ w = w' := by
  obtain ⟨ca, cc, rfl⟩ := slice_form hD.row
  have hj : j < ps.length := by rw [hD.len]; exact (List.getElem?_eq_some_iff.1 hx).1
  obtain ⟨p, hp⟩ := some_at hF hj
  obtain ⟨_, y, hy, hb⟩ := hD.at' j p hp
  rw [hx] at hy; cases hy
  rcases own_form hD.row with ⟨_, h1, _⟩ | ⟨g, cap, h1, hgb, hcc, hgl⟩
  · omega
  simp only [Value.slice.injEq, true_and] at h1
  obtain ⟨rfl, rfl⟩ := h1
  have e0 : w.cell? ⟨g, j, none⟩ = some (.pointer (some ⟨p, 0, none⟩)) := by rw [hD.row.cellAt j (by rw [Nat.mul_one]; exact hj)]; simp [optrs, hp, optr]
  have e1 : w.cell? ⟨p, 0, none⟩ = some (.iface 3 (.int .i64 n0)) := by rw [Blk.cell hb]; rfl
  obtain ⟨n, hn⟩ : ∃ n, n = ps.length := ⟨_, rfl⟩
  rw [← hn] at h5 hj hcc
  have i0 : (0 : Int) ≤ j := by omega
  have i1 : (j : Int) < n := by omega
  have i2 : n ≤ cc := by omega
  clear hD hF hx hb hn hp
  have hta : (Instr.typeAssert (.iface 3 (.int .i64 n0)) 20 3 true).run Try.prog w = .ok (.tuple #[.int .i64 n0, .bool true]) w := by rfl
  go_enter Try.func21, Try.ntmps21
  go_wp2_with fail
  go_ret2
  exact ⟨rfl, rfl⟩
end Go.Proofs.Ytmfpmpbilekbgaa.lookb
