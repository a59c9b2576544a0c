/- Plain facts on a value stack and a scope stack with forks, beside a model that keeps snapshots; no walk here. -/
import Derived.Test.YtemifkcgmfincaaSteps
set_option linter.unusedVariables false
namespace Go.Proofs.Ytemifkcgmfincaa.snap
open Go.ChangeShapes Go.WideShapes Go.ChangeAt Go.RowKit
open upd env plain ops forks popf fill init steps

/-- a scope of the model: offset, pc, saveindex, serial -/
abbrev Ms := Int × Int × Int × Int
/-- a snapshot of the model; its two slices as values too -/
structure Sp where
  pc : Int
  sv : Value
  st : List Int
  cv : Value
  sc : List Ms
  off : Int
  ex : Int
  ser : Int

theorem ch_len {α : Type} {d : List (α × Int)} {i : Int} {l : List α} (h : Ch d i l) : (l.length : Int) ≤ i + 1 := by
  induction h with
  | nil => simp
  | cons _ h2 _ ih => simp; omega

/-- the scopes from place i on are those of the list; a scope bears the serial just where it lies above the limit -/
inductive Sch (C : List (Sc × Int)) (cl ser : Int) : Int → List Ms → Prop
  | nil : Sch C cl ser (-1) []
  | cons {i : Nat} {x0 x1 x2 x3 x4 n s : Int} {l : List Ms} : C[i]? = some ((x0, x1, x2, x3, x4), n) → n < i → (s = ser ↔ cl < i) → Sch C cl ser n l → Sch C cl ser i ((x1, x2, x3, s) :: l)
theorem Sch.ge {C : List (Sc × Int)} {cl ser i : Int} {l : List Ms} (h : Sch C cl ser i l) : -1 ≤ i ∧ i < C.length ∧ (l.length : Int) ≤ i + 1 := by
  induction h with
  | nil => simp; omega
  | cons h1 h2 _ _ ih => have := (List.getElem?_eq_some_iff.1 h1).1; simp; omega
theorem Sch.keep {C C' : List (Sc × Int)} {cl ser i : Int} {l : List Ms} (h : Sch C cl ser i l) : (∀ j : Nat, (j : Int) ≤ i → C'[j]? = C[j]?) → Sch C' cl ser i l := by
  induction h with
  | nil => intro _; exact .nil
  | cons h1 h2 h3 _ ih => intro hk; exact .cons ((hk _ (Int.le_refl _)).trans h1) h2 h3 (ih fun j hj => hk j (by omega))
theorem Sch.ch {C : List (Sc × Int)} {cl ser i : Int} {l : List Ms} (h : Sch C cl ser i l) : ∃ l', Ch C i l' := by
  induction h with
  | nil => exact ⟨[], .nil⟩
  | cons h1 h2 _ _ ih => obtain ⟨l', hl⟩ := ih; exact ⟨_, .cons h1 h2 hl⟩
theorem Sch.pos {C : List (Sc × Int)} {cl ser i : Int} {m : Ms} {l : List Ms} (h : Sch C cl ser i (m :: l)) : ∃ (k : Nat) (x0 x4 n : Int), i = k ∧ C[k]? = some ((x0, m.1, m.2.1, m.2.2.1, x4), n) ∧ (m.2.2.2 = ser ↔ cl < k) ∧ Sch C cl ser n l := by
  cases h with
  | cons h1 h2 h3 h4 => exact ⟨_, _, _, _, rfl, h1, h3, h4⟩
theorem Sch.nil_iff {C : List (Sc × Int)} {cl ser i : Int} {l : List Ms} (h : Sch C cl ser i l) : i < 0 ↔ l = [] := by
  cases h with
  | nil => simp
  | cons h1 h2 h3 h4 => simp
/-- behind a fork: no scope lies above the new limit, none bears the new serial -/
theorem Sch.fresh {C : List (Sc × Int)} {cl ser i : Int} {l : List Ms} (h : Sch C cl ser i l) (cl' ser' : Int) (hc : i ≤ cl') (hs : ∀ m ∈ l, m.2.2.2 < ser') : Sch C cl' ser' i l := by
  induction h with
  | nil => exact .nil
  | cons h1 h2 h3 _ ih =>
    refine .cons h1 h2 ⟨fun e => ?_, fun e => by omega⟩ (ih (by omega) fun m hm => hs m (by simp [hm]))
    have := hs _ (List.mem_cons_self ..)
    simp at this
    omega

/-- the forks, the newest first -/
def FOk (D : List (Int × Int)) (C : List (Sc × Int)) (nser : Int) : Int → Int → List (Fk × Sp) → Prop
  | _, _, [] => True
  | vl, cl, (f, sp) :: rest => f.pc = sp.pc ∧ f.off = sp.off ∧ f.ex = sp.ex ∧ f.vi ≤ vl ∧ f.vl ≤ vl ∧ -1 ≤ f.vl ∧ f.ci ≤ cl ∧ f.cl ≤ cl ∧ -1 ≤ f.cl ∧ Ch D f.vi sp.st.reverse ∧ Sch C f.cl sp.ser f.ci sp.sc.reverse ∧ (∀ m ∈ sp.sc, m.2.2.2 ≤ nser) ∧ sp.ser ≤ nser ∧ FOk D C nser f.vl f.cl rest
theorem FOk.keep {D D' : List (Int × Int)} {C C' : List (Sc × Int)} {nser nser' : Int} : ∀ {L : List (Fk × Sp)} {vl cl : Int}, FOk D C nser vl cl L → (∀ j : Nat, (j : Int) ≤ vl → D'[j]? = D[j]?) → (∀ j : Nat, (j : Int) ≤ cl → C'[j]? = C[j]?) → nser ≤ nser' → FOk D' C' nser' vl cl L
  | [], _, _, _, _, _, _ => trivial
  | (f, sp) :: rest, vl, cl, h, hd, hc, hn => by
    obtain ⟨a1, a2, a3, a4, a5, a6, a7, a8, a9, b1, b2, b3, b4, b5⟩ := h
    exact ⟨a1, a2, a3, a4, a5, a6, a7, a8, a9, b1.keep fun j hj => hd j (by omega), b2.keep fun j hj => hc j (by omega), fun m hm => Int.le_trans (b3 m hm) hn, Int.le_trans b4 hn, b5.keep (fun j hj => hd j (by omega)) (fun j hj => hc j (by omega)) hn⟩

/-- the environment and the model agree -/
structure PInv (s : St) (st : List Int) (sc : List Ms) (off ex ser nser : Int) (L : List (Fk × Sp)) : Prop where
  F : s.F = L.map (·.1)
  off : s.off = off
  ex : s.ex = ex
  v1 : -1 ≤ s.vl
  v2 : s.vl < s.D.length
  v3 : Ch s.D s.vi st.reverse
  c1 : -1 ≤ s.cl
  c2 : s.cl < s.C.length
  c3 : Sch s.C s.cl ser s.ci sc.reverse
  n1 : ∀ m ∈ sc, m.2.2.2 ≤ nser
  n2 : ser ≤ nser
  fo : FOk s.D s.C nser s.vl s.cl L.reverse
theorem PInv.start : PInv st0 [] [] 0 0 0 0 [] := ⟨rfl, rfl, rfl, by decide, by decide, .nil, by decide, by decide, .nil, fun _ h => by simp at h, Int.le_refl _, trivial⟩
theorem PInv.wfD {s : St} {st : List Int} {sc : List Ms} {off ex ser nser : Int} {L : List (Fk × Sp)} (h : PInv s st sc off ex ser nser L) : Wf s.D s.vi s.vl := ⟨h.v1, h.v2, _, h.v3⟩
theorem PInv.wfC {s : St} {st : List Int} {sc : List Ms} {off ex ser nser : Int} {L : List (Fk × Sp)} (h : PInv s st sc off ex ser nser L) : Wf s.C s.ci s.cl := ⟨h.c1, h.c2, h.c3.ch⟩
theorem PInv.push {s : St} {st : List Int} {sc : List Ms} {off ex ser nser : Int} {L : List (Fk × Sp)} (h : PInv s st sc off ex ser nser L) (v : Int) :
    PInv { s with D := put s.D (top s.vi s.vl) (v, s.vi), vi := top s.vi s.vl } (st ++ [v]) sc off ex ser nser L ∧ (put s.D (top s.vi s.vl) (v, s.vi)).length ≤ s.D.length + 1 := by
  have ht := h.wfD.top_le
  have hp := put_len_ge s.D (top s.vi s.vl) (v, s.vi) ht
  have e := top_eq s.vi s.vl h.v1
  refine ⟨{ F := h.F, off := h.off, ex := h.ex, v1 := h.v1, v2 := by have := h.v2; simp only; omega, v3 := ?_, c1 := h.c1, c2 := h.c2, c3 := h.c3, n1 := h.n1, n2 := h.n2, fo := ?_ }, hp.2.2⟩
  · rw [List.reverse_append]
    exact .cons (put_at _ _ _ ht) (by omega) (h.v3.keep fun j hj => put_other _ _ _ _ (by omega) ht)
  · exact h.fo.keep (fun j hj => put_other _ _ _ _ (by omega) ht) (fun _ _ => rfl) (Int.le_refl _)
theorem PInv.pop {s : St} {st : List Int} {sc : List Ms} {off ex ser nser v : Int} {L : List (Fk × Sp)} (h : PInv s (st ++ [v]) sc off ex ser nser L) :
    ∃ (k : Nat) (n : Int), s.vi = k ∧ s.D[k]? = some (v, n) ∧ PInv { s with vi := n } st sc off ex ser nser L := by
  have h3 := h.v3
  rw [List.reverse_append] at h3
  obtain ⟨k, v', n, r, e1, e2, e3, e4, e5⟩ := h3.pos (by have := (h3.nil_iff); simp at this; omega)
  simp only [List.reverse_cons, List.reverse_nil, List.nil_append, List.singleton_append, List.cons.injEq] at e4
  obtain ⟨rfl, rfl⟩ := e4
  exact ⟨k, n, e1, e2, { F := h.F, off := h.off, ex := h.ex, v1 := h.v1, v2 := h.v2, v3 := e5, c1 := h.c1, c2 := h.c2, c3 := h.c3, n1 := h.n1, n2 := h.n2, fo := h.fo }⟩
theorem PInv.scope {s : St} {st : List Int} {sc : List Ms} {off ex ser nser : Int} {L : List (Fk × Sp)} (h : PInv s st sc off ex ser nser L) (x0 x1 x2 x3 x4 : Int) :
    PInv { s with C := put s.C (top s.ci s.cl) ((x0, x1, x2, x3, x4), s.ci), ci := top s.ci s.cl } st (sc ++ [(x1, x2, x3, ser)]) off ex ser nser L ∧ (put s.C (top s.ci s.cl) ((x0, x1, x2, x3, x4), s.ci)).length ≤ s.C.length + 1 := by
  have ht := h.wfC.top_le
  have hp := put_len_ge s.C (top s.ci s.cl) ((x0, x1, x2, x3, x4), s.ci) ht
  have e := top_eq s.ci s.cl h.c1
  refine ⟨{ F := h.F, off := h.off, ex := h.ex, v1 := h.v1, v2 := h.v2, v3 := h.v3, c1 := h.c1, c2 := by have := h.c2; simp only; omega, c3 := ?_, n1 := ?_, n2 := h.n2, fo := ?_ }, hp.2.2⟩
  · rw [List.reverse_append]
    refine .cons (put_at _ _ _ ht) (by omega) ⟨fun _ => by show s.cl < ((top s.ci s.cl : Nat) : Int); omega, fun _ => rfl⟩ (h.c3.keep fun j hj => put_other _ _ _ _ (by omega) ht)
  · intro m hm
    rcases List.mem_append.1 hm with hm | hm
    · exact h.n1 m hm
    · simp at hm; subst hm; exact h.n2
  · exact h.fo.keep (fun _ _ => rfl) (fun j hj => put_other _ _ _ _ (by omega) ht) (Int.le_refl _)
theorem PInv.popscope {s : St} {st : List Int} {sc : List Ms} {off ex ser nser : Int} {m : Ms} {L : List (Fk × Sp)} (h : PInv s st (sc ++ [m]) off ex ser nser L) :
    ∃ (k : Nat) (x0 x4 n : Int), s.ci = k ∧ s.C[k]? = some ((x0, m.1, m.2.1, m.2.2.1, x4), n) ∧ PInv { s with ci := n, off := popOff s m.1 } st sc (if m.2.2.2 = ser then m.1 else off) ex ser nser L := by
  have h3 := h.c3
  rw [List.reverse_append] at h3
  obtain ⟨k, x0, x4, n, e1, e2, e3, e4⟩ := h3.pos
  refine ⟨k, x0, x4, n, e1, e2, { F := h.F, off := ?_, ex := h.ex, v1 := h.v1, v2 := h.v2, v3 := h.v3, c1 := h.c1, c2 := h.c2, c3 := e4, n1 := fun m hm => h.n1 m (by simp [hm]), n2 := h.n2, fo := h.fo }⟩
  simp only [popOff, e1]
  by_cases hc : s.cl < (k : Int)
  · rw [if_pos hc, if_pos (e3.2 hc)]
  · rw [if_neg hc, if_neg (fun e => hc (e3.1 e))]; exact h.off
theorem PInv.fork {s : St} {st : List Int} {sc : List Ms} {off ex ser nser : Int} {L : List (Fk × Sp)} (h : PInv s st sc off ex ser nser L) (pc : Int) (sv cv : Value) :
    PInv { s with F := s.F ++ [⟨pc, s.vi, s.vl, s.ci, s.cl, s.off, s.ex⟩], vl := max s.vi s.vl, cl := max s.ci s.cl } st sc off ex (nser + 1) (nser + 1) (L ++ [(⟨pc, s.vi, s.vl, s.ci, s.cl, s.off, s.ex⟩, ⟨pc, sv, st, cv, sc, off, ex, ser⟩)]) := by
  have g1 := h.v3.ge; have g2 := h.c3.ge; have := h.v1; have := h.v2; have := h.c1; have := h.c2
  refine { F := by simp [h.F], off := h.off, ex := h.ex, v1 := by simp only; omega, v2 := by simp only; omega, v3 := h.v3, c1 := by simp only; omega, c2 := by simp only; omega, c3 := ?_, n1 := fun m hm => by have := h.n1 m hm; omega, n2 := Int.le_refl _, fo := ?_ }
  · exact h.c3.fresh _ _ (by simp only; omega) (fun m hm => by have := h.n1 m (by simpa using hm); omega)
  · rw [List.reverse_append]
    refine ⟨rfl, h.off, h.ex, by simp only; omega, by simp only; omega, h.v1, by simp only; omega, by simp only; omega, h.c1, h.v3, h.c3, fun m hm => by have := h.n1 m hm; omega, by show ser ≤ nser + 1; have := h.n2; omega, ?_⟩
    exact h.fo.keep (fun _ _ => rfl) (fun _ _ => rfl) (by omega)
theorem PInv.popfork {s : St} {st : List Int} {sc : List Ms} {off ex ser nser : Int} {L : List (Fk × Sp)} {f : Fk} {sp : Sp} (h : PInv s st sc off ex ser nser (L ++ [(f, sp)])) :
    s.F = L.map (·.1) ++ [f] ∧ f.pc = sp.pc ∧ PInv { s with F := L.map (·.1), vi := f.vi, vl := f.vl, ci := f.ci, cl := f.cl, off := f.off, ex := f.ex } sp.st sp.sc sp.off sp.ex sp.ser nser L := by
  have hf := h.fo
  rw [List.reverse_append] at hf
  obtain ⟨a1, a2, a3, a4, a5, a6, a7, a8, a9, b1, b2, b3, b4, b5⟩ := hf
  have := h.v2; have := h.c2
  refine ⟨by rw [h.F]; simp, a1, { F := rfl, off := a2, ex := a3, v1 := a6, v2 := by simp only; omega, v3 := b1, c1 := a9, c2 := by simp only; omega, c3 := b2, n1 := b3, n2 := b4, fo := b5 }⟩
theorem PInv.setOff {s : St} {st : List Int} {sc : List Ms} {off ex ser nser : Int} {L : List (Fk × Sp)} (h : PInv s st sc off ex ser nser L) (v : Int) : PInv { s with off := v } st sc v ex ser nser L := { h with off := rfl }
theorem PInv.setEx {s : St} {st : List Int} {sc : List Ms} {off ex ser nser : Int} {L : List (Fk × Sp)} (h : PInv s st sc off ex ser nser L) (v : Int) : PInv { s with ex := v } st sc off v ser nser L := { h with ex := rfl }
theorem PInv.lens {s : St} {st : List Int} {sc : List Ms} {off ex ser nser : Int} {L : List (Fk × Sp)} (h : PInv s st sc off ex ser nser L) : st.length ≤ s.D.length ∧ sc.length ≤ s.C.length ∧ (s.vi < 0 ↔ st = []) ∧ (s.ci < 0 ↔ sc = []) ∧ s.F.length = L.length := by
  have h1 := ch_len h.v3; have h2 := h.v3.ge; have h3 := h.c3.ge
  simp at h1 h3
  refine ⟨by omega, by omega, ?_, ?_, by rw [h.F]; simp⟩
  · rw [h.v3.nil_iff]; simp
  · rw [h.c3.nil_iff]; simp
end Go.Proofs.Ytemifkcgmfincaa.snap
