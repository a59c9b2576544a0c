/- What the statement's model of lookupFuncOrVariable has picked, against what the function answers; no function of the program in sight. -/
import Derived.Test.YtmfpmpbilekbgaaState
set_option linter.unusedVariables false
namespace Go.Proofs.Ytmfpmpbilekbgaa.pick
open Go.ChangeShapes Go.WideShapes Go.ChangeAt Go.RowKit
open upd comp grow add lookv var newc push wrap pushv lookf doors zs guard model plain state

def Pick (L : List Sc) (nm : ByteArray) (isF : Bool) (kd pc a b : Int) : Prop :=
  (kd = 0 ∧ BareFrom L nm isF 0) ∨
  (kd = 1 ∧ isF = true ∧ ∃ k s j f, L[k]? = some s ∧ BareFrom L nm isF (k + 1) ∧ s.funcs[j]? = some f ∧ f.1 = nm ∧ f.2.2 = 0 ∧ NoFun s.funcs nm (j + 1) ∧ pc = f.2.1) ∨
  (kd = 2 ∧ ∃ (k : Nat) (s : Sc) (j : Nat), L[k]? = some s ∧ BareFrom L nm isF (k + 1) ∧ (isF = true → NoFun s.funcs nm 0) ∧ LastIn s.vars nm j ∧ a = s.id ∧ b = j)
theorem Pick.start (nm : ByteArray) (isF : Bool) : Pick [] nm isF 0 0 0 0 := .inl ⟨rfl, fun k s _ h => by simp at h⟩
theorem bare_snoc {L : List Sc} {s : Sc} {nm : ByteArray} {isF : Bool} {m : Nat} (h : BareFrom L nm isF m) (hb : Bare s nm isF) : BareFrom (L ++ [s]) nm isF m := fun k t hk ht => by
  rcases Nat.lt_or_ge k L.length with hlt | hge
  · rw [List.getElem?_append_left hlt] at ht; exact h k t hk ht
  · rw [List.getElem?_append_right hge] at ht
    have hk0 : k - L.length = 0 := by have := (List.getElem?_eq_some_iff.1 ht).1; simp at this; omega
    rw [hk0] at ht; simp at ht; exact ht ▸ hb
theorem bare_top (L : List Sc) (s : Sc) (nm : ByteArray) (isF : Bool) : BareFrom (L ++ [s]) nm isF (L.length + 1) := fun k t hk ht => by
  rw [List.getElem?_eq_none (by simp; omega)] at ht; cases ht
theorem at_snoc {L : List Sc} {s t : Sc} {k : Nat} (h : L[k]? = some t) : (L ++ [s])[k]? = some t := by
  rw [List.getElem?_append_left (List.getElem?_eq_some_iff.1 h).1]; exact h
theorem Pick.bare {L : List Sc} {s : Sc} {nm : ByteArray} {isF : Bool} {kd pc a b : Int} (h : Pick L nm isF kd pc a b) (hb : Bare s nm isF) : Pick (L ++ [s]) nm isF kd pc a b := by
  rcases h with ⟨h1, h2⟩ | ⟨h1, h2, k, t, j, f, h3, h4, h5⟩ | ⟨h1, k, t, j, h3, h4, h5⟩
  · exact .inl ⟨h1, bare_snoc h2 hb⟩
  · exact .inr (.inl ⟨h1, h2, k, t, j, f, at_snoc h3, bare_snoc h4 hb, h5⟩)
  · exact .inr (.inr ⟨h1, k, t, j, at_snoc h3, bare_snoc h4 hb, h5⟩)
theorem Pick.fn (L : List Sc) {s : Sc} {nm : ByteArray} {isF : Bool} {j : Nat} {f : ByteArray × Int × Int} (a b : Int) (hF : isF = true) (h1 : s.funcs[j]? = some f) (h2 : f.1 = nm) (h3 : f.2.2 = 0) (h4 : NoFun s.funcs nm (j + 1)) : Pick (L ++ [s]) nm isF 1 f.2.1 a b :=
  .inr (.inl ⟨rfl, hF, L.length, s, j, f, by simp, bare_top _ _ _ _, h1, h2, h3, h4, rfl⟩)
theorem Pick.vr (L : List Sc) {s : Sc} {nm : ByteArray} {isF : Bool} {j : Nat} (pc : Int) (hF : isF = true → NoFun s.funcs nm 0) (h1 : LastIn s.vars nm j) : Pick (L ++ [s]) nm isF 2 pc s.id j :=
  .inr (.inr ⟨rfl, L.length, s, j, by simp, bare_top _ _ _ _, hF, h1, rfl, rfl⟩)

theorem fun_unique {fs : List (ByteArray × Int × Int)} {nm : ByteArray} {i j : Nat} {f g : ByteArray × Int × Int} (h1 : fs[i]? = some f) (h2 : f.1 = nm) (h3 : f.2.2 = 0) (h4 : NoFun fs nm (i + 1)) (k1 : fs[j]? = some g) (k2 : g.1 = nm) (k3 : g.2.2 = 0) (k4 : NoFun fs nm (j + 1)) : f = g := by
  rcases Nat.lt_trichotomy i j with h | h | h
  · exact (h4 j g (by omega) k1 ⟨k2, k3⟩).elim
  · subst h; rw [h1] at k1; cases k1; rfl
  · exact (k4 i f (by omega) h1 ⟨h2, h3⟩).elim
/-- a scope with a candidate stands at or below the last bare one -/
theorem cand_eq {L : List Sc} {nm : ByteArray} {isF : Bool} {k k' : Nat} {s s' : Sc} (h1 : L[k]? = some s) (h2 : BareFrom L nm isF (k + 1)) (h3 : ¬ Bare s nm isF) (k1 : L[k']? = some s') (k2 : BareFrom L nm isF (k' + 1)) (k3 : ¬ Bare s' nm isF) : s = s' := by
  rcases Nat.lt_trichotomy k k' with h | h | h
  · exact (k3 (h2 k' s' (by omega) k1)).elim
  · subst h; rw [h1] at k1; cases k1; rfl
  · exact (h3 (k2 k s (by omega) h1)).elim
theorem agree {L : List Sc} {nm : ByteArray} {isF : Bool} {kd pc a b : Int} {w : World} {e : Ending} (h : Pick L nm isF kd pc a b) (l : LookF L nm isF w e) :
    (kd = 0 ∧ e = .returned (.tuple #[.pointer none, .pointer none])) ∨
    (kd = 1 ∧ ∃ p, e = .returned (.tuple #[.pointer (some ⟨p, 0, none⟩), .pointer none]) ∧ FunAt w p (nm, pc, 0)) ∨
    (kd = 2 ∧ ∃ (p j : Nat), e = .returned (.tuple #[.pointer none, .pointer (some ⟨p, 0, none⟩)]) ∧ VarAt w p nm a j ∧ b = j) := by
  have nf : ∀ (s : Sc) (j : Nat) (f : ByteArray × Int × Int), isF = true → s.funcs[j]? = some f → f.1 = nm → f.2.2 = 0 → ¬ Bare s nm isF := fun s j f h0 h1 h2 h3 hb => hb.2 h0 j f (Nat.zero_le _) h1 ⟨h2, h3⟩
  have nv : ∀ (s : Sc) (j : Nat), LastIn s.vars nm j → ¬ Bare s nm isF := fun s j h1 hb => hb.1 j (Nat.zero_le _) h1.1
  rcases h with ⟨h1, h2⟩ | ⟨h1, h2, k, t, j, f, h3, h4, h5, h6, h7, h8, h9⟩ | ⟨h1, k, t, j, h3, h4, h5, h6, h7, h8⟩
  · rcases l with ⟨k', j', s', f', p, l1, l2, l3, l4, l5, l6, l7, l8, rfl⟩ | ⟨k', j', s', p, l1, l2, l3, l4, l5, rfl⟩ | ⟨l1, rfl⟩
    · exact (nf s' j' f' l3 l4 l5 l6 (h2 k' s' (Nat.zero_le _) l1)).elim
    · exact (nv s' j' l4 (h2 k' s' (Nat.zero_le _) l1)).elim
    · exact .inl ⟨h1, rfl⟩
  · have hb := nf t j f h2 h5 h6 h7
    rcases l with ⟨k', j', s', f', p, l1, l2, l3, l4, l5, l6, l7, l8, rfl⟩ | ⟨k', j', s', p, l1, l2, l3, l4, l5, rfl⟩ | ⟨l1, rfl⟩
    · obtain rfl := cand_eq h3 h4 hb l1 l2 (nf s' j' f' l3 l4 l5 l6)
      obtain rfl := fun_unique h5 h6 h7 h8 l4 l5 l6 l7
      refine .inr (.inl ⟨h1, p, rfl, ?_⟩)
      have e : (nm, pc, (0 : Int)) = f := by rw [← h6, h9, ← h7]
      rw [e]; exact l8
    · obtain rfl := cand_eq h3 h4 hb l1 l2 (nv s' j' l4)
      exact (l3 h2 j f (Nat.zero_le _) h5 ⟨h6, h7⟩).elim
    · exact (hb (l1 k t (Nat.zero_le _) h3)).elim
  · have hb := nv t j h6
    rcases l with ⟨k', j', s', f', p, l1, l2, l3, l4, l5, l6, l7, l8, rfl⟩ | ⟨k', j', s', p, l1, l2, l3, l4, l5, rfl⟩ | ⟨l1, rfl⟩
    · obtain rfl := cand_eq h3 h4 hb l1 l2 (nf s' j' f' l3 l4 l5 l6)
      exact (h5 l3 j' f' (Nat.zero_le _) l4 ⟨l5, l6⟩).elim
    · obtain rfl := cand_eq h3 h4 hb l1 l2 (nv s' j' l4)
      have hj : j = j' := by
        rcases Nat.lt_trichotomy j j' with h | h | h
        · exact (h6.2 j' h l4.1).elim
        · exact h
        · exact (l4.2 j h h6.1).elim
      subst hj
      exact .inr (.inr ⟨h1, p, j, rfl, by rw [h7]; exact l5, h8⟩)
    · exact (hb (l1 k t (Nat.zero_le _) h3)).elim

/-- what the loop over a scope's functions has found ahead of j -/
def FW (fs : List (ByteArray × Int × Int)) (nm : ByteArray) (j : Nat) (sk pc : Int) : Prop :=
  (sk = 0 ∧ pc = 0 ∧ ∀ t f, t < j → fs[t]? = some f → ¬ (f.1 = nm ∧ f.2.2 = 0)) ∨
  (sk = 1 ∧ ∃ i f, i < j ∧ fs[i]? = some f ∧ f.1 = nm ∧ f.2.2 = 0 ∧ pc = f.2.1 ∧ ∀ t g, i < t → t < j → fs[t]? = some g → ¬ (g.1 = nm ∧ g.2.2 = 0))
theorem FW.start (fs : List (ByteArray × Int × Int)) (nm : ByteArray) : FW fs nm 0 0 0 := .inl ⟨rfl, rfl, fun t f h => by omega⟩
theorem FW.miss {fs : List (ByteArray × Int × Int)} {nm : ByteArray} {j : Nat} {sk pc : Int} {f : ByteArray × Int × Int} (h : FW fs nm j sk pc) (hf : fs[j]? = some f) (hne : ¬ (f.1 = nm ∧ f.2.2 = 0)) : FW fs nm (j + 1) sk pc := by
  have hx : ∀ g, fs[j]? = some g → ¬ (g.1 = nm ∧ g.2.2 = 0) := fun g hg => by rw [hf] at hg; cases hg; exact hne
  rcases h with ⟨h1, h2, h3⟩ | ⟨h1, i, f', h2, h3, h4, h5, h6, h7⟩
  · exact .inl ⟨h1, h2, fun t g ht hg => by
      rcases Nat.lt_or_ge t j with hlt | hge
      · exact h3 t g hlt hg
      · obtain rfl : t = j := by omega
        exact hx g hg⟩
  · exact .inr ⟨h1, i, f', by omega, h3, h4, h5, h6, fun t g ht1 ht2 hg => by
      rcases Nat.lt_or_ge t j with hlt | hge
      · exact h7 t g ht1 hlt hg
      · obtain rfl : t = j := by omega
        exact hx g hg⟩
theorem FW.hit {fs : List (ByteArray × Int × Int)} {nm : ByteArray} {j : Nat} {sk pc : Int} {f : ByteArray × Int × Int} (h : FW fs nm j sk pc) (hf : fs[j]? = some f) (h1 : f.1 = nm) (h2 : f.2.2 = 0) : FW fs nm (j + 1) 1 f.2.1 :=
  .inr ⟨rfl, j, f, by omega, hf, h1, h2, rfl, fun t g h1 h2 => by omega⟩
theorem FW.done {fs : List (ByteArray × Int × Int)} {nm : ByteArray} {sk pc : Int} (h : FW fs nm fs.length sk pc) : (sk = 0 ∧ pc = 0 ∧ NoFun fs nm 0) ∨ (sk = 1 ∧ ∃ i f, fs[i]? = some f ∧ f.1 = nm ∧ f.2.2 = 0 ∧ pc = f.2.1 ∧ NoFun fs nm (i + 1)) := by
  rcases h with ⟨h1, h2, h3⟩ | ⟨h1, i, f, h2, h3, h4, h5, h6, h7⟩
  · exact .inl ⟨h1, h2, fun t g _ hg => h3 t g (List.getElem?_eq_some_iff.1 hg).1 hg⟩
  · exact .inr ⟨h1, i, f, h3, h4, h5, h6, fun t g ht hg => h7 t g (by omega) (List.getElem?_eq_some_iff.1 hg).1 hg⟩
/-- what the loop over a scope's variables has found ahead of j -/
def VW (vs : List ByteArray) (nm : ByteArray) (id : Int) (j : Nat) (sk a b : Int) : Prop :=
  (sk = 0 ∧ a = 0 ∧ b = 0 ∧ NoneTo vs nm j) ∨ (sk = 2 ∧ a = id ∧ ∃ i : Nat, b = i ∧ i < j ∧ vs[i]? = some nm ∧ ∀ t, i < t → t < j → vs[t]? ≠ some nm)
theorem VW.start (vs : List ByteArray) (nm : ByteArray) (id : Int) : VW vs nm id 0 0 0 0 := .inl ⟨rfl, rfl, rfl, fun t h => by omega⟩
theorem VW.miss {vs : List ByteArray} {nm x : ByteArray} {id : Int} {j : Nat} {sk a b : Int} (h : VW vs nm id j sk a b) (hx : vs[j]? = some x) (hne : ¬ x = nm) : VW vs nm id (j + 1) sk a b := by
  have hn : vs[j]? ≠ some nm := fun e => by rw [hx] at e; cases e; exact hne rfl
  rcases h with ⟨h1, h2, h3, h4⟩ | ⟨h1, h2, i, h3, h4, h5, h6⟩
  · exact .inl ⟨h1, h2, h3, fun t ht => by
      rcases Nat.lt_or_ge t j with hlt | hge
      · exact h4 t hlt
      · obtain rfl : t = j := by omega
        exact hn⟩
  · exact .inr ⟨h1, h2, i, h3, by omega, h5, fun t ht1 ht2 => by
      rcases Nat.lt_or_ge t j with hlt | hge
      · exact h6 t ht1 hlt
      · obtain rfl : t = j := by omega
        exact hn⟩
theorem VW.hit {vs : List ByteArray} {nm : ByteArray} {id : Int} {j : Nat} {sk a b : Int} (h : VW vs nm id j sk a b) (hx : vs[j]? = some nm) : VW vs nm id (j + 1) 2 id j :=
  .inr ⟨rfl, rfl, j, rfl, by omega, hx, fun t h1 h2 => by omega⟩
theorem VW.done {vs : List ByteArray} {nm : ByteArray} {id : Int} {sk a b : Int} (h : VW vs nm id vs.length sk a b) : (sk = 0 ∧ a = 0 ∧ b = 0 ∧ NoneFrom vs nm 0) ∨ (sk = 2 ∧ a = id ∧ ∃ i : Nat, b = i ∧ LastIn vs nm i) := by
  rcases h with ⟨h1, h2, h3, h4⟩ | ⟨h1, h2, i, h3, h4, h5, h6⟩
  · exact .inl ⟨h1, h2, h3, fun t _ e => h4 t (List.getElem?_eq_some_iff.1 e).1 e⟩
  · exact .inr ⟨h1, h2, i, h3, h5, fun t ht e => h6 t ht (List.getElem?_eq_some_iff.1 e).1 e⟩

theorem PS.sub {base bb : Nat} {wc w : World} {L : List Sc} {cnt : Int} {own own' : List (Nat × Array Value × TypeId)} (h : PS base bb wc L cnt own w) (hs : ∀ o, o ∈ own' → o ∈ own) : PS base bb wc L cnt own' w := by
  obtain ⟨⟨col, sv, bs, hC, h1⟩, hb, hz⟩ := h
  exact ⟨⟨col, sv, bs, hC, fun o ho => h1 o (hs o ho)⟩, hb, hz⟩
theorem PS.put {base bb n : Nat} {wc w : World} {L : List Sc} {cnt : Int} {own : List (Nat × Array Value × TypeId)} {cs : Array Value} {t : TypeId} (h : PS base bb wc L cnt ((n, cs, t) :: own) w) (hne : ∀ o ∈ own, o.1 ≠ n) (hn : base ≤ n) (j : Nat) (v : Value) : PS base bb wc L cnt ((n, cs.setIfInBounds j v, t) :: own) (w.setCell ⟨n, j, none⟩ v) := by
  obtain ⟨⟨col, sv, bs, hC, h1⟩, hb, hz⟩ := h
  obtain ⟨hx, hy⟩ := h1 (n, cs, t) List.mem_cons_self
  have hu : Upd (· = n) w (w.setCell ⟨n, j, none⟩ v) := (Upd.refl (· = n) w).setCell (p := ⟨n, j, none⟩) (.inl rfl) v
  refine ⟨⟨col, sv, bs, hC.step hu (fun k hk _ => by rw [hk]; exact hy) (fun _ _ => rfl), fun o ho => ?_⟩, hb.setCell (p := ⟨n, j, none⟩) hn v, by simpa using hz⟩
  rcases List.mem_cons.1 ho with rfl | ho
  · exact ⟨hx.set j v, hy⟩
  · exact ⟨(h1 o (List.mem_cons_of_mem _ ho)).1.other (p := ⟨n, j, none⟩) (hne o ho) v, (h1 o (List.mem_cons_of_mem _ ho)).2⟩
/-- a pair written whole -/
theorem PS.two {base bb n : Nat} {wc w : World} {L : List Sc} {cnt : Int} {own : List (Nat × Array Value × TypeId)} {a b : Int} (h : PS base bb wc L cnt ((n, #[.int .i64 a, .int .i64 b], 50) :: own) w) (hne : ∀ o ∈ own, o.1 ≠ n) (hn : base ≤ n) (c d : Int) : PS base bb wc L cnt ((n, #[.int .i64 c, .int .i64 d], 50) :: own) ((w.setCell ⟨n, 0, none⟩ (.int .i64 c)).setCell ⟨n, 1, none⟩ (.int .i64 d)) := by
  have := PS.put (PS.put h hne hn 0 (.int .i64 c)) hne hn 1 (.int .i64 d)
  simpa using this

theorem funcPc (w : World) (p : Nat) (f : ByteArray × Int × Int) (h : FunAt w p f) : Calls Try.prog 23 #[.pointer (some ⟨p, 0, none⟩)] w fun e w' => e = .returned (.int .i64 f.2.1) ∧ w = w' := by
  have v0 : w.cell? ⟨p, 1, none⟩ = some (.int .i64 f.2.1) := by rw [Blk.cell h]; rfl
  clear h
  go_enter Try.func23, Try.ntmps23
  go_wp2_with fail
  go_ret
  exact ⟨rfl, rfl⟩
theorem funcName (w : World) (p : Nat) (f : ByteArray × Int × Int) (h : FunAt w p f) : Calls Try.prog 24 #[.pointer (some ⟨p, 0, none⟩)] w fun e w' => e = .returned (.string f.1) ∧ w = w' := by
  have v0 : w.cell? ⟨p, 0, none⟩ = some (.string f.1) := by rw [Blk.cell h]; rfl
  clear h
  go_enter Try.func24, Try.ntmps24
  go_wp2_with fail
  go_ret
  exact ⟨rfl, rfl⟩
theorem funcArgcnt (w : World) (p : Nat) (f : ByteArray × Int × Int) (h : FunAt w p f) : Calls Try.prog 25 #[.pointer (some ⟨p, 0, none⟩)] w fun e w' => e = .returned (.int .i64 f.2.2) ∧ w = w' := by
  have v0 : w.cell? ⟨p, 2, none⟩ = some (.int .i64 f.2.2) := by rw [Blk.cell h]; rfl
  clear h
  go_enter Try.func25, Try.ntmps25
  go_wp2_with fail
  go_ret
  exact ⟨rfl, rfl⟩
end Go.Proofs.Ytmfpmpbilekbgaa.pick
