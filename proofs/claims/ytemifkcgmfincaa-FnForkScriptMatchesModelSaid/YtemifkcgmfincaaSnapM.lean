/- The environment beside the model's slices and snapshots in memory: each of its own colour. No walk here. -/
import Derived.Test.YtemifkcgmfincaaSnap
import Derived.Test.YtemifkcgmfincaaWide
set_option linter.unusedVariables false
namespace Go.Proofs.Ytemifkcgmfincaa.snapm
open Go.ChangeShapes Go.WideShapes Go.ChangeAt Go.RowKit
open upd env plain ops forks popf fill init steps snap wide

/-- cells -/
def ic (l : List Int) : List Value := l.map fun (z : Int) => Value.int .i64 z
theorem ic_snoc (l : List Int) (z : Int) : ic (l ++ [z]) = ic l ++ [.int .i64 z] := by simp [ic]
theorem ic_len (l : List Int) : (ic l).length = l.length * 1 := by simp [ic]
theorem ic_one (l : List Int) : ∀ v ∈ ic l, v.oneCell' = true := by intro v hv; simp [ic] at hv; obtain ⟨z, _, rfl⟩ := hv; rfl
def mc (m : Ms) : List Value := [.int .i64 m.1, .int .i64 m.2.1, .int .i64 m.2.2.1, .int .i64 m.2.2.2]
def mcs (l : List Ms) : List Value := l.flatMap mc
theorem mcs_snoc (l : List Ms) (m : Ms) : mcs (l ++ [m]) = mcs l ++ mc m := by simp [mcs]
theorem mcs_len (l : List Ms) : (mcs l).length = l.length * 4 := by
  induction l with
  | nil => rfl
  | cons x r ih => simp only [mcs, List.flatMap_cons, List.length_append, List.length_cons] at *; rw [ih]; simp [mc]; omega
theorem mcs_one (l : List Ms) : ∀ v ∈ mcs l, v.oneCell' = true := by
  intro v hv
  simp only [mcs, List.mem_flatMap] at hv
  obtain ⟨m, _, hm⟩ := hv
  simp only [mc, List.mem_cons, List.not_mem_nil, or_false] at hm
  rcases hm with rfl | rfl | rfl | rfl <;> rfl
theorem mcs_last (l : List Ms) (m : Ms) (j : Nat) (hj : j < 4) : (mcs (l ++ [m]))[l.length * 4 + j]? = (mc m)[j]? := by
  rw [mcs_snoc, List.getElem?_append_right (by rw [mcs_len]; omega), mcs_len]; congr 1; omega
theorem mcs_take (l : List Ms) (m : Ms) : (mcs (l ++ [m])).take (l.length * 4) = mcs l := by
  rw [mcs_snoc, List.take_append_of_le_length (by rw [mcs_len]; omega), List.take_of_length_le (by rw [mcs_len]; omega)]
def pcs (s : Sp) : List Value := [.int .i64 s.pc, s.sv, s.cv, .int .i64 s.off, .int .i64 s.ex, .int .i64 s.ser]
def pcss (l : List Sp) : List Value := l.flatMap pcs
theorem pcss_snoc (l : List Sp) (m : Sp) : pcss (l ++ [m]) = pcss l ++ pcs m := by simp [pcss]
theorem pcss_len (l : List Sp) : (pcss l).length = l.length * 6 := by
  induction l with
  | nil => rfl
  | cons x r ih => simp only [pcss, List.flatMap_cons, List.length_append, List.length_cons] at *; rw [ih]; simp [pcs]; omega
theorem pcss_last (l : List Sp) (m : Sp) (j : Nat) (hj : j < 6) : (pcss (l ++ [m]))[l.length * 6 + j]? = (pcs m)[j]? := by
  rw [pcss_snoc, List.getElem?_append_right (by rw [pcss_len]; omega), pcss_len]; congr 1; omega
theorem pcss_take (l : List Sp) (m : Sp) : (pcss (l ++ [m])).take (l.length * 6) = pcss l := by
  rw [pcss_snoc, List.take_append_of_le_length (by rw [pcss_len]; omega), List.take_of_length_le (by rw [pcss_len]; omega)]

/-- an owned row of colour c -/
structure OwnR (base : Nat) (w : World) (col : Nat → Nat) (c : Nat) (e : TypeId) (size : Nat) (v : Value) (n : Nat) (xs : List Value) : Prop where
  row : w.ownsRow base e size v n xs
  col : Col col c v
section
variable {base c n size : Nat} {e : TypeId} {w w' : World} {col col' : Nat → Nat} {v : Value} {xs : List Value}
theorem OwnR.step (h : OwnR base w col c e size v n xs) (hu : Upd (Mine base col) w w') (hk : ∀ k, k < w.heap.size → col' k = col k) (hc : 10 ≤ c) : OwnR base w' col' c e size v n xs :=
  ⟨own_kept h.row hu (fun g hg m => by have := h.col g hg; have := m.2; omega), h.col.re h.row hk⟩
theorem OwnR.still (h : OwnR base w col c e size v n xs) (hu : Upd (fun _ => False) w w') : OwnR base w' col c e size v n xs := ⟨own_kept h.row hu (fun _ _ h => h), h.col⟩
theorem OwnR.nil (base : Nat) (w : World) (col : Nat → Nat) (c : Nat) (e : TypeId) (size : Nat) : OwnR base w col c e size (.slice none 0 0) 0 [] := ⟨World.ownsRow_nil _ _ _ _, Col.nil _ _⟩
theorem OwnR.other {S : Nat → Prop} {c0 : Nat} (h : OwnR base w col c e size v n xs) (hu : Upd S w w') (hS : ∀ k, S k → col k = c0) (hc : c ≠ c0) (hk : ∀ k, k < w.heap.size → col' k = col k) : OwnR base w' col' c e size v n xs :=
  ⟨own_kept h.row hu (fun g hg hs => hc ((h.col g hg).symm.trans (hS g hs))), h.col.re h.row hk⟩
theorem OwnR.at {g cap : Nat} {j : Nat} {u : Value} (h : OwnR base w col c e size (.slice (some ⟨g, 0, none⟩) n cap) n xs) (hj : xs[j]? = some u) : w.cell? ⟨g, j, none⟩ = some u := by
  have := own_src h.row (Below.refl _ w) j u hj
  rwa [add_none, Nat.zero_add] at this
theorem OwnR.form (h : OwnR base w col c e size v n xs) (hn : 0 < n) : ∃ g cap, v = .slice (some ⟨g, 0, none⟩) n cap ∧ n ≤ cap := by
  rcases own_form h.row with ⟨_, h0, _⟩ | ⟨g, cap, h, _, hn, _⟩
  · omega
  · exact ⟨g, cap, h, hn⟩
/-- it has grown -/
theorem OwnR.grow {g cap H n' : Nat} {ys : List Value} (h : OwnR base w col c e size v n xs) (ho : w'.ownsRow base e size (.slice (some ⟨g, 0, none⟩) n' cap) n' ys) (hat : v.ownBlock = some g ∨ g = H) (hH : w.heap.size ≤ H) :
    ∃ col' : Nat → Nat, (∀ k, k < w.heap.size → col' k = col k) ∧ OwnR base w' col' c e size (.slice (some ⟨g, 0, none⟩) n' cap) n' ys := by
  refine ⟨env.re col g c, re_old (hat.imp (h.col g) (fun e => by omega)), ho, fun k hk => ?_⟩
  have : g = k := by simpa [Value.ownBlock] using hk
  rw [← this]; exact re_new _ _ _
end
theorem Env.recol {base : Nat} {w : World} {eb : Nat} {col col' : Nat → Nat} {s : St} (h : EnvAt base w eb col s) (hk : ∀ k, col k < 10 → col' k = col k) : EnvAt base w eb col' s := by
  obtain ⟨sb, pb, cb, dv, dc, fv, h⟩ := h
  exact ⟨sb, pb, cb, dv, dc, fv, { h with
    ce := by rw [hk _ (by rw [h.ce]; omega)]; exact h.ce
    cs := by rw [hk _ (by rw [h.cs]; omega)]; exact h.cs
    cp := by rw [hk _ (by rw [h.cp]; omega)]; exact h.cp
    cc := by rw [hk _ (by rw [h.cc]; omega)]; exact h.cc
    cd := fun g hg => by rw [hk _ (by rw [h.cd g hg]; omega)]; exact h.cd g hg
    cdc := fun g hg => by rw [hk _ (by rw [h.cdc g hg]; omega)]; exact h.cdc g hg
    cf := fun g hg => by rw [hk _ (by rw [h.cf g hg]; omega)]; exact h.cf g hg }⟩

structure T4 (base eb : Nat) (W w : World) (col : Nat → Nat) (s : St) (va vb vf : Value) (st : List Int) (sc : List Ms) (sps : List Sp) : Prop where
  env : EnvAt base w eb col s
  a : OwnR base w col 11 3 1 va st.length (ic st)
  b : OwnR base w col 12 42 4 vb sc.length (mcs sc)
  f : OwnR base w col 13 40 6 vf sps.length (pcss sps)
  sn : ∀ (i : Nat) sp, sps[i]? = some sp → OwnR base w col (20 + 2 * i) 3 1 sp.sv sp.st.length (ic sp.st) ∧ OwnR base w col (21 + 2 * i) 42 4 sp.cv sp.sc.length (mcs sp.sc)
  bel : Below base W w
  sz : base ≤ w.heap.size
/-- with the colours hidden -/
def FT (base eb : Nat) (W w : World) (s : St) (va vb vf : Value) (st : List Int) (sc : List Ms) (sps : List Sp) : Prop := ∃ col, T4 base eb W w col s va vb vf st sc sps
section
variable {base eb : Nat} {W w w' : World} {col : Nat → Nat} {s s' : St} {va vb vf : Value} {st : List Int} {sc : List Ms} {sps : List Sp}
theorem FT.start (h : steps.At w.heap.size eb w w' s) : FT w.heap.size eb w w' s (.slice none 0 0) (.slice none 0 0) (.slice none 0 0) [] [] [] := by
  obtain ⟨⟨col, h⟩, hb, hz⟩ := h
  exact ⟨col, h, OwnR.nil _ _ _ _ _ _, OwnR.nil _ _ _ _ _ _, OwnR.nil _ _ _ _ _ _, fun i sp hi => by simp at hi, hb, hz⟩
theorem FT.at (h : FT base eb W w s va vb vf st sc sps) : steps.At base eb W w s := by
  obtain ⟨col, h⟩ := h
  exact ⟨⟨col, h.env⟩, h.bel, h.sz⟩
theorem T4.nxt (h : T4 base eb W w col s va vb vf st sc sps) (hn : Nxt base eb w col s' w') : FT base eb W w' s' va vb vf st sc sps := by
  obtain ⟨col', h1, hk, hu⟩ := hn
  exact ⟨col', h1, h.a.step hu hk (by omega), h.b.step hu hk (by omega), h.f.step hu hk (by omega), fun i sp hi => ⟨(h.sn i sp hi).1.step hu hk (by omega), (h.sn i sp hi).2.step hu hk (by omega)⟩, h.bel.trans (Mine.below hu (Nat.le_refl _) h.sz), Nat.le_trans h.sz hu.size⟩
theorem T4.still (h : T4 base eb W w col s va vb vf st sc sps) (hu : Upd (fun _ => False) w w') : T4 base eb W w' col s va vb vf st sc sps :=
  ⟨h.env.still hu, h.a.still hu, h.b.still hu, h.f.still hu, fun i sp hi => ⟨(h.sn i sp hi).1.still hu, (h.sn i sp hi).2.still hu⟩, h.bel.trans (hu.below h.sz (fun _ h => h.elim)), Nat.le_trans h.sz hu.size⟩
theorem FT.still (h : FT base eb W w s va vb vf st sc sps) (hu : Upd (fun _ => False) w w') : FT base eb W w' s va vb vf st sc sps := by
  obtain ⟨col, h⟩ := h
  exact ⟨col, h.still hu⟩
theorem FT.ownA (h : FT base eb W w s va vb vf st sc sps) : w.ownsRow base 3 1 va st.length (ic st) := by obtain ⟨col, h⟩ := h; exact h.a.row
theorem FT.ownB (h : FT base eb W w s va vb vf st sc sps) : w.ownsRow base 42 4 vb sc.length (mcs sc) := by obtain ⟨col, h⟩ := h; exact h.b.row
theorem FT.ownF (h : FT base eb W w s va vb vf st sc sps) : w.ownsRow base 40 6 vf sps.length (pcss sps) := by obtain ⟨col, h⟩ := h; exact h.f.row
theorem FT.appA {g cap H : Nat} {z : Int} {o : Obj} (h : FT base eb W w s va vb vf st sc sps)
    (ho : w'.ownsRow base 3 1 (.slice (some ⟨g, 0, none⟩) (st.length + 1) cap) (st.length + 1) (ic st ++ [.int .i64 z])) (hg : (w.alloc o).grownBy w' va.ownBlock) (hat : va.ownBlock = some g ∨ g = H) (hH : (w.alloc o).heap.size ≤ H) : FT base eb W w' s (.slice (some ⟨g, 0, none⟩) (st.length + 1) cap) vb vf (st ++ [z]) sc sps := by
  obtain ⟨col, h⟩ := h.still ((Upd.refl _ w).alloc o)
  have hu : Upd (fun k => va.ownBlock = some k) (w.alloc o) w' := (Upd.refl _ _).grown hg (fun k hk => .inl hk)
  have hS : ∀ k, va.ownBlock = some k → col k = 11 := h.a.col
  obtain ⟨col', hk, h1⟩ := h.a.grow ho hat hH
  rw [← ic_snoc] at h1
  refine ⟨col', h.env.frame hu (fun k _ hk2 hs => by have := hS k hs; omega) hk, by rw [List.length_append]; exact h1, h.b.other hu hS (by omega) hk, h.f.other hu hS (by omega) hk, fun i sp hi => ⟨(h.sn i sp hi).1.other hu hS (by omega) hk, (h.sn i sp hi).2.other hu hS (by omega) hk⟩, h.bel.grown hg h.sz (fun q hq => (h.a.row.lt q hq).1), Nat.le_trans h.sz hg.size⟩
theorem FT.appB {g cap H : Nat} {m : Ms} {o : Obj} (h : FT base eb W w s va vb vf st sc sps)
    (ho : w'.ownsRow base 42 4 (.slice (some ⟨g, 0, none⟩) (sc.length + 1) cap) (sc.length + 1) (mcs sc ++ mc m)) (hg : (w.alloc o).grownBy w' vb.ownBlock) (hat : vb.ownBlock = some g ∨ g = H) (hH : (w.alloc o).heap.size ≤ H) : FT base eb W w' s va (.slice (some ⟨g, 0, none⟩) (sc.length + 1) cap) vf st (sc ++ [m]) sps := by
  obtain ⟨col, h⟩ := h.still ((Upd.refl _ w).alloc o)
  have hu : Upd (fun k => vb.ownBlock = some k) (w.alloc o) w' := (Upd.refl _ _).grown hg (fun k hk => .inl hk)
  have hS : ∀ k, vb.ownBlock = some k → col k = 12 := h.b.col
  obtain ⟨col', hk, h1⟩ := h.b.grow ho hat hH
  rw [← mcs_snoc] at h1
  refine ⟨col', h.env.frame hu (fun k _ hk2 hs => by have := hS k hs; omega) hk, h.a.other hu hS (by omega) hk, by rw [List.length_append]; exact h1, h.f.other hu hS (by omega) hk, fun i sp hi => ⟨(h.sn i sp hi).1.other hu hS (by omega) hk, (h.sn i sp hi).2.other hu hS (by omega) hk⟩, h.bel.grown hg h.sz (fun q hq => (h.b.row.lt q hq).1), Nat.le_trans h.sz hg.size⟩
/-- a snapshot is laid: its two slices are copies made since -/
theorem FT.appF {g cap H z1 z2 : Nat} {sp : Sp} {w1 : World} {o : Obj} (h : FT base eb W w s va vb vf st sc sps) (hb : Below w.heap.size w w1)
    (o1 : w1.ownsRow z1 3 1 sp.sv sp.st.length (ic sp.st)) (hz1 : w.heap.size ≤ z1) (o2 : w1.ownsRow z2 42 4 sp.cv sp.sc.length (mcs sp.sc)) (hz2 : ∀ k, sp.sv.ownBlock = some k → k < z2) (hz : w.heap.size ≤ z2)
    (ho : w'.ownsRow base 40 6 (.slice (some ⟨g, 0, none⟩) (sps.length + 1) cap) (sps.length + 1) (pcss sps ++ pcs sp)) (hg : (w1.alloc o).grownBy w' vf.ownBlock) (hat : vf.ownBlock = some g ∨ g = H) (hH : (w1.alloc o).heap.size ≤ H) : FT base eb W w' s va vb (.slice (some ⟨g, 0, none⟩) (sps.length + 1) cap) st sc (sps ++ [sp]) := by
  obtain ⟨col, h0⟩ := h
  have hu0 : Upd (fun _ => False) w (w1.alloc o) := (Upd.of_below hb).alloc o
  have h := h0.still hu0
  have hu : Upd (fun k => vf.ownBlock = some k) (w1.alloc o) w' := (Upd.refl _ _).grown hg (fun k hk => .inl hk)
  have hS : ∀ k, vf.ownBlock = some k → col k = 13 := h.f.col
  have hf0 : ∀ k, vf.ownBlock = some k → k < w.heap.size := fun k hk => (h0.f.row.lt k hk).2
  have hw1 : w1.heap.size < (w1.alloc o).heap.size := by simp
  have l1 : ∀ k, sp.sv.ownBlock = some k → w.heap.size ≤ k ∧ k < w1.heap.size := fun k hk => ⟨Nat.le_trans hz1 (o1.lt k hk).1, (o1.lt k hk).2⟩
  have l2 : ∀ k, sp.cv.ownBlock = some k → w.heap.size ≤ k ∧ k < w1.heap.size ∧ z2 ≤ k := fun k hk => ⟨Nat.le_trans hz (o2.lt k hk).1, (o2.lt k hk).2, (o2.lt k hk).1⟩
  have hgn : ¬ (w.heap.size ≤ g ∧ g < w1.heap.size) := by
    rcases hat with e | e
    · have := hf0 g e; omega
    · omega
  obtain ⟨col', hc'⟩ : ∃ col' : Nat → Nat, ∀ k, col' k = if k = g then 13 else if sp.sv.ownBlock = some k then 20 + 2 * sps.length else if sp.cv.ownBlock = some k then 21 + 2 * sps.length else col k := ⟨_, fun _ => rfl⟩
  have hk : ∀ k, k < w.heap.size → col' k = col k := fun k hlt => by
    rw [hc']
    by_cases e : k = g
    · rw [if_pos e]
      rcases hat with e2 | e2
      · rw [e]; exact (hS g e2).symm
      · have := hb.size; omega
    · rw [if_neg e, if_neg (fun e2 => by have := l1 k e2; omega), if_neg (fun e2 => by have := l2 k e2; omega)]
  have hbz := hb.size
  -- colours of all that lay before
  have hu2 : Upd (fun k => vf.ownBlock = some k) w w' := (hu0.mono (fun _ _ h => h.elim)).trans hu
  have n1 : ∀ k, sp.sv.ownBlock = some k → ¬ vf.ownBlock = some k := fun k e1 e2 => by have := l1 k e1; have := hf0 k e2; omega
  have n2 : ∀ k, sp.cv.ownBlock = some k → ¬ vf.ownBlock = some k := fun k e1 e2 => by have := l2 k e1; have := hf0 k e2; omega
  have wk : ∀ {e size v n xs} {z : Nat}, base ≤ z → World.ownsRow w' z e size v n xs → World.ownsRow w' base e size v n xs := fun hbz' ⟨h1, h2⟩ => ⟨h1, h2.imp id (fun ⟨g, cap, cur, a1, a2, a3⟩ => ⟨g, cap, cur, a1, Nat.le_trans hbz' a2, a3⟩)⟩
  have q1 : w'.ownsRow base 3 1 sp.sv sp.st.length (ic sp.st) := wk (Nat.le_trans h0.sz hz1) (own_kept (own_kept o1 ((Upd.refl (fun _ => False) _).alloc o) (fun _ _ h => h)) hu n1)
  have q2 : w'.ownsRow base 42 4 sp.cv sp.sc.length (mcs sp.sc) := wk (Nat.le_trans h0.sz hz) (own_kept (own_kept o2 ((Upd.refl (fun _ => False) _).alloc o) (fun _ _ h => h)) hu n2)
  refine ⟨col', h0.env.frame hu2 (fun k _ hk2 hs => by have := hS k hs; omega) hk, h0.a.other hu2 hS (by omega) hk, h0.b.other hu2 hS (by omega) hk, ⟨by rw [List.length_append, pcss_snoc]; exact ho, fun k hk => ?_⟩, fun i x hi => ?_, h.bel.grown hg h.sz (fun q hq => (h.f.row.lt q hq).1), Nat.le_trans h.sz hg.size⟩
  · have : g = k := by simpa [Value.ownBlock] using hk
    rw [← this, hc', if_pos rfl]
  · by_cases hi2 : i < sps.length
    · rw [List.getElem?_append_left hi2] at hi
      exact ⟨(h0.sn i x hi).1.other hu2 hS (by omega) hk, (h0.sn i x hi).2.other hu2 hS (by omega) hk⟩
    · have hi3 : i = sps.length := by have := (List.getElem?_eq_some_iff.1 hi).1; simp at this; omega
      subst hi3
      simp at hi
      subst hi
      refine ⟨⟨q1, fun k e1 => ?_⟩, ⟨q2, fun k e1 => ?_⟩⟩
      · have := l1 k e1
        rw [hc', if_neg (fun e => by subst e; exact hgn this), if_pos e1]
      · have := l2 k e1
        rw [hc', if_neg (fun e => by subst e; exact hgn ⟨this.1, this.2.1⟩), if_neg (fun e2 => by have := hz2 k e2; omega), if_pos e1]
/-- the last snapshot's slices serve again -/
theorem FT.popF {g cap : Nat} {sp : Sp} {r : List Sp} (h : FT base eb W w s va vb (.slice (some ⟨g, 0, none⟩) (r.length + 1) cap) st sc (r ++ [sp])) : FT base eb W w s sp.sv sp.cv (.slice (some ⟨g, 0, none⟩) r.length cap) sp.st sp.sc r := by
  obtain ⟨col, h⟩ := h
  obtain ⟨h1, h2⟩ := h.sn r.length sp (by simp)
  obtain ⟨col', hc'⟩ : ∃ col' : Nat → Nat, ∀ k, col' k = if col k = 20 + 2 * r.length then 11 else if col k = 21 + 2 * r.length then 12 else if col k = 11 ∨ col k = 12 then 99 + 2 * r.length + 100 else col k := ⟨_, fun _ => rfl⟩
  have hk : ∀ k c, col k = c → c ≠ 11 → c ≠ 12 → c < 20 + 2 * r.length → col' k = c := fun k c e e1 e2 e3 => by
    rw [hc', e, if_neg (by omega), if_neg (by omega), if_neg (by omega)]
  refine ⟨col', Env.recol h.env (fun k hl => hk k _ rfl (by omega) (by omega) (by omega)), ⟨h1.row, fun k e => by rw [hc', if_pos (h1.col k e)]⟩, ⟨h2.row, fun k e => by rw [hc', if_neg (by rw [h2.col k e]; omega), if_pos (h2.col k e)]⟩, ⟨?_, fun k e => hk k 13 (h.f.col k e) (by omega) (by omega) (by omega)⟩, fun i x hi => ?_, h.bel, h.sz⟩
  · have hr := h.f.row
    have hl : (r ++ [sp]).length = r.length + 1 := by simp
    rw [hl] at hr
    have := own_cut hr (m := r.length) (by omega)
    rwa [pcss_take] at this
  · have hil := (List.getElem?_eq_some_iff.1 hi).1
    obtain ⟨k1, k2⟩ := h.sn i x (by rw [List.getElem?_append_left hil]; exact hi)
    exact ⟨⟨k1.row, fun k e => hk k _ (k1.col k e) (by omega) (by omega) (by omega)⟩, ⟨k2.row, fun k e => hk k _ (k2.col k e) (by omega) (by omega) (by omega)⟩⟩
theorem FT.cutA {g cap : Nat} {v : Int} {r : List Int} (h : FT base eb W w s (.slice (some ⟨g, 0, none⟩) (r.length + 1) cap) vb vf (r ++ [v]) sc sps) : FT base eb W w s (.slice (some ⟨g, 0, none⟩) r.length cap) vb vf r sc sps := by
  obtain ⟨col, h⟩ := h
  refine ⟨col, h.env, ⟨?_, fun k e => h.a.col k e⟩, h.b, h.f, h.sn, h.bel, h.sz⟩
  have hr := h.a.row
  have hl : (r ++ [v]).length = r.length + 1 := by simp
  rw [hl] at hr
  have := own_cut hr (m := r.length) (by omega)
  rwa [ic_snoc, Nat.mul_one, List.take_append_of_le_length (by simp [ic]), List.take_of_length_le (by simp [ic])] at this
theorem FT.cutB {g cap : Nat} {m : Ms} {r : List Ms} (h : FT base eb W w s va (.slice (some ⟨g, 0, none⟩) (r.length + 1) cap) vf st (r ++ [m]) sps) : FT base eb W w s va (.slice (some ⟨g, 0, none⟩) r.length cap) vf st r sps := by
  obtain ⟨col, h⟩ := h
  refine ⟨col, h.env, h.a, ⟨?_, fun k e => h.b.col k e⟩, h.f, h.sn, h.bel, h.sz⟩
  have hr := h.b.row
  have hl : (r ++ [m]).length = r.length + 1 := by simp
  rw [hl] at hr
  have := own_cut hr (m := r.length) (by omega)
  rwa [mcs_take] at this
theorem FT.formA (h : FT base eb W w s va vb vf st sc sps) : ∃ ao cp, va = .slice ao st.length cp := own_slice h.ownA
theorem FT.formB (h : FT base eb W w s va vb vf st sc sps) : ∃ ao cp, vb = .slice ao sc.length cp := own_slice h.ownB
theorem FT.formF (h : FT base eb W w s va vb vf st sc sps) : ∃ ao cp, vf = .slice ao sps.length cp := own_slice h.ownF
theorem FT.lastA {v : Int} {r : List Int} (h : FT base eb W w s va vb vf (r ++ [v]) sc sps) : ∃ g cap, va = .slice (some ⟨g, 0, none⟩) (r.length + 1) cap ∧ r.length + 1 ≤ cap := by
  obtain ⟨col, h⟩ := h
  obtain ⟨g, cap, e, hn⟩ := h.a.form (by simp)
  exact ⟨g, cap, by rw [e]; simp, by simpa using hn⟩
theorem FT.lastB {m : Ms} {r : List Ms} (h : FT base eb W w s va vb vf st (r ++ [m]) sps) : ∃ g cap, vb = .slice (some ⟨g, 0, none⟩) (r.length + 1) cap ∧ r.length + 1 ≤ cap := by
  obtain ⟨col, h⟩ := h
  obtain ⟨g, cap, e, hn⟩ := h.b.form (by simp)
  exact ⟨g, cap, by rw [e]; simp, by simpa using hn⟩
theorem FT.lastF {sp : Sp} {r : List Sp} (h : FT base eb W w s va vb vf st sc (r ++ [sp])) : ∃ g cap, vf = .slice (some ⟨g, 0, none⟩) (r.length + 1) cap ∧ r.length + 1 ≤ cap := by
  obtain ⟨col, h⟩ := h
  obtain ⟨g, cap, e, hn⟩ := h.f.form (by simp)
  exact ⟨g, cap, by rw [e]; simp, by simpa using hn⟩
theorem FT.cellA {g cap : Nat} {v : Int} {r : List Int} (h : FT base eb W w s (.slice (some ⟨g, 0, none⟩) (r.length + 1) cap) vb vf (r ++ [v]) sc sps) : w.cell? ⟨g, r.length, none⟩ = some (.int .i64 v) := by
  obtain ⟨col, h⟩ := h
  have ha := h.a
  rw [show (r ++ [v]).length = r.length + 1 by simp] at ha
  exact ha.at (by simp [ic])
theorem FT.cellB {g cap : Nat} {m : Ms} {r : List Ms} (h : FT base eb W w s va (.slice (some ⟨g, 0, none⟩) (r.length + 1) cap) vf st (r ++ [m]) sps) : ∀ j, j < 4 → w.cell? ⟨g, r.length * 4 + j, none⟩ = (mc m)[j]? := by
  intro j hj
  obtain ⟨col, h⟩ := h
  have ha := h.b
  rw [show (r ++ [m]).length = r.length + 1 by simp] at ha
  have hm : (mc m)[j]? = some ((mc m)[j]'(by simp [mc]; omega)) := List.getElem?_eq_getElem _
  rw [hm]
  exact ha.at ((mcs_last r m j hj).trans hm)
theorem FT.cellF {g cap : Nat} {sp : Sp} {r : List Sp} (h : FT base eb W w s va vb (.slice (some ⟨g, 0, none⟩) (r.length + 1) cap) st sc (r ++ [sp])) : ∀ j, j < 6 → w.cell? ⟨g, r.length * 6 + j, none⟩ = (pcs sp)[j]? := by
  intro j hj
  obtain ⟨col, h⟩ := h
  have ha := h.f
  rw [show (r ++ [sp]).length = r.length + 1 by simp] at ha
  have hm : (pcs sp)[j]? = some ((pcs sp)[j]'(by simp [pcs]; omega)) := List.getElem?_eq_getElem _
  rw [hm]
  exact ha.at ((pcss_last r sp j hj).trans hm)
end
end Go.Proofs.Ytemifkcgmfincaa.snapm
