/- An environment beside three slices of numbers that a law keeps of its own: no two of them share a block. -/
import Derived.Test.YtemifkcgmfincaaSteps
import Derived.Laws.AppendOwn
import Derived.Deep.AppendLies
set_option linter.unusedVariables false
namespace Go.Proofs.Ytemifkcgmfincaa.tri
open Go.ChangeShapes Go.WideShapes Go.ChangeAt Go.RowKit
open upd env plain ops forks popf fill init steps

/-- numbers as values -/
def ic (l : List Int) : List Value := l.map fun (z : Int) => Value.int .i64 z
theorem ic_snoc (l : List Int) (z : Int) : ic (l ++ [z]) = ic l ++ [.int .i64 z] := by simp [ic]
theorem ic_len (l : List Int) : (ic l).length = l.length := by simp [ic]
theorem ic_take (l : List Int) (n : Nat) : ic (l.take n) = (ic l).take n := by simp [ic, List.map_take]

/-- a slice of the law's own -/
structure Own (base : Nat) (w : World) (col : Nat → Nat) (c : Nat) (v : Value) (l : List Int) : Prop where
  row : w.ownsRow base 3 1 v l.length (ic l)
  col : Col col c v
theorem Own.step {base c : Nat} {w w' : World} {col col' : Nat → Nat} {v : Value} {l : List Int} (h : Own base w col c v l) (hu : Upd (Mine base col) w w') (hk : ∀ k, k < w.heap.size → col' k = col k) (hc : 10 ≤ c) : Own base w' col' c v l :=
  ⟨own_kept h.row hu (fun g hg m => by have := h.col g hg; have := m.2; omega), h.col.re h.row hk⟩
theorem Own.still {base c : Nat} {w w' : World} {col : Nat → Nat} {v : Value} {l : List Int} (h : Own base w col c v l) (hu : Upd (fun _ => False) w w') : Own base w' col c v l :=
  ⟨own_kept h.row hu (fun _ _ h => h), h.col⟩
theorem Own.nil (base : Nat) (w : World) (col : Nat → Nat) (c : Nat) : Own base w col c (.slice none 0 0) [] := ⟨World.ownsRow_nil _ _ _ _, Col.nil _ _⟩
theorem Own.form {base c : Nat} {w : World} {col : Nat → Nat} {v : Value} {l : List Int} (h : Own base w col c v l) : ∃ ao cp, v = .slice ao l.length cp := own_slice h.row
/-- another slice has grown -/
theorem Own.other {base c c2 : Nat} {w w' : World} {col col' : Nat → Nat} {v v2 : Value} {l : List Int} (h : Own base w col c v l) (hg : w.grownBy w' v2.ownBlock) (h2 : Col col c2 v2) (hc : c ≠ c2) (hk : ∀ k, k < w.heap.size → col' k = col k) : Own base w' col' c v l := by
  have hu : Upd (fun k => v2.ownBlock = some k) w w' := (Upd.refl _ w).grown hg (fun k hk => .inl hk)
  exact ⟨own_kept h.row hu (fun g hg hs => hc ((h.col g hg).symm.trans (h2 g hs))), h.col.re h.row hk⟩
theorem Own.at {base c : Nat} {w : World} {col : Nat → Nat} {v : Value} {l : List Int} {j : Nat} {z : Int} (h : Own base w col c v l) (hj : l[j]? = some z) :
    ∃ g cp, v = .slice (some ⟨g, 0, none⟩) l.length cp ∧ l.length ≤ cp ∧ w.cell? ⟨g, j, none⟩ = some (.int .i64 z) := by
  have hjl := (List.getElem?_eq_some_iff.1 hj).1
  rcases own_form h.row with ⟨_, h0, _⟩ | ⟨g, cap, rfl, hb, hn, hlt⟩
  · omega
  · refine ⟨g, cap, rfl, hn, ?_⟩
    rw [h.row.cellAt j (by omega)]; simp [ic, hj]
theorem Own.cell {base c g cp : Nat} {w : World} {col : Nat → Nat} {l : List Int} {j : Nat} {z : Int} (h : Own base w col c (.slice (some ⟨g, 0, none⟩) l.length cp) l) (hj : l[j]? = some z) : w.cell? ⟨g, j, none⟩ = some (.int .i64 z) := by
  obtain ⟨g', cp', e, _, hc⟩ := h.at hj
  simp only [Value.slice.injEq, Option.some.injEq, Addr.mk.injEq, and_true, true_and] at e
  obtain ⟨rfl, _⟩ := e
  exact hc
/-- its last element is cut off -/
theorem Own.cut {base c g cp : Nat} {w : World} {col : Nat → Nat} {l : List Int} {m : Nat} (h : Own base w col c (.slice (some ⟨g, 0, none⟩) l.length cp) l) (hm : m ≤ l.length) : Own base w col c (.slice (some ⟨g, 0, none⟩) m cp) (l.take m) := by
  refine ⟨?_, fun k hk => h.col k hk⟩
  have := own_cut h.row hm
  rw [Nat.mul_one, ← ic_take] at this
  rw [List.length_take, Nat.min_eq_left hm]; exact this

structure T3 (base eb : Nat) (W w : World) (col : Nat → Nat) (s : St) (va vb vc : Value) (la lb lc : List Int) : Prop where
  env : EnvAt base w eb col s
  a : Own base w col 11 va la
  b : Own base w col 12 vb lb
  c : Own base w col 13 vc lc
  bel : Below base W w
  sz : base ≤ w.heap.size
/-- with the colours hidden -/
def Tri (base eb : Nat) (W w : World) (s : St) (va vb vc : Value) (la lb lc : List Int) : Prop := ∃ col, T3 base eb W w col s va vb vc la lb lc
theorem Tri.start {eb : Nat} {w w' : World} {s : St} (h : steps.At w.heap.size eb w w' s) : Tri w.heap.size eb w w' s (.slice none 0 0) (.slice none 0 0) (.slice none 0 0) [] [] [] := by
  obtain ⟨⟨col, h⟩, hb, hz⟩ := h
  exact ⟨col, h, Own.nil _ _ _ _, Own.nil _ _ _ _, Own.nil _ _ _ _, hb, hz⟩
theorem Tri.at {base eb : Nat} {W w : World} {s : St} {va vb vc : Value} {la lb lc : List Int} (h : Tri base eb W w s va vb vc la lb lc) : steps.At base eb W w s := by
  obtain ⟨col, h⟩ := h
  exact ⟨⟨col, h.env⟩, h.bel, h.sz⟩
/-- a method of the environment has run -/
theorem T3.nxt {base eb : Nat} {W w w' : World} {col : Nat → Nat} {s s' : St} {va vb vc : Value} {la lb lc : List Int} (h : T3 base eb W w col s va vb vc la lb lc) (hn : Nxt base eb w col s' w') : Tri base eb W w' s' va vb vc la lb lc := by
  obtain ⟨col', h1, hk, hu⟩ := hn
  exact ⟨col', h1, h.a.step hu hk (by omega), h.b.step hu hk (by omega), h.c.step hu hk (by omega), h.bel.trans (Mine.below hu (Nat.le_refl _) h.sz), Nat.le_trans h.sz hu.size⟩
theorem Tri.still {base eb : Nat} {W w w' : World} {s : St} {va vb vc : Value} {la lb lc : List Int} (h : Tri base eb W w s va vb vc la lb lc) (hu : Upd (fun _ => False) w w') : Tri base eb W w' s va vb vc la lb lc := by
  obtain ⟨col, h⟩ := h
  exact ⟨col, h.env.still hu, h.a.still hu, h.b.still hu, h.c.still hu, h.bel.trans (hu.below h.sz (fun _ h => h.elim)), Nat.le_trans h.sz hu.size⟩
/-- a slice of colour c has grown: where it lies now gets the colour -/
theorem grow_col {base c g cap H : Nat} {w w' : World} {col : Nat → Nat} {v : Value} {l : List Int} {z : Int} (h : Own base w col c v l) (ho : w'.ownsRow base 3 1 (.slice (some ⟨g, 0, none⟩) (l.length + 1) cap) (l.length + 1) (ic l ++ [.int .i64 z])) (hat : v.ownBlock = some g ∨ g = H) (hH : w.heap.size ≤ H) :
    ∃ col' : Nat → Nat, (∀ k, k < w.heap.size → col' k = col k) ∧ Own base w' col' c (.slice (some ⟨g, 0, none⟩) (l.length + 1) cap) (l ++ [z]) := by
  have hr : w'.ownsRow base 3 1 (.slice (some ⟨g, 0, none⟩) (l.length + 1) cap) (l ++ [z]).length (ic (l ++ [z])) := by rw [ic_snoc, List.length_append]; exact ho
  refine ⟨env.re col g c, re_old (hat.imp (h.col g) (fun e => by omega)), hr, fun k hk => ?_⟩
  have : g = k := by simpa [Value.ownBlock] using hk
  rw [← this]; exact re_new _ _ _
theorem env_grown {base eb c : Nat} {w w' : World} {col col' : Nat → Nat} {v : Value} {s : St} (h : EnvAt base w eb col s) (hg : w.grownBy w' v.ownBlock) (h2 : Col col c v) (hc : 10 ≤ c) (hk : ∀ k, k < w.heap.size → col' k = col k) : EnvAt base w' eb col' s :=
  h.frame (S := fun k => v.ownBlock = some k) ((Upd.refl _ w).grown hg (fun k hk => .inl hk)) (fun k _ hk2 hs => by have := h2 k hs; omega) hk
theorem T3.bel_grown {base : Nat} {W w w' : World} {v : Value} {n : Nat} {xs : List Value} (hb : Below base W w) (hz : base ≤ w.heap.size) (ho : w.ownsRow base 3 1 v n xs) (hg : w.grownBy w' v.ownBlock) : Below base W w' :=
  hb.grown hg hz (fun q hq => (ho.lt q hq).1)
theorem Tri.appA {base eb g cap H : Nat} {W w w' : World} {s : St} {va vb vc : Value} {la lb lc : List Int} {z : Int} {o : Obj} (h : Tri base eb W w s va vb vc la lb lc)
    (ho : w'.ownsRow base 3 1 (.slice (some ⟨g, 0, none⟩) (la.length + 1) cap) (la.length + 1) (ic la ++ [.int .i64 z])) (hg : (w.alloc o).grownBy w' va.ownBlock) (hat : va.ownBlock = some g ∨ g = H) (hH : (w.alloc o).heap.size ≤ H) : Tri base eb W w' s (.slice (some ⟨g, 0, none⟩) (la.length + 1) cap) vb vc (la ++ [z]) lb lc := by
  obtain ⟨col, h⟩ := (h.still ((Upd.refl _ w).alloc o))
  obtain ⟨col', hk, h1⟩ := grow_col h.a ho hat hH
  exact ⟨col', env_grown h.env hg h.a.col (by omega) hk, h1, h.b.other hg h.a.col (by omega) hk, h.c.other hg h.a.col (by omega) hk, T3.bel_grown h.bel h.sz h.a.row hg, Nat.le_trans h.sz hg.size⟩
theorem Tri.appB {base eb g cap H : Nat} {W w w' : World} {s : St} {va vb vc : Value} {la lb lc : List Int} {z : Int} {o : Obj} (h : Tri base eb W w s va vb vc la lb lc)
    (ho : w'.ownsRow base 3 1 (.slice (some ⟨g, 0, none⟩) (lb.length + 1) cap) (lb.length + 1) (ic lb ++ [.int .i64 z])) (hg : (w.alloc o).grownBy w' vb.ownBlock) (hat : vb.ownBlock = some g ∨ g = H) (hH : (w.alloc o).heap.size ≤ H) : Tri base eb W w' s va (.slice (some ⟨g, 0, none⟩) (lb.length + 1) cap) vc la (lb ++ [z]) lc := by
  obtain ⟨col, h⟩ := (h.still ((Upd.refl _ w).alloc o))
  obtain ⟨col', hk, h1⟩ := grow_col h.b ho hat hH
  exact ⟨col', env_grown h.env hg h.b.col (by omega) hk, h.a.other hg h.b.col (by omega) hk, h1, h.c.other hg h.b.col (by omega) hk, T3.bel_grown h.bel h.sz h.b.row hg, Nat.le_trans h.sz hg.size⟩
theorem Tri.appC {base eb g cap H : Nat} {W w w' : World} {s : St} {va vb vc : Value} {la lb lc : List Int} {z : Int} {o : Obj} (h : Tri base eb W w s va vb vc la lb lc)
    (ho : w'.ownsRow base 3 1 (.slice (some ⟨g, 0, none⟩) (lc.length + 1) cap) (lc.length + 1) (ic lc ++ [.int .i64 z])) (hg : (w.alloc o).grownBy w' vc.ownBlock) (hat : vc.ownBlock = some g ∨ g = H) (hH : (w.alloc o).heap.size ≤ H) : Tri base eb W w' s va vb (.slice (some ⟨g, 0, none⟩) (lc.length + 1) cap) la lb (lc ++ [z]) := by
  obtain ⟨col, h⟩ := (h.still ((Upd.refl _ w).alloc o))
  obtain ⟨col', hk, h1⟩ := grow_col h.c ho hat hH
  exact ⟨col', env_grown h.env hg h.c.col (by omega) hk, h.a.other hg h.c.col (by omega) hk, h.b.other hg h.c.col (by omega) hk, h1, T3.bel_grown h.bel h.sz h.c.row hg, Nat.le_trans h.sz hg.size⟩

/-- the scope stack holds just these offsets, pcs and saves; no fork stands -/
structure Lf (s : St) (la lb lc : List Int) : Prop where
  cl : s.cl = -1
  ci : s.ci = (la.length : Int) - 1
  hb : lb.length = la.length
  hc : lc.length = la.length
  len : la.length ≤ s.C.length
  ent : ∀ i, i < la.length → s.C[i]? = some ((0, la.getD i 0, lb.getD i 0, lc.getD i 0, -1), (i : Int) - 1)
theorem Lf.wf {s : St} {la lb lc : List Int} (h : Lf s la lb lc) : Wf s.C s.ci s.cl := by
  refine ⟨by rw [h.cl]; omega, by rw [h.cl]; omega, ?_⟩
  rw [h.ci]
  have : ∀ n, n ≤ la.length → ∃ l, Ch s.C ((n : Int) - 1) l := by
    intro n
    induction n with
    | zero => exact fun _ => ⟨[], .nil⟩
    | succ n ih =>
      intro hn
      obtain ⟨l, hl⟩ := ih (by omega)
      have e3 : ((n + 1 : Nat) : Int) - 1 = n := by omega
      rw [e3]
      exact ⟨_, .cons (h.ent n (by omega)) (by omega) hl⟩
  exact this _ (Nat.le_refl _)
theorem getD_snoc (l : List Int) (z : Int) (i : Nat) : (l ++ [z]).getD i 0 = if i < l.length then l.getD i 0 else if i = l.length then z else 0 := by
  by_cases h : i < l.length
  · rw [if_pos h]; simp [List.getD, List.getElem?_append_left h]
  · rw [if_neg h]
    by_cases e : i = l.length
    · rw [if_pos e, e]; simp [List.getD]
    · rw [if_neg e]; simp only [List.getD]; rw [List.getElem?_eq_none (by simp; omega)]; rfl
theorem getD_take (l : List Int) (n i : Nat) (h : i < n) : (l.take n).getD i 0 = l.getD i 0 := by
  simp [List.getD, h]
theorem Lf.topq {s : St} {la lb lc : List Int} (h : Lf s la lb lc) : top s.ci s.cl = la.length := by
  rw [h.ci, h.cl]; unfold plain.top; omega
theorem Lf.push {s : St} {la lb lc : List Int} (h : Lf s la lb lc) (o p v : Int) :
    Lf { s with C := put s.C (top s.ci s.cl) ((0, o, p, v, -1), s.ci), ci := top s.ci s.cl } (la ++ [o]) (lb ++ [p]) (lc ++ [v]) := by
  have ht := h.topq
  have hp := put_len_ge s.C la.length ((0, o, p, v, -1), s.ci) h.len
  refine ⟨h.cl, by simp only [ht]; simp, by simp [h.hb], by simp [h.hc], by simp only [ht]; simp; omega, fun i hi => ?_⟩
  simp only [ht, getD_snoc, h.hb, h.hc]
  simp at hi
  by_cases e : i < la.length
  · rw [put_other _ _ _ _ e h.len, h.ent i e]; simp [e]
  · obtain rfl : i = la.length := by omega
    rw [put_at _ _ _ h.len, h.ci]; simp
theorem Lf.pop {s : St} {la lb lc : List Int} {n : Nat} (h : Lf s la lb lc) (hn : la.length = n + 1) (x : Int) :
    s.ci = (n : Int) ∧ s.C[n]? = some ((0, la.getD n 0, lb.getD n 0, lc.getD n 0, -1), (n : Int) - 1) ∧ Lf { s with ci := (n : Int) - 1, off := x } (la.take n) (lb.take n) (lc.take n) := by
  refine ⟨by rw [h.ci, hn]; omega, h.ent n (by omega), h.cl, ?_, ?_, ?_, ?_, fun i hi => ?_⟩
  · simp [hn]
  · have := h.hb; simp; omega
  · have := h.hc; simp; omega
  · have := h.len; simp; omega
  · simp at hi
    rw [getD_take _ _ _ (by omega), getD_take _ _ _ (by omega), getD_take _ _ _ (by omega)]; exact h.ent i (by omega)

/-- the environment and the law's slices; the slices hold la lb lc, the scope stack ma mb mc -/
def TL (base eb : Nat) (W w : World) (va vb vc : Value) (la lb lc ma mb mc : List Int) (off : Int) (B : Nat) : Prop := ∃ s, Tri base eb W w s va vb vc la lb lc ∧ Lf s ma mb mc ∧ s.off = off ∧ s.C.length ≤ B
theorem TL.start {eb : Nat} {w w' : World} (h : steps.At w.heap.size eb w w' st0) : TL w.heap.size eb w w' (.slice none 0 0) (.slice none 0 0) (.slice none 0 0) [] [] [] [] [] [] 0 0 :=
  ⟨st0, Tri.start h, ⟨rfl, rfl, rfl, rfl, Nat.le_refl _, fun i hi => by simp at hi⟩, rfl, Nat.le_refl _⟩
theorem TL.row {base eb : Nat} {W w : World} {va vb vc : Value} {la lb lc ma mb mc : List Int} {off : Int} {B : Nat} (h : TL base eb W w va vb vc la lb lc ma mb mc off B) {xa : Addr} {i : Nat} {v : Value} (hp : xa.block < base) (hc : W.cell? (xa.add i) = some v) : w.cell? (xa.add i) = some v := by
  obtain ⟨s, h1, h2⟩ := h
  exact h1.at.row hp hc
theorem TL.below {base eb : Nat} {W w : World} {va vb vc : Value} {la lb lc ma mb mc : List Int} {off : Int} {B : Nat} (h : TL base eb W w va vb vc la lb lc ma mb mc off B) : Below base W w ∧ base ≤ w.heap.size := by
  obtain ⟨s, h1, h2⟩ := h
  exact ⟨h1.at.2.1, h1.at.2.2⟩
theorem TL.scope {base eb : Nat} {W w : World} {va vb vc : Value} {la lb lc ma mb mc : List Int} {off : Int} {B : Nat} (h : TL base eb W w va vb vc la lb lc ma mb mc off B) (o p v : Int) (hB : B ≤ 1000000) :
    Calls Try.prog 13 #[.pointer (some ⟨eb, 0, none⟩), .int .i64 0, .int .i64 o, .int .i64 p, .int .i64 v, .int .i64 (-1)] w fun e w' => e = .returned (.tuple #[]) ∧ TL base eb W w' va vb vc la lb lc (ma ++ [o]) (mb ++ [p]) (mc ++ [v]) off (B + 1) := by
  obtain ⟨s, ⟨col, h1⟩, h2, h3, h4⟩ := h
  refine (pushScope w base eb col s 0 o p v (-1) h1.env h2.wf h1.sz (by omega)).mono fun e w' ⟨k1, k2⟩ => ⟨k1, _, h1.nxt k2, h2.push o p v, h3, ?_⟩
  have := (put_len_ge s.C (plain.top s.ci s.cl) ((0, o, p, v, -1), s.ci) (by rw [h2.topq]; exact h2.len)).2.2
  simp only; omega
theorem TL.popscope {base eb : Nat} {W w : World} {va vb vc : Value} {la lb lc ma mb mc : List Int} {off : Int} {B n : Nat} (h : TL base eb W w va vb vc la lb lc ma mb mc off B) (hn : ma.length = n + 1) :
    Calls Try.prog 18 #[.pointer (some ⟨eb, 0, none⟩)] w fun e w' => e = .returned (.tuple #[.int .i64 (mb.getD n 0), .int .i64 (mc.getD n 0)]) ∧ TL base eb W w' va vb vc la lb lc (ma.take n) (mb.take n) (mc.take n) (ma.getD n 0) B := by
  obtain ⟨s, ⟨col, h1⟩, h2, h3, h4⟩ := h
  obtain ⟨p1, p2, p3⟩ := h2.pop hn (ma.getD n 0)
  refine (forks.popscope w base eb col s n 0 (ma.getD n 0) (mb.getD n 0) (mc.getD n 0) (-1) ((n : Int) - 1) h1.env p1 p2).mono fun e w' ⟨k1, k2⟩ => ⟨k1, _, h1.nxt ?_, p3, rfl, h4⟩
  have e : popOff s (ma.getD n 0) = ma.getD n 0 := if_pos (by rw [h2.cl, p1]; omega)
  rw [e] at k2; exact k2
theorem TL.offset {base eb : Nat} {W w : World} {va vb vc : Value} {la lb lc ma mb mc : List Int} {off : Int} {B : Nat} (h : TL base eb W w va vb vc la lb lc ma mb mc off B) :
    Calls Try.prog 21 #[.pointer (some ⟨eb, 0, none⟩)] w fun e w' => e = .returned (.int .i64 off) ∧ w = w' := by
  obtain ⟨s, h1, h2, h3, h4⟩ := h
  exact s_offset h1.at h3
theorem TL.index {base eb : Nat} {W w : World} {va vb vc : Value} {la lb lc ma mb mc : List Int} {off : Int} {B : Nat} (h : TL base eb W w va vb vc la lb lc ma mb mc off B) {i : Int} (hi : (ma.length : Int) - 1 = i) :
    Calls Try.prog 35 #[.pointer (some ⟨eb, 0, none⟩)] w fun e w' => e = .returned (.int .i64 i) ∧ w = w' := by
  obtain ⟨s, h1, h2, h3, h4⟩ := h
  exact s_cindex h1.at (by rw [h2.ci]; exact hi)
theorem TL.empty {base eb : Nat} {W w : World} {va vb vc : Value} {la lb lc ma mb mc : List Int} {off : Int} {B : Nat} (h : TL base eb W w va vb vc la lb lc ma mb mc off B) {b : Bool} (hb : decide ((ma.length : Int) - 1 < 0) = b) :
    Calls Try.prog 24 #[.pointer (some ⟨eb, 0, none⟩)] w fun e w' => e = .returned (.bool b) ∧ w = w' := by
  obtain ⟨s, h1, h2, h3, h4⟩ := h
  exact s_cempty h1.at (by rw [h2.ci]; exact hb)
theorem TL.up {base eb : Nat} {W w : World} {va vb vc : Value} {la lb lc ma mb mc : List Int} {off : Int} {B B' : Nat} (h : TL base eb W w va vb vc la lb lc ma mb mc off B) (hB : B ≤ B') : TL base eb W w va vb vc la lb lc ma mb mc off B' := by
  obtain ⟨s, h1, h2, h3, h4⟩ := h
  exact ⟨s, h1, h2, h3, by omega⟩
theorem TL.lens {base eb : Nat} {W w : World} {va vb vc : Value} {la lb lc ma mb mc : List Int} {off : Int} {B : Nat} (h : TL base eb W w va vb vc la lb lc ma mb mc off B) : mb.length = ma.length ∧ mc.length = ma.length ∧ ma.length ≤ B := by
  obtain ⟨s, h1, h2, h3, h4⟩ := h
  exact ⟨h2.hb, h2.hc, Nat.le_trans h2.len h4⟩
theorem TL.appA {base eb g cap H : Nat} {W w w' : World} {va vb vc : Value} {la lb lc ma mb mc : List Int} {off : Int} {B : Nat} {z : Int} {o : Obj} (h : TL base eb W w va vb vc la lb lc ma mb mc off B)
    (ho : w'.ownsRow base 3 1 (.slice (some ⟨g, 0, none⟩) (la.length + 1) cap) (la.length + 1) (ic la ++ [.int .i64 z])) (hg : (w.alloc o).grownBy w' va.ownBlock) (hat : va.ownBlock = some g ∨ g = H) (hH : (w.alloc o).heap.size ≤ H) : TL base eb W w' (.slice (some ⟨g, 0, none⟩) (la.length + 1) cap) vb vc (la ++ [z]) lb lc ma mb mc off B := by
  obtain ⟨s, h1, h2⟩ := h
  exact ⟨s, h1.appA ho hg hat hH, h2⟩
theorem TL.ownA {base eb : Nat} {W w : World} {va vb vc : Value} {la lb lc ma mb mc : List Int} {off : Int} {B : Nat} (h : TL base eb W w va vb vc la lb lc ma mb mc off B) : w.ownsRow base 3 1 va la.length (ic la) := by
  obtain ⟨s, ⟨col, h1⟩, h2⟩ := h
  exact h1.a.row
theorem TL.atA {base eb : Nat} {W w : World} {va vb vc : Value} {la lb lc ma mb mc : List Int} {off : Int} {B j : Nat} {z : Int} (h : TL base eb W w va vb vc la lb lc ma mb mc off B) (hj : la[j]? = some z) : ∃ g cp, va = .slice (some ⟨g, 0, none⟩) la.length cp ∧ la.length ≤ cp ∧ w.cell? ⟨g, j, none⟩ = some (.int .i64 z) := by
  obtain ⟨s, ⟨col, h1⟩, h2⟩ := h
  exact h1.a.at hj
theorem TL.appB {base eb g cap H : Nat} {W w w' : World} {va vb vc : Value} {la lb lc ma mb mc : List Int} {off : Int} {B : Nat} {z : Int} {o : Obj} (h : TL base eb W w va vb vc la lb lc ma mb mc off B)
    (ho : w'.ownsRow base 3 1 (.slice (some ⟨g, 0, none⟩) (lb.length + 1) cap) (lb.length + 1) (ic lb ++ [.int .i64 z])) (hg : (w.alloc o).grownBy w' vb.ownBlock) (hat : vb.ownBlock = some g ∨ g = H) (hH : (w.alloc o).heap.size ≤ H) : TL base eb W w' va (.slice (some ⟨g, 0, none⟩) (lb.length + 1) cap) vc la (lb ++ [z]) lc ma mb mc off B := by
  obtain ⟨s, h1, h2⟩ := h
  exact ⟨s, h1.appB ho hg hat hH, h2⟩
theorem TL.ownB {base eb : Nat} {W w : World} {va vb vc : Value} {la lb lc ma mb mc : List Int} {off : Int} {B : Nat} (h : TL base eb W w va vb vc la lb lc ma mb mc off B) : w.ownsRow base 3 1 vb lb.length (ic lb) := by
  obtain ⟨s, ⟨col, h1⟩, h2⟩ := h
  exact h1.b.row
theorem TL.atB {base eb : Nat} {W w : World} {va vb vc : Value} {la lb lc ma mb mc : List Int} {off : Int} {B j : Nat} {z : Int} (h : TL base eb W w va vb vc la lb lc ma mb mc off B) (hj : lb[j]? = some z) : ∃ g cp, vb = .slice (some ⟨g, 0, none⟩) lb.length cp ∧ lb.length ≤ cp ∧ w.cell? ⟨g, j, none⟩ = some (.int .i64 z) := by
  obtain ⟨s, ⟨col, h1⟩, h2⟩ := h
  exact h1.b.at hj
theorem TL.appC {base eb g cap H : Nat} {W w w' : World} {va vb vc : Value} {la lb lc ma mb mc : List Int} {off : Int} {B : Nat} {z : Int} {o : Obj} (h : TL base eb W w va vb vc la lb lc ma mb mc off B)
    (ho : w'.ownsRow base 3 1 (.slice (some ⟨g, 0, none⟩) (lc.length + 1) cap) (lc.length + 1) (ic lc ++ [.int .i64 z])) (hg : (w.alloc o).grownBy w' vc.ownBlock) (hat : vc.ownBlock = some g ∨ g = H) (hH : (w.alloc o).heap.size ≤ H) : TL base eb W w' va vb (.slice (some ⟨g, 0, none⟩) (lc.length + 1) cap) la lb (lc ++ [z]) ma mb mc off B := by
  obtain ⟨s, h1, h2⟩ := h
  exact ⟨s, h1.appC ho hg hat hH, h2⟩
theorem TL.ownC {base eb : Nat} {W w : World} {va vb vc : Value} {la lb lc ma mb mc : List Int} {off : Int} {B : Nat} (h : TL base eb W w va vb vc la lb lc ma mb mc off B) : w.ownsRow base 3 1 vc lc.length (ic lc) := by
  obtain ⟨s, ⟨col, h1⟩, h2⟩ := h
  exact h1.c.row
theorem TL.atC {base eb : Nat} {W w : World} {va vb vc : Value} {la lb lc ma mb mc : List Int} {off : Int} {B j : Nat} {z : Int} (h : TL base eb W w va vb vc la lb lc ma mb mc off B) (hj : lc[j]? = some z) : ∃ g cp, vc = .slice (some ⟨g, 0, none⟩) lc.length cp ∧ lc.length ≤ cp ∧ w.cell? ⟨g, j, none⟩ = some (.int .i64 z) := by
  obtain ⟨s, ⟨col, h1⟩, h2⟩ := h
  exact h1.c.at hj
theorem TL.cellA {base eb g cp : Nat} {W w : World} {vb vc : Value} {la lb lc ma mb mc : List Int} {off : Int} {B j : Nat} {z : Int} (h : TL base eb W w (.slice (some ⟨g, 0, none⟩) la.length cp) vb vc la lb lc ma mb mc off B) (hj : la[j]? = some z) : w.cell? ⟨g, j, none⟩ = some (.int .i64 z) := by
  obtain ⟨s, ⟨col, h1⟩, h2⟩ := h
  exact h1.a.cell hj
theorem TL.cellB {base eb g cp : Nat} {W w : World} {va vc : Value} {la lb lc ma mb mc : List Int} {off : Int} {B j : Nat} {z : Int} (h : TL base eb W w va (.slice (some ⟨g, 0, none⟩) lb.length cp) vc la lb lc ma mb mc off B) (hj : lb[j]? = some z) : w.cell? ⟨g, j, none⟩ = some (.int .i64 z) := by
  obtain ⟨s, ⟨col, h1⟩, h2⟩ := h
  exact h1.b.cell hj
theorem TL.cellC {base eb g cp : Nat} {W w : World} {va vb : Value} {la lb lc ma mb mc : List Int} {off : Int} {B j : Nat} {z : Int} (h : TL base eb W w va vb (.slice (some ⟨g, 0, none⟩) lc.length cp) la lb lc ma mb mc off B) (hj : lc[j]? = some z) : w.cell? ⟨g, j, none⟩ = some (.int .i64 z) := by
  obtain ⟨s, ⟨col, h1⟩, h2⟩ := h
  exact h1.c.cell hj
theorem at_last (l : List Int) (m : Nat) (h : m < l.length) : l[m]? = some (l.getD m 0) := by simp [List.getD, h]
/-- all three are cut -/
theorem TL.cut {base eb ga gb gc ca cb cc n : Nat} {W w : World} {la lb lc ma mb mc : List Int} {off : Int} {B : Nat} (h : TL base eb W w (.slice (some ⟨ga, 0, none⟩) la.length ca) (.slice (some ⟨gb, 0, none⟩) lb.length cb) (.slice (some ⟨gc, 0, none⟩) lc.length cc) la lb lc ma mb mc off B) (ha : n ≤ la.length) (hb : n ≤ lb.length) (hc : n ≤ lc.length) :
    TL base eb W w (.slice (some ⟨ga, 0, none⟩) n ca) (.slice (some ⟨gb, 0, none⟩) n cb) (.slice (some ⟨gc, 0, none⟩) n cc) (la.take n) (lb.take n) (lc.take n) ma mb mc off B := by
  obtain ⟨s, ⟨col, h1⟩, h2⟩ := h
  exact ⟨s, ⟨col, h1.env, h1.a.cut ha, h1.b.cut hb, h1.c.cut hc, h1.bel, h1.sz⟩, h2⟩
end Go.Proofs.Ytemifkcgmfincaa.tri
