/- The compiler's innermost scope grows: a function, a variable; no function of the program in sight. -/
import Derived.Test.YtmfpmpbilekbgaaComp
set_option linter.unusedVariables false
namespace Go.Proofs.Ytmfpmpbilekbgaa.grow
open Go.ChangeShapes Go.WideShapes Go.ChangeAt Go.RowKit
open upd comp

theorem CompAt.last {base c bb : Nat} {w : World} {col : Nat → Nat} {cv sv : Value} {bs : List Nat} {B s : Sc} {L : List Sc} {cnt : Int} (h : CompAt base w col c cv bb sv bs B (L ++ [s]) cnt) :
    bs.length = L.length + 1 ∧ ∃ b vv fv ps fs, bs[L.length]? = some b ∧ ScAt base w col (10 + 3 * L.length) b s vv fv ps fs := by
  refine ⟨by rw [h.len]; simp, ?_⟩
  obtain ⟨b, hb, vv, fv, ps, fs, hS⟩ := h.sc L.length s (by simp)
  exact ⟨b, vv, fv, ps, fs, hb, hS⟩
/-- only the innermost scope has changed -/
theorem CompAt.top {base c bb b : Nat} {w w' : World} {col col' : Nat → Nat} {cv sv : Value} {bs : List Nat} {B s s' : Sc} {L : List Sc} {cnt : Int} {S : Nat → Prop} (h : CompAt base w col c cv bb sv bs B (L ++ [s]) cnt) (hu : Upd S w w') (hS : ∀ k, S k → k < w.heap.size → 10 + 3 * L.length ≤ col k) (hk : ∀ k, k < w.heap.size → col' k = col k)
    (hb : bs[L.length]? = some b) (hn : ScIn base w' col' (10 + 3 * L.length) b s') : CompAt base w' col' c cv bb sv bs B (L ++ [s']) cnt :=
  ⟨h.blk.kept hu (fun s => by have := hS c s h.blk.lt; have := h.clr; omega), (hk c h.blk.lt).trans h.clr, h.low, fun e => (h.bi e).step hu (fun k s l => by have := hS k s l; omega) hk, h.al,
    own_kept h.row hu (fun g hg s => by have := hS g s (h.row.lt g hg).2; have := h.rcol g hg; omega), h.rcol.re h.row hk, by rw [h.len]; simp,
    fun k t ht => by
      rcases Nat.lt_trichotomy k L.length with hlt | rfl | hgt
      · obtain ⟨b', h1, h2⟩ := h.sc k t (by rw [List.getElem?_append_left hlt] at ht ⊢; exact ht)
        exact ⟨b', h1, h2.step hu (fun j s l => by have := hS j s l; omega) hk⟩
      · simp at ht
        exact ⟨b, hb, ht ▸ hn⟩
      · rw [List.getElem?_eq_none (by simp; omega)] at ht; cases ht⟩

/-- what a step of the compiler leaves: old colours, its own blocks alone written -/
structure Nx (base : Nat) (w : World) (col : Nat → Nat) (w' : World) (col' : Nat → Nat) : Prop where
  old : ∀ k, k < w.heap.size → col' k = col k
  upd : Upd (fun k => base ≤ k ∧ 0 < col k) w w'
/-- new colours for two blocks; other new blocks have none -/
def re2 (col : Nat → Nat) (n g a p b : Nat) : Nat → Nat := fun k => if k = g then a else if k = p then b else if k < n then col k else 0
theorem re2_old {col : Nat → Nat} {w : World} {g a p b : Nat} (hg : col g = a ∨ w.heap.size ≤ g) (hp : w.heap.size ≤ p) : ∀ k, k < w.heap.size → re2 col w.heap.size g a p b k = col k := fun k hk => by
  unfold re2
  by_cases e : k = g
  · subst e; rw [if_pos rfl]; rcases hg with hg | hg
    · exact hg.symm
    · omega
  · rw [if_neg e, if_neg (by omega), if_pos hk]
theorem re2_at (col : Nat → Nat) (n g a p b : Nat) : re2 col n g a p b g = a := by simp [re2]
theorem re2_two (col : Nat → Nat) (n g a p b : Nat) (h : p ≠ g) : re2 col n g a p b p = b := by simp [re2, h]
theorem re2_new (col : Nat → Nat) (n g a p b k : Nat) (h : n ≤ k) (h1 : k ≠ g) (h2 : k ≠ p) : re2 col n g a p b k = 0 := by
  unfold re2; rw [if_neg h1, if_neg h2, if_neg (by omega)]

/-- a row of pointers has grown by one -/
theorem Ptrs.grown {base e c cap g p H : Nat} {w a w1 w2 : World} {col : Nat → Nat} {v : Value} {ps : List Nat} {A A' : Nat → Nat → Prop} (h : Ptrs base w col e c v ps A) (hu : w.heap.size ≤ a.heap.size) (hg : a.grownBy w1 v.ownBlock) (ho : w1.ownsRow base e 1 (.slice (some ⟨g, 0, none⟩) (ps.length + 1) cap) (ps.length + 1) (ptrs ps ++ [ptr p]))
    (hat : v.ownBlock = some g ∨ g = H) (hH : a.heap.size ≤ H) (hp : w.heap.size ≤ p) (hpa : p < a.heap.size) (hb : base ≤ w.heap.size) (hu2 : Upd (fun k => ¬ (k < a.heap.size ∧ w.heap.size ≤ k) ∧ k ≠ g ∧ col k ≠ 7) w1 w2) (hl2 : ∀ k, k < w.heap.size → col k = 7 → w2.heap[k]? = w.heap[k]?)
    (hA : ∀ j q, q < w.heap.size → col q = 7 → A j q → A' j q) (hA2 : A' ps.length p) : Ptrs base w2 (re2 col w.heap.size g c p 7) e c (.slice (some ⟨g, 0, none⟩) (ps.length + 1) cap) (ps ++ [p]) A' := by
  have hgc : col g = c ∨ w.heap.size ≤ g := hat.imp (h.clr g) (fun e => by omega)
  have hpg : p ≠ g := by
    rcases hat with hat | rfl
    · have := (h.row.lt g hat).2; omega
    · omega
  refine ⟨?_, fun k hk => ?_, fun j q hq => ?_⟩
  · rw [ptrs_snoc, List.length_append]
    refine own_kept ho hu2 (fun k hk => ?_)
    have : g = k := by simpa [Value.ownBlock] using hk
    intro s; exact s.2.1 this.symm
  · have : g = k := by simpa [Value.ownBlock] using hk
    rw [← this]; exact re2_at _ _ _ _ _ _
  · rcases Nat.lt_or_ge j ps.length with hlt | hge
    · rw [List.getElem?_append_left hlt] at hq
      obtain ⟨⟨h1, h2, h3⟩, h4⟩ := h.at' j q hq
      exact ⟨⟨h1, Nat.lt_of_lt_of_le h2 (Nat.le_trans hu (Nat.le_trans hg.size hu2.size)), (re2_old hgc hp q h2).trans h3⟩, hA j q h2 h3 h4⟩
    · rw [List.getElem?_append_right hge] at hq
      have hj : j - ps.length = 0 := by
        have := (List.getElem?_eq_some_iff.1 hq).1; simp at this; omega
      rw [hj] at hq
      simp at hq
      subst hq
      obtain rfl : j = ps.length := by omega
      exact ⟨⟨by omega, Nat.lt_of_lt_of_le hpa (Nat.le_trans hg.size hu2.size), re2_two _ _ _ _ _ _ hpg⟩, hA2⟩

/-- the parts of a growing step that both kinds share: a is w but for the scope's block and new blocks, w1 has the longer row, v is the longer slice, j its cell -/
structure Step (base : Nat) (w a w1 : World) (e b g cap p H : Nat) (v : Value) (ps : List Nat) : Prop where
  upd : Upd (· = b) w a
  grown : a.grownBy w1 v.ownBlock
  own : w1.ownsRow base e 1 (.slice (some ⟨g, 0, none⟩) (ps.length + 1) cap) (ps.length + 1) (ptrs ps ++ [ptr p])
  at' : v.ownBlock = some g ∨ g = H
  hH : a.heap.size ≤ H
  new : w.heap.size ≤ p
  lt : p < a.heap.size
  low : base ≤ w.heap.size

theorem add_func {base c bb b g cap p H : Nat} {w a w1 : World} {col : Nat → Nat} {cv sv vv fv : Value} {bs ps fs : List Nat} {B s : Sc} {L : List Sc} {cnt : Int} {f : ByteArray × Int × Int} (h : CompAt base w col c cv bb sv bs B (L ++ [s]) cnt) (hb : bs[L.length]? = some b)
    (hS : ScAt base w col (10 + 3 * L.length) b s vv fv ps fs) (st : Step base w a w1 37 b g cap p H fv fs) (hblk : Blk a b #[vv, fv, .int .i64 s.id, .int .i64 0, .int .i64 s.vars.length] 114) (hf : FunAt a p f) :
    ∃ col', (∀ k, w.heap.size ≤ k → k < a.heap.size → k ≠ p → col' k = 0) ∧ Nx base w col (w1.setCell ⟨b, 1, none⟩ (.slice (some ⟨g, 0, none⟩) (fs.length + 1) cap)) col' ∧ CompAt base (w1.setCell ⟨b, 1, none⟩ (.slice (some ⟨g, 0, none⟩) (fs.length + 1) cap)) col' c cv bb sv bs B (L ++ [{ s with funcs := s.funcs ++ [f] }]) cnt := by
  have hbl := hS.blk.lt
  have hal := st.upd.size
  have hfr : ∀ k, fv.ownBlock = some k → col k = 10 + 3 * L.length + 2 ∧ k < w.heap.size ∧ base ≤ k := fun k hk => ⟨hS.funcs.clr k hk, (hS.funcs.row.lt k hk).2, (hS.funcs.row.lt k hk).1⟩
  have hgc : col g = 10 + 3 * L.length + 2 ∨ w.heap.size ≤ g := st.at'.imp (fun e => (hfr g e).1) (fun e => by have := st.hH; omega)
  have hbf : fv.ownBlock ≠ some b := fun e => by have := (hfr b e).1; have := hS.clr; omega
  have hu1 : Upd (fun k => fv.ownBlock = some k ∨ k = b) w w1 := (st.upd.mono (fun _ _ e => .inr e)).grown st.grown (fun k hk => .inl (.inl hk))
  have hu2 : Upd (fun k => fv.ownBlock = some k ∨ k = b) w (w1.setCell ⟨b, 1, none⟩ (.slice (some ⟨g, 0, none⟩) (fs.length + 1) cap)) := hu1.setCell (.inl (.inr rfl)) _
  have hc2 : ∀ k, (fv.ownBlock = some k ∨ k = b) → col k = 10 + 3 * L.length ∨ col k = 10 + 3 * L.length + 2 := fun k hk => hk.elim (fun e => .inr (hfr k e).1) (fun e => .inl (e ▸ hS.clr))
  have hk := re2_old (col := col) (w := w) (a := 10 + 3 * L.length + 2) (b := 7) hgc st.new
  have hb1 : Blk w1 b #[vv, fv, .int .i64 s.id, .int .i64 0, .int .i64 s.vars.length] 114 := (st.grown.block b (by omega) (fun e => hbf e.symm)).trans hblk
  have hb2 := hb1.set 1 (.slice (some ⟨g, 0, none⟩) (fs.length + 1) cap)
  have hpb : p ≠ b := by have := st.new; omega
  have hpr : some p ≠ fv.ownBlock := fun e => by have := (hfr p e.symm).2.1; have := st.new; omega
  have hfp : FunAt (w1.setCell ⟨b, 1, none⟩ (.slice (some ⟨g, 0, none⟩) (fs.length + 1) cap)) p f := Blk.other ((st.grown.block p st.lt hpr).trans hf) hpb _
  refine ⟨re2 col w.heap.size g (10 + 3 * L.length + 2) p 7, fun k h1 h2 h3 => re2_new _ _ _ _ _ _ _ h1 (fun e => by rcases st.at' with e1 | e1; (have := (hfr g e1).2.1; omega); (have := st.hH; omega)) h3, ⟨hk, hu2.mono (fun k _ hs => ⟨?_, ?_⟩)⟩, CompAt.top h hu2 (fun k hs _ => ?_) hk hb ⟨vv, .slice (some ⟨g, 0, none⟩) (fs.length + 1) cap, ps, fs ++ [p], ?_, (hk b hbl).trans hS.clr, hS.low, ?_, ?_, hS.plen, by simp [hS.flen]⟩⟩
  · rcases hs with e | e
    · exact (hfr k e).2.2
    · rw [e]; exact hS.low
  · have := hc2 k hs; omega
  · have := hc2 k hs; omega
  · simpa using hb2
  · exact hS.vars.step hu2 (fun k s l => by have := hc2 k s; omega) hk (fun j q hn ⟨nm, h1, h2⟩ => ⟨nm, h1, h2.kept hu2 hn⟩)
  · have hbg : b ≠ g := by
      intro e
      rcases hgc with hgc | hgc
      · rw [← e, hS.clr] at hgc; omega
      · omega
    have h0 : (fun k => ¬ (k < a.heap.size ∧ w.heap.size ≤ k) ∧ k ≠ g ∧ col k ≠ 7) b := ⟨by omega, hbg, by rw [hS.clr]; omega⟩
    refine Ptrs.grown hS.funcs hal st.grown st.own st.at' st.hH st.new st.lt st.low ((Upd.refl _ w1).setCell (.inl h0) _) (fun k hl h7 => hu2.block k hl (fun s => by have := hc2 k s; omega)) ?_ ?_
    · rintro j q hq h7 ⟨f', h1, h2⟩
      refine ⟨f', ?_, h2.kept hu2 (fun s => by have := hc2 q s; omega)⟩
      rw [List.getElem?_append_left (List.getElem?_eq_some_iff.1 h1).1]; exact h1
    · exact ⟨f, by rw [hS.flen]; simp, hfp⟩

theorem add_var {base c bb b g cap p H : Nat} {w a w1 : World} {col : Nat → Nat} {cv sv vv fv : Value} {bs ps fs : List Nat} {B s : Sc} {L : List Sc} {cnt : Int} {nm : ByteArray} (h : CompAt base w col c cv bb sv bs B (L ++ [s]) cnt) (hb : bs[L.length]? = some b)
    (hS : ScAt base w col (10 + 3 * L.length) b s vv fv ps fs) (st : Step base w a w1 47 b g cap p H vv ps) (hblk : Blk a b #[vv, fv, .int .i64 s.id, .int .i64 0, .int .i64 ((s.vars.length + 1 : Nat) : Int)] 114) (hf : VarAt a p nm s.id s.vars.length) :
    ∃ col', (∀ k, w.heap.size ≤ k → k < a.heap.size → k ≠ p → col' k = 0) ∧ Nx base w col (w1.setCell ⟨b, 0, none⟩ (.slice (some ⟨g, 0, none⟩) (ps.length + 1) cap)) col' ∧ CompAt base (w1.setCell ⟨b, 0, none⟩ (.slice (some ⟨g, 0, none⟩) (ps.length + 1) cap)) col' c cv bb sv bs B (L ++ [{ s with vars := s.vars ++ [nm] }]) cnt := by
  have hbl := hS.blk.lt
  have hal := st.upd.size
  have hfr : ∀ k, vv.ownBlock = some k → col k = 10 + 3 * L.length + 1 ∧ k < w.heap.size ∧ base ≤ k := fun k hk => ⟨hS.vars.clr k hk, (hS.vars.row.lt k hk).2, (hS.vars.row.lt k hk).1⟩
  have hgc : col g = 10 + 3 * L.length + 1 ∨ w.heap.size ≤ g := st.at'.imp (fun e => (hfr g e).1) (fun e => by have := st.hH; omega)
  have hbf : vv.ownBlock ≠ some b := fun e => by have := (hfr b e).1; have := hS.clr; omega
  have hu1 : Upd (fun k => vv.ownBlock = some k ∨ k = b) w w1 := (st.upd.mono (fun _ _ e => .inr e)).grown st.grown (fun k hk => .inl (.inl hk))
  have hu2 : Upd (fun k => vv.ownBlock = some k ∨ k = b) w (w1.setCell ⟨b, 0, none⟩ (.slice (some ⟨g, 0, none⟩) (ps.length + 1) cap)) := hu1.setCell (.inl (.inr rfl)) _
  have hc2 : ∀ k, (vv.ownBlock = some k ∨ k = b) → col k = 10 + 3 * L.length ∨ col k = 10 + 3 * L.length + 1 := fun k hk => hk.elim (fun e => .inr (hfr k e).1) (fun e => .inl (e ▸ hS.clr))
  have hk := re2_old (col := col) (w := w) (a := 10 + 3 * L.length + 1) (b := 7) hgc st.new
  have hb1 : Blk w1 b #[vv, fv, .int .i64 s.id, .int .i64 0, .int .i64 ((s.vars.length + 1 : Nat) : Int)] 114 := (st.grown.block b (by omega) (fun e => hbf e.symm)).trans hblk
  have hb2 := hb1.set 0 (.slice (some ⟨g, 0, none⟩) (ps.length + 1) cap)
  have hpb : p ≠ b := by have := st.new; omega
  have hpr : some p ≠ vv.ownBlock := fun e => by have := (hfr p e.symm).2.1; have := st.new; omega
  have hfp : VarAt (w1.setCell ⟨b, 0, none⟩ (.slice (some ⟨g, 0, none⟩) (ps.length + 1) cap)) p nm s.id s.vars.length := Blk.other ((st.grown.block p st.lt hpr).trans hf) hpb _
  refine ⟨re2 col w.heap.size g (10 + 3 * L.length + 1) p 7, fun k h1 h2 h3 => re2_new _ _ _ _ _ _ _ h1 (fun e => by rcases st.at' with e1 | e1; (have := (hfr g e1).2.1; omega); (have := st.hH; omega)) h3, ⟨hk, hu2.mono (fun k _ hs => ⟨?_, ?_⟩)⟩, CompAt.top h hu2 (fun k hs _ => ?_) hk hb ⟨.slice (some ⟨g, 0, none⟩) (ps.length + 1) cap, fv, ps ++ [p], fs, ?_, (hk b hbl).trans hS.clr, hS.low, ?_, ?_, by simp [hS.plen], hS.flen⟩⟩
  · rcases hs with e | e
    · exact (hfr k e).2.2
    · rw [e]; exact hS.low
  · have := hc2 k hs; omega
  · have := hc2 k hs; omega
  · rw [List.length_append]; simpa using hb2
  · have hbg : b ≠ g := by
      intro e
      rcases hgc with hgc | hgc
      · rw [← e, hS.clr] at hgc; omega
      · omega
    have h0 : (fun k => ¬ (k < a.heap.size ∧ w.heap.size ≤ k) ∧ k ≠ g ∧ col k ≠ 7) b := ⟨by omega, hbg, by rw [hS.clr]; omega⟩
    refine Ptrs.grown hS.vars hal st.grown st.own st.at' st.hH st.new st.lt st.low ((Upd.refl _ w1).setCell (.inl h0) _) (fun k hl h7 => hu2.block k hl (fun s => by have := hc2 k s; omega)) ?_ ?_
    · rintro j q hq h7 ⟨f', h1, h2⟩
      refine ⟨f', ?_, h2.kept hu2 (fun s => by have := hc2 q s; omega)⟩
      rw [List.getElem?_append_left (List.getElem?_eq_some_iff.1 h1).1]; exact h1
    · have hfq := hfp
      rw [← hS.plen] at hfq
      exact ⟨nm, by rw [hS.plen]; simp, hfq⟩
  · exact hS.funcs.step hu2 (fun k s l => by have := hc2 k s; omega) hk (fun j q hn ⟨nm, h1, h2⟩ => ⟨nm, h1, h2.kept hu2 hn⟩)
end Go.Proofs.Ytmfpmpbilekbgaa.grow
