/- The compiler's codes and its builtin scope grow; no function of the program in sight. -/
import Derived.Test.YtmfpmpbilekbgaaDoors
set_option linter.unusedVariables false
namespace Go.Proofs.Ytmfpmpbilekbgaa.codes
open Go.ChangeShapes Go.WideShapes Go.ChangeAt Go.RowKit
open upd comp grow add lookv var newc push wrap pushv lookf doors

def optr : Option Nat → Value
  | some p => .pointer (some ⟨p, 0, none⟩)
  | none => .pointer none
def optrs (l : List (Option Nat)) : List Value := l.map optr
theorem optrs_len (l : List (Option Nat)) : (optrs l).length = l.length := by simp [optrs]
theorem optrs_snoc (l : List (Option Nat)) (o : Option Nat) : optrs (l ++ [o]) = optrs l ++ [optr o] := by simp [optrs]
/-- a code: its operation's number, its value -/
def code (x : Int × Value) : Array Value := #[x.2, .int .i64 x.1]
/-- the codes of a compiler: a row of colour 8, its pointers (some still nil) lead to blocks of colour 7 -/
structure Cods (base : Nat) (w : World) (col : Nat → Nat) (cv : Value) (ps : List (Option Nat)) (cs : List (Int × Value)) : Prop where
  row : w.ownsRow base 99 1 cv ps.length (optrs ps)
  clr : Col col 8 cv
  at' : ∀ (j p : Nat), ps[j]? = some (some p) → (base ≤ p ∧ p < w.heap.size ∧ col p = 7) ∧ ∃ x, cs[j]? = some x ∧ Blk w p (code x) 102
  len : ps.length = cs.length
theorem Cods.nil (base : Nat) (w : World) (col : Nat → Nat) : Cods base w col (.slice none 0 0) [] [] :=
  ⟨World.ownsRow_nil _ _ _ _, Col.nil _ _, fun j p h => by simp at h, rfl⟩
theorem Cods.step {base : Nat} {w w' : World} {col col' : Nat → Nat} {cv : Value} {ps : List (Option Nat)} {cs : List (Int × Value)} {S : Nat → Prop} (h : Cods base w col cv ps cs) (hu : Upd S w w') (hS : ∀ k, S k → k < w.heap.size → col k ≠ 8 ∧ col k ≠ 7) (hk : ∀ k, k < w.heap.size → col' k = col k) : Cods base w' col' cv ps cs :=
  ⟨own_kept h.row hu (fun g hg s => (hS g s (h.row.lt g hg).2).1 (h.clr g hg)), h.clr.re h.row hk, fun j p hp => by
    obtain ⟨⟨h1, h2, h3⟩, x, h4, h5⟩ := h.at' j p hp
    exact ⟨⟨h1, Nat.lt_of_lt_of_le h2 hu.size, (hk p h2).trans h3⟩, x, h4, h5.kept hu (fun s => (hS p s h2).2 h3)⟩, h.len⟩

/-- a new colour for one block; other new blocks have none -/
def re1 (col : Nat → Nat) (n g a : Nat) : Nat → Nat := fun k => if k = g then a else if k < n then col k else 0
theorem re1_old {col : Nat → Nat} {w : World} {g a : Nat} (hg : col g = a ∨ w.heap.size ≤ g) : ∀ k, k < w.heap.size → re1 col w.heap.size g a k = col k := fun k hk => by
  unfold re1
  by_cases e : k = g
  · subst e; rw [if_pos rfl]; rcases hg with hg | hg
    · exact hg.symm
    · omega
  · rw [if_neg e, if_pos hk]
theorem re1_at (col : Nat → Nat) (n g a : Nat) : re1 col n g a g = a := by simp [re1]
theorem re1_new (col : Nat → Nat) (n g a k : Nat) (h : n ≤ k) (h1 : k ≠ g) : re1 col n g a k = 0 := by
  unfold re1; rw [if_neg h1, if_neg (by omega)]

/-- only the codes, or the builtin scope, or the compiler's own cells are written -/
def NB (base : Nat) (w : World) (col : Nat → Nat) (w' : World) (col' : Nat → Nat) : Prop :=
  (∀ k, k < w.heap.size → col' k = col k) ∧ Upd (fun k => base ≤ k ∧ (col k = 1 ∨ col k = 3 ∨ col k = 5 ∨ col k = 8)) w w'
theorem NB.refl (base : Nat) (w : World) (col : Nat → Nat) : NB base w col w col := ⟨fun _ _ => rfl, Upd.refl _ _⟩
theorem NB.trans {base : Nat} {w w' w'' : World} {col col' col'' : Nat → Nat} (h : NB base w col w' col') (k : NB base w' col' w'' col'') : NB base w col w'' col'' := by
  refine ⟨fun j hj => (k.1 j (Nat.lt_of_lt_of_le hj h.2.size)).trans (h.1 j hj), ⟨k.2.os.trans h.2.os, k.2.tape.trans h.2.tape, k.2.output.trans h.2.output, Nat.le_trans h.2.size k.2.size, fun j hj hs => ?_⟩⟩
  refine (k.2.block j (Nat.lt_of_lt_of_le hj h.2.size) (fun s => hs ?_)).trans (h.2.block j hj hs)
  rw [← h.1 j hj]; exact s
theorem NB.keep {base : Nat} {w w' : World} {col col' : Nat → Nat} (h : NB base w col w' col') {b : Nat} {cs : Array Value} {t : TypeId} (hb : Blk w b cs t) (hc : col b = 0) : Blk w' b cs t ∧ col' b = 0 :=
  ⟨hb.kept h.2 (fun s => by have := s.2; omega), (h.1 b hb.lt).trans hc⟩
theorem NB.step {base : Nat} {w w' : World} {col : Nat → Nat} (hu : Upd (fun _ => False) w w') (col' : Nat → Nat) (hk : ∀ k, k < w.heap.size → col' k = col k) : NB base w col w' col' := ⟨hk, hu.mono (fun _ _ h => h.elim)⟩

/-- the compiler with its codes -/
def CB (base : Nat) (w : World) (col : Nat → Nat) (c bb : Nat) (sv : Value) (bs : List Nat) (B : Sc) (L : List Sc) (cnt : Int) (ps : List (Option Nat)) (cs : List (Int × Value)) : Prop :=
  ∃ cv, CompAt base w col c cv bb sv bs B L cnt ∧ Cods base w col cv ps cs
theorem CB.step {base : Nat} {w w' : World} {col col' : Nat → Nat} {c bb : Nat} {sv : Value} {bs : List Nat} {B : Sc} {L : List Sc} {cnt : Int} {ps : List (Option Nat)} {cs : List (Int × Value)} (h : CB base w col c bb sv bs B L cnt ps cs) (hu : Upd (fun _ => False) w w') (hk : ∀ k, k < w.heap.size → col' k = col k) : CB base w' col' c bb sv bs B L cnt ps cs := by
  obtain ⟨cv, h1, h2⟩ := h
  exact ⟨cv, h1.step hu (fun _ h => h.elim) hk, h2.step hu (fun _ h => h.elim) hk⟩

/-- other codes -/
theorem CompAt.codes {base c bb : Nat} {w w' : World} {col col' : Nat → Nat} {cv cv' sv : Value} {bs : List Nat} {B : Sc} {L : List Sc} {cnt : Int} {S : Nat → Prop} (h : CompAt base w col c cv bb sv bs B L cnt) (hu : Upd S w w') (hS : ∀ k, S k → k < w.heap.size → col k = 1 ∨ col k = 8) (hk : ∀ k, k < w.heap.size → col' k = col k)
    (hb : Blk w' c (comp cv' bb sv cnt) 95) : CompAt base w' col' c cv' bb sv bs B L cnt :=
  ⟨hb, (hk c h.blk.lt).trans h.clr, h.low, fun e => (h.bi e).step hu (fun k s l => by have := hS k s l; omega) hk, h.al,
    own_kept h.row hu (fun g hg s => by have := hS g s (h.row.lt g hg).2; have := h.rcol g hg; omega), h.rcol.re h.row hk, h.len,
    fun k s hs => by
      obtain ⟨b, h1, h2⟩ := h.sc k s hs
      exact ⟨b, h1, h2.step hu (fun k s l => by have := hS k s l; omega) hk⟩⟩
/-- another builtin scope -/
theorem CompAt.builtin {base c bb : Nat} {w w' : World} {col col' : Nat → Nat} {cv sv : Value} {bs : List Nat} {B B' : Sc} {L : List Sc} {cnt : Int} {S : Nat → Prop} (h : CompAt base w col c cv bb sv bs B L cnt) (hu : Upd S w w') (hS : ∀ k, S k → k < w.heap.size → col k = 3 ∨ col k = 5) (hk : ∀ k, k < w.heap.size → col' k = col k)
    (hb : ScIn base w' col' 3 bb B') (hid : B'.id = B.id) : CompAt base w' col' c cv bb sv bs B' L cnt :=
  ⟨h.blk.kept hu (fun s => by have := hS c s h.blk.lt; have := h.clr; omega), (hk c h.blk.lt).trans h.clr, h.low, fun _ => hb, fun e => h.al (hid ▸ e),
    own_kept h.row hu (fun g hg s => by have := hS g s (h.row.lt g hg).2; have := h.rcol g hg; omega), h.rcol.re h.row hk, h.len,
    fun k s hs => by
      obtain ⟨b, h1, h2⟩ := h.sc k s hs
      exact ⟨b, h1, h2.step hu (fun k s l => by have := hS k s l; omega) hk⟩⟩

/-- a code is appended: the row has grown, the compiler's cell is yet to be written -/
theorem fin_code {base c bb : Nat} {w a w1 : World} {col : Nat → Nat} {cv sv : Value} {bs : List Nat} {B : Sc} {L : List Sc} {cnt : Int} {ps : List (Option Nat)} {cs : List (Int × Value)} {g2 cp2 H : Nat} (h : CompAt base w col c cv bb sv bs B L cnt) (hd : Cods base w col cv ps cs) (hu : Upd (fun _ => False) w a) (o : Option Nat) (x : Int × Value)
    (hx : ∀ p, o = some p → (base ≤ p ∧ p < w.heap.size ∧ col p = 7) ∧ Blk w p (code x) 102) (hown : w1.ownsRow base 99 1 (.slice (some ⟨g2, 0, none⟩) (ps.length + 1) cp2) (ps.length + 1) (optrs ps ++ [optr o])) (hgrow : a.grownBy w1 cv.ownBlock) (hat : cv.ownBlock = some g2 ∨ g2 = H) (hH : a.heap.size ≤ H) (hbase : base ≤ w.heap.size) :
    w1.cell? ⟨c, 5, none⟩ = some cv ∧ w1.frozen? ⟨c, 5, none⟩ = false ∧ ∃ col', NB base w col (w1.setCell ⟨c, 5, none⟩ (.slice (some ⟨g2, 0, none⟩) (ps.length + 1) cp2)) col' ∧ CB base (w1.setCell ⟨c, 5, none⟩ (.slice (some ⟨g2, 0, none⟩) (ps.length + 1) cp2)) col' c bb sv bs B L cnt (ps ++ [o]) (cs ++ [x]) := by
  obtain ⟨V, hV⟩ : ∃ V, V = Value.slice (some ⟨g2, 0, none⟩) (ps.length + 1) cp2 := ⟨_, rfl⟩
  have hVb : ∀ k, V.ownBlock = some k → g2 = k := fun k hk => by rw [hV] at hk; simpa [Value.ownBlock] using hk
  have hcl := h.blk.lt
  have hfr : ∀ k, cv.ownBlock = some k → col k = 8 ∧ k < w.heap.size ∧ base ≤ k := fun k hk => ⟨hd.clr k hk, (hd.row.lt k hk).2, (hd.row.lt k hk).1⟩
  have hal := hu.size
  have hgc : col g2 = 8 ∨ w.heap.size ≤ g2 := hat.imp (fun e => (hfr g2 e).1) (fun e => by omega)
  have hbf : cv.ownBlock ≠ some c := fun e => by have := (hfr c e).1; have := h.clr; omega
  have hu1 : Upd (fun k => cv.ownBlock = some k ∨ k = c) w w1 := (hu.mono (fun _ _ e => e.elim)).grown hgrow (fun k hk => .inl (.inl hk))
  have hu2 : Upd (fun k => cv.ownBlock = some k ∨ k = c) w (w1.setCell ⟨c, 5, none⟩ V) := hu1.setCell (.inl (.inr rfl)) _
  have hc2 : ∀ k, (cv.ownBlock = some k ∨ k = c) → (col k = 1 ∨ col k = 8) ∧ base ≤ k := fun k hk => hk.elim (fun e => ⟨.inr (hfr k e).1, (hfr k e).2.2⟩) (fun e => by rw [e]; exact ⟨.inl h.clr, h.low⟩)
  have hk := re1_old (col := col) (w := w) (a := 8) hgc
  have hc1 : Blk w1 c (comp cv bb sv cnt) 95 := (hgrow.block c (by omega) (fun e => hbf e.symm)).trans ((hu.block c hcl id).trans h.blk)
  have hcg : c ≠ g2 := by
    intro e; rcases hgc with hgc | hgc
    · rw [← e, h.clr] at hgc; omega
    · omega
  refine ⟨by rw [hc1.cell]; rfl, hc1.free 5, re1 col w.heap.size g2 8, ?_⟩
  rw [← hV]
  refine ⟨⟨hk, hu2.mono (fun k _ hs => ⟨(hc2 k hs).2, by have := (hc2 k hs).1; omega⟩)⟩, V, CompAt.codes h hu2 (fun k s _ => (hc2 k s).1) hk ?_, ?_, fun k hk2 => ?_, fun j p hp => ?_, by simp [hd.len]⟩
  · have := hc1.set 5 V
    simpa [comp] using this
  · rw [optrs_snoc, List.length_append]
    exact own_kept (hV ▸ hown) ((Upd.refl (· = c) w1).setCell (.inl rfl) _) (fun g hg e => by
      have := hVb g hg; omega)
  · rw [← hVb k hk2]; exact re1_at _ _ _ _
  · have h7 : ∀ (q : Nat) (y : Int × Value), (base ≤ q ∧ q < w.heap.size ∧ col q = 7) → Blk w q (code y) 102 → (base ≤ q ∧ q < (w1.setCell ⟨c, 5, none⟩ V).heap.size ∧ re1 col w.heap.size g2 8 q = 7) ∧ Blk (w1.setCell ⟨c, 5, none⟩ V) q (code y) 102 := fun q y h1 h2 =>
      ⟨⟨h1.1, Nat.lt_of_lt_of_le h1.2.1 hu2.size, (hk q h1.2.1).trans h1.2.2⟩, h2.kept hu2 (fun s => by have := (hc2 q s).1; omega)⟩
    rcases Nat.lt_or_ge j ps.length with hlt | hge
    · rw [List.getElem?_append_left hlt] at hp
      obtain ⟨h1, y, h2, h3⟩ := hd.at' j p hp
      obtain ⟨k1, k2⟩ := h7 p y h1 h3
      exact ⟨k1, y, by rw [List.getElem?_append_left (List.getElem?_eq_some_iff.1 h2).1]; exact h2, k2⟩
    · have hj : j = ps.length := by have := (List.getElem?_eq_some_iff.1 hp).1; simp at this; omega
      subst hj
      simp at hp
      obtain ⟨h1, h2⟩ := hx p hp
      obtain ⟨k1, k2⟩ := h7 p x h1 h2
      exact ⟨k1, x, by rw [hd.len]; simp, k2⟩

/-- a function is appended to the builtin scope: the row has grown, the scope's cell is yet to be written -/
theorem fin_bi {base c bb : Nat} {w a w1 : World} {col : Nat → Nat} {cv sv vv fv : Value} {bs ps fs : List Nat} {B : Sc} {L : List Sc} {cnt : Int} {g2 cp2 H p : Nat} {f : ByteArray × Int × Int} {qs : List (Option Nat)} {cs : List (Int × Value)} (h : CompAt base w col c cv bb sv bs B L cnt) (hd : Cods base w col cv qs cs) (hS : ScAt base w col 3 bb B vv fv ps fs) (hu : Upd (fun _ => False) w a) (hp : w.heap.size ≤ p) (hpa : p < a.heap.size) (hf : FunAt a p f)
    (hown : w1.ownsRow base 37 1 (.slice (some ⟨g2, 0, none⟩) (fs.length + 1) cp2) (fs.length + 1) (ptrs fs ++ [ptr p])) (hgrow : a.grownBy w1 fv.ownBlock) (hat : fv.ownBlock = some g2 ∨ g2 = H) (hH : a.heap.size ≤ H) (hbase : base ≤ w.heap.size) :
    w1.cell? ⟨bb, 1, none⟩ = some fv ∧ w1.frozen? ⟨bb, 1, none⟩ = false ∧ ∃ col', (∀ k, w.heap.size ≤ k → k < a.heap.size → k ≠ p → col' k = 0) ∧ NB base w col (w1.setCell ⟨bb, 1, none⟩ (.slice (some ⟨g2, 0, none⟩) (fs.length + 1) cp2)) col' ∧ CB base (w1.setCell ⟨bb, 1, none⟩ (.slice (some ⟨g2, 0, none⟩) (fs.length + 1) cp2)) col' c bb sv bs { B with funcs := B.funcs ++ [f] } L cnt qs cs := by
  have hbl := hS.blk.lt
  have hal := hu.size
  have hfr : ∀ k, fv.ownBlock = some k → col k = 5 ∧ k < w.heap.size ∧ base ≤ k := fun k hk => ⟨hS.funcs.clr k hk, (hS.funcs.row.lt k hk).2, (hS.funcs.row.lt k hk).1⟩
  have hgc : col g2 = 5 ∨ w.heap.size ≤ g2 := hat.imp (fun e => (hfr g2 e).1) (fun e => by omega)
  have hbf : fv.ownBlock ≠ some bb := fun e => by have := (hfr bb e).1; have := hS.clr; omega
  have hu1 : Upd (fun k => fv.ownBlock = some k ∨ k = bb) w w1 := (hu.mono (fun _ _ e => e.elim)).grown hgrow (fun k hk => .inl (.inl hk))
  have hu2 : Upd (fun k => fv.ownBlock = some k ∨ k = bb) w (w1.setCell ⟨bb, 1, none⟩ (.slice (some ⟨g2, 0, none⟩) (fs.length + 1) cp2)) := hu1.setCell (.inl (.inr rfl)) _
  have hc2 : ∀ k, (fv.ownBlock = some k ∨ k = bb) → col k = 3 ∨ col k = 5 := fun k hk => hk.elim (fun e => .inr (hfr k e).1) (fun e => .inl (e ▸ hS.clr))
  have hk := re2_old (col := col) (w := w) (a := 5) (b := 7) hgc hp
  have hb1 : Blk w1 bb #[vv, fv, .int .i64 B.id, .int .i64 0, .int .i64 B.vars.length] 114 := (hgrow.block bb (by omega) (fun e => hbf e.symm)).trans ((hu.block bb hbl id).trans hS.blk)
  have hb2 := hb1.set 1 (.slice (some ⟨g2, 0, none⟩) (fs.length + 1) cp2)
  have hpb : p ≠ bb := by omega
  have hpr : some p ≠ fv.ownBlock := fun e => by have := (hfr p e.symm).2.1; omega
  have hfp : FunAt (w1.setCell ⟨bb, 1, none⟩ (.slice (some ⟨g2, 0, none⟩) (fs.length + 1) cp2)) p f := Blk.other ((hgrow.block p hpa hpr).trans hf) hpb _
  have hbg : bb ≠ g2 := by
    intro e
    rcases hgc with hgc | hgc
    · rw [← e, hS.clr] at hgc; omega
    · omega
  refine ⟨by rw [hb1.cell]; rfl, hb1.free 1, re2 col w.heap.size g2 5 p 7, fun k h1 h2 h3 => re2_new _ _ _ _ _ _ _ h1 (fun e => by rcases hat with e1 | e1; (have := (hfr g2 e1).2.1; omega); omega) h3, ⟨hk, hu2.mono (fun k _ hs => ⟨?_, ?_⟩)⟩, cv, CompAt.builtin h hu2 (fun k s _ => hc2 k s) hk ⟨vv, .slice (some ⟨g2, 0, none⟩) (fs.length + 1) cp2, ps, fs ++ [p], ?_, (hk bb hbl).trans hS.clr, hS.low, ?_, ?_, hS.plen, by simp [hS.flen]⟩ rfl, hd.step hu2 (fun k s _ => by have := hc2 k s; omega) hk⟩
  · rcases hs with e | e
    · exact (hfr k e).2.2
    · rw [e]; exact hS.low
  · have := hc2 k hs; omega
  · simpa using hb2
  · exact hS.vars.step hu2 (fun k s l => by have := hc2 k s; omega) hk (fun j q hn ⟨nm, h1, h2⟩ => ⟨nm, h1, h2.kept hu2 hn⟩)
  · have h0 : (fun k => ¬ (k < a.heap.size ∧ w.heap.size ≤ k) ∧ k ≠ g2 ∧ col k ≠ 7) bb := ⟨by omega, hbg, by rw [hS.clr]; omega⟩
    refine Ptrs.grown hS.funcs hal hgrow hown hat hH hp hpa hbase ((Upd.refl _ w1).setCell (.inl h0) _) (fun k hl h7 => hu2.block k hl (fun s => by have := hc2 k s; omega)) ?_ ?_
    · rintro j q hq h7 ⟨f', h1, h2⟩
      refine ⟨f', ?_, h2.kept hu2 (fun s => by have := hc2 q s; omega)⟩
      rw [List.getElem?_append_left (List.getElem?_eq_some_iff.1 h1).1]; exact h1
    · exact ⟨f, by rw [hS.flen]; simp, hfp⟩
/-- one of the codes is written: a nil pointer gets its block -/
theorem fin_put {base c bb : Nat} {w a : World} {col : Nat → Nat} {ca : Option Addr} {cc : Nat} {sv : Value} {bs : List Nat} {B : Sc} {L : List Sc} {cnt : Int} {ps : List (Option Nat)} {cs : List (Int × Value)} {i p : Nat} (h : CompAt base w col c (.slice ca ps.length cc) bb sv bs B L cnt) (hd : Cods base w col (.slice ca ps.length cc) ps cs) (hu : Upd (fun _ => False) w a) (hi : i < ps.length) (hn : ps[i]? = some none) (x : Int × Value) (hp : w.heap.size ≤ p) (hpb : Blk a p (code x) 102) (hbase : base ≤ w.heap.size) :
    ∃ g, ca = some ⟨g, 0, none⟩ ∧ ps.length ≤ cc ∧ a.cell? ⟨g, i, none⟩ = some (.pointer none) ∧ a.frozen? ⟨g, i, none⟩ = false ∧ g < a.heap.size ∧ ∃ col', (∀ k, w.heap.size ≤ k → k ≠ p → col' k = 0) ∧ NB base w col (a.setCell ⟨g, i, none⟩ (.pointer (some ⟨p, 0, none⟩))) col' ∧ CB base (a.setCell ⟨g, i, none⟩ (.pointer (some ⟨p, 0, none⟩))) col' c bb sv bs B L cnt (ps.set i (some p)) (cs.set i x) := by
  have hrow := own_kept hd.row hu (fun _ _ => id)
  have hcl := h.blk.lt
  have hal := hu.size
  have hlen : (optrs ps).length = ps.length := optrs_len _
  rcases own_form hd.row with ⟨_, h1, _⟩ | ⟨g, cap, h1, hb, hc, hl⟩
  · omega
  simp only [Value.slice.injEq, true_and] at h1
  obtain ⟨rfl, rfl⟩ := h1
  have hg8 : col g = 8 := hd.clr g rfl
  have hcell : a.cell? ⟨g, i, none⟩ = some (.pointer none) := by
    rw [hrow.cellAt i (by omega)]; simp [optrs, hn, optr]
  refine ⟨g, rfl, hc, hcell, hrow.frozenAt i, by omega, re1 col w.heap.size p 7, fun k h1 h2 => re1_new _ _ _ _ _ h1 h2, ?_⟩
  have hk := re1_old (col := col) (w := w) (a := 7) (g := p) (.inr hp)
  have hu2 : Upd (fun k => k = g) w (a.setCell ⟨g, i, none⟩ (.pointer (some ⟨p, 0, none⟩))) := Upd.setCell (S := (· = g)) (hu.mono (fun _ _ e => e.elim)) (p := ⟨g, i, none⟩) (.inl rfl) _
  have hcg : c ≠ g := fun e => by have := h.clr; rw [e, hg8] at this; omega
  have hpg : p ≠ g := by omega
  refine ⟨⟨hk, hu2.mono (fun k _ e => by rw [e]; exact ⟨hb, by omega⟩)⟩, _, CompAt.codes h hu2 (fun k s _ => by rw [s]; exact .inr hg8) hk (h.blk.kept hu2 hcg), ?_, fun k hk2 => ?_, fun j q hq => ?_, by simp [hd.len]⟩
  · have := (hrow.stored i (.pointer (some ⟨p, 0, none⟩))).1
    have e : optrs (ps.set i (some p)) = (optrs ps).set i (.pointer (some ⟨p, 0, none⟩)) := by simp [optrs, List.map_set, optr]
    rw [e, List.length_set]; exact this
  · have : g = k := by simpa [Value.ownBlock] using hk2
    rw [← this, hk g hl]; exact hg8
  · rcases Nat.lt_trichotomy j i with hji | hji | hji
    · rw [List.getElem?_set_ne (by omega)] at hq
      obtain ⟨⟨h1, h2, h3⟩, y, h4, h5⟩ := hd.at' j q hq
      exact ⟨⟨h1, Nat.lt_of_lt_of_le h2 hu2.size, (hk q h2).trans h3⟩, y, by rw [List.getElem?_set_ne (by omega)]; exact h4, h5.kept hu2 (fun e => by rw [e, hg8] at h3; omega)⟩
    · subst hji
      rw [List.getElem?_set_self hi] at hq
      simp at hq
      subst hq
      have hpl := hpb.lt
      exact ⟨⟨by omega, by simpa using hpl, re1_at _ _ _ _⟩, x, by rw [List.getElem?_set_self (by rw [← hd.len]; exact hi)], hpb.other (p := ⟨g, j, none⟩) hpg _⟩
    · rw [List.getElem?_set_ne (by omega)] at hq
      obtain ⟨⟨h1, h2, h3⟩, y, h4, h5⟩ := hd.at' j q hq
      exact ⟨⟨h1, Nat.lt_of_lt_of_le h2 hu2.size, (hk q h2).trans h3⟩, y, by rw [List.getElem?_set_ne (by omega)]; exact h4, h5.kept hu2 (fun e => by rw [e, hg8] at h3; omega)⟩
end Go.Proofs.Ytmfpmpbilekbgaa.codes
