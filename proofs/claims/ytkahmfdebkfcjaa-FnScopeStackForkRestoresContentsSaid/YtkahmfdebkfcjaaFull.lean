/- The stack and the statement's own model in memory, side by side: what each step leaves. Printed by gen_full.py. -/
import Derived.Test.YtkahmfdebkfcjaaStack
namespace Go.Proofs.Ytkahmfdebkfcjaa.full
open Go.ChangeShapes Go.WideShapes Go.ChangeAt Go.RowKit
open upd stack
set_option linter.unusedVariables false

theorem upd_self (w : World) (b j : Nat) (v : Value) : Upd (· = b) w (w.setCell ⟨b, j, none⟩ v) := Upd.setCell (S := (· = b)) (Upd.refl _ w) (p := ⟨b, j, none⟩) (.inl rfl) v
/-- numbers as cells -/
def ic (l : List Int) : List Value := l.map (Value.int .i64)
theorem ic_len (l : List Int) : (ic l).length = l.length := by simp [ic]
theorem ic_at (l : List Int) (j : Nat) (x : Int) (h : l[j]? = some x) : (ic l)[j]? = some (.int .i64 x) := by simp [ic, h]
/-- the block of v, if it has one, is of colour c -/
def Col (col : Nat → Nat) (c : Nat) (v : Value) : Prop := ∀ g, v.ownBlock = some g → col g = c

structure Full (base b mb : Nat) (w : World) (col : Nat → Nat) (dv : Value) (d : List (Sc × Int)) (idx lim head : Int) (a1 a2 a3 a4 a5 : Option Addr) (k1 k2 k3 k4 k5 : Nat) (l1 l2 l3 l4 l5 : List Int) : Prop where
  stk : Stk w base b dv d idx lim
  blk : Blk w mb #[(.slice a1 l1.length k1), (.slice a2 l2.length k2), .int .i64 head, (.slice a3 l3.length k3), (.slice a4 l4.length k4), (.slice a5 l5.length k5)] 40
  o1 : w.ownsRow base 3 1 (.slice a1 l1.length k1) l1.length (ic l1)
  o2 : w.ownsRow base 3 1 (.slice a2 l2.length k2) l2.length (ic l2)
  o3 : w.ownsRow base 3 1 (.slice a3 l3.length k3) l3.length (ic l3)
  o4 : w.ownsRow base 3 1 (.slice a4 l4.length k4) l4.length (ic l4)
  o5 : w.ownsRow base 3 1 (.slice a5 l5.length k5) l5.length (ic l5)
  cb : col b = 0
  cd : Col col 1 dv
  cm : col mb = 2
  c1 : Col col 3 (.slice a1 l1.length k1)
  c2 : Col col 4 (.slice a2 l2.length k2)
  c3 : Col col 5 (.slice a3 l3.length k3)
  c4 : Col col 6 (.slice a4 l4.length k4)
  c5 : Col col 7 (.slice a5 l5.length k5)
  hb : base ≤ b
  hm : base ≤ mb

theorem Col.re {w : World} {col col' : Nat → Nat} {c base : Nat} {v : Value} {e : TypeId} {size n : Nat} {xs : List Value} (h : Col col c v) (ho : w.ownsRow base e size v n xs) (hk : ∀ k, k < w.heap.size → col' k = col k) : Col col' c v :=
  fun g hg => by rw [hk g (ho.lt g hg).2]; exact h g hg
theorem Col.other {col : Nat → Nat} {c c' : Nat} {v v' : Value} (h : Col col c v) (h' : Col col c' v') (hne : c ≠ c') : ∀ g, v.ownBlock = some g → ¬ v'.ownBlock = some g :=
  fun g h1 h2 => hne ((h g h1).symm.trans (h' g h2))
/-- the new block's colour is laid in; every old block keeps its own -/
def re (col : Nat → Nat) (g c : Nat) : Nat → Nat := fun k => if k = g then c else col k
theorem re_old {col : Nat → Nat} {g c n : Nat} (h : col g = c ∨ n ≤ g) : ∀ k, k < n → re col g c k = col k := fun k hk => by
  unfold re
  by_cases e : k = g
  · rw [if_pos e]; rcases h with h | h
    · rw [e, h]
    · omega
  · rw [if_neg e]
theorem re_new (col : Nat → Nat) (g c : Nat) : re col g c g = c := by simp [re]

theorem Full.cells {base b mb : Nat} {w : World} {col : Nat → Nat} {dv : Value} {d : List (Sc × Int)} {idx lim head : Int} {a1 a2 a3 a4 a5 : Option Addr} {k1 k2 k3 k4 k5 : Nat} {l1 l2 l3 l4 l5 : List Int} (h : Full base b mb w col dv d idx lim head a1 a2 a3 a4 a5 k1 k2 k3 k4 k5 l1 l2 l3 l4 l5) :
    w.cell? ⟨mb, 0, none⟩ = some (.slice a1 l1.length k1) ∧ w.cell? ⟨mb, 1, none⟩ = some (.slice a2 l2.length k2) ∧ w.cell? ⟨mb, 2, none⟩ = some (.int .i64 head) ∧ w.cell? ⟨mb, 3, none⟩ = some (.slice a3 l3.length k3) ∧ w.cell? ⟨mb, 4, none⟩ = some (.slice a4 l4.length k4) ∧ w.cell? ⟨mb, 5, none⟩ = some (.slice a5 l5.length k5) ∧ (∀ j, w.frozen? ⟨mb, j, none⟩ = false) ∧ mb < w.heap.size := by
  refine ⟨?_, ?_, ?_, ?_, ?_, ?_, fun j => h.blk.free j, h.blk.lt⟩ <;> (rw [h.blk.cell]; rfl)
theorem blk_cells {w : World} {mb : Nat} {v0 v1 v2 v3 v4 v5 : Value} (h : Blk w mb #[v0, v1, v2, v3, v4, v5] 40) : w.cell? ⟨mb, 0, none⟩ = some v0 ∧ w.cell? ⟨mb, 1, none⟩ = some v1 ∧ w.cell? ⟨mb, 2, none⟩ = some v2 ∧ w.cell? ⟨mb, 3, none⟩ = some v3 ∧ w.cell? ⟨mb, 4, none⟩ = some v4 ∧ w.cell? ⟨mb, 5, none⟩ = some v5 ∧ ∀ j, w.frozen? ⟨mb, j, none⟩ = false := by
  refine ⟨?_, ?_, ?_, ?_, ?_, ?_, fun j => h.free j⟩ <;> (rw [h.cell]; rfl)
/-- a world that has only drawn, or made new blocks -/
theorem Full.still {base b mb : Nat} {w w' : World} {col : Nat → Nat} {dv : Value} {d : List (Sc × Int)} {idx lim head : Int} {a1 a2 a3 a4 a5 : Option Addr} {k1 k2 k3 k4 k5 : Nat} {l1 l2 l3 l4 l5 : List Int} (h : Full base b mb w col dv d idx lim head a1 a2 a3 a4 a5 k1 k2 k3 k4 k5 l1 l2 l3 l4 l5) (hu : Upd (fun _ => False) w w') : Full base b mb w' col dv d idx lim head a1 a2 a3 a4 a5 k1 k2 k3 k4 k5 l1 l2 l3 l4 l5 :=
  { h with stk := h.stk.kept hu id (fun _ _ => id), blk := h.blk.kept hu id, o1 := own_kept h.o1 hu (fun _ _ => id), o2 := own_kept h.o2 hu (fun _ _ => id), o3 := own_kept h.o3 hu (fun _ _ => id), o4 := own_kept h.o4 hu (fun _ _ => id), o5 := own_kept h.o5 hu (fun _ _ => id) }
/-- the model's head is written -/
theorem Full.setHead {base b mb : Nat} {w : World} {col : Nat → Nat} {dv : Value} {d : List (Sc × Int)} {idx lim head : Int} {a1 a2 a3 a4 a5 : Option Addr} {k1 k2 k3 k4 k5 : Nat} {l1 l2 l3 l4 l5 : List Int} (h : Full base b mb w col dv d idx lim head a1 a2 a3 a4 a5 k1 k2 k3 k4 k5 l1 l2 l3 l4 l5) (x : Int) : Full base b mb (w.setCell ⟨mb, 2, none⟩ (.int .i64 x)) col dv d idx lim x a1 a2 a3 a4 a5 k1 k2 k3 k4 k5 l1 l2 l3 l4 l5 := by
  have hu : Upd (· = mb) w (w.setCell ⟨mb, 2, none⟩ (.int .i64 x)) := upd_self _ _ _ _
  exact { h with
    stk := h.stk.kept hu (fun e => by have := h.cb; rw [e, h.cm] at this; omega) (fun g hg e => by have := h.cd g hg; rw [e, h.cm] at this; omega)
    blk := (h.blk.set 2 _)
    o1 := own_kept h.o1 hu (fun g hg e => by have := h.c1 g hg; rw [e, h.cm] at this; omega)
    o2 := own_kept h.o2 hu (fun g hg e => by have := h.c2 g hg; rw [e, h.cm] at this; omega)
    o3 := own_kept h.o3 hu (fun g hg e => by have := h.c3 g hg; rw [e, h.cm] at this; omega)
    o4 := own_kept h.o4 hu (fun g hg e => by have := h.c4 g hg; rw [e, h.cm] at this; omega)
    o5 := own_kept h.o5 hu (fun g hg e => by have := h.c5 g hg; rw [e, h.cm] at this; omega) }
/-- the stack has turned: its block, its row or a new row -/
theorem Full.stack {base b mb : Nat} {w w' : World} {col : Nat → Nat} {dv : Value} {d : List (Sc × Int)} {idx lim head : Int} {a1 a2 a3 a4 a5 : Option Addr} {k1 k2 k3 k4 k5 : Nat} {l1 l2 l3 l4 l5 : List Int} {dv' : Value} {d' : List (Sc × Int)} {idx' lim' : Int} (h : Full base b mb w col dv d idx lim head a1 a2 a3 a4 a5 k1 k2 k3 k4 k5 l1 l2 l3 l4 l5) (hs : Stk w' base b dv' d' idx' lim') (hu : Upd (fun k => k = b ∨ dv.ownBlock = some k) w w') (hloc : dv'.ownBlock = dv.ownBlock ∨ ∃ g, dv'.ownBlock = some g ∧ w.heap.size ≤ g) : ∃ col', Full base b mb w' col' dv' d' idx' lim' head a1 a2 a3 a4 a5 k1 k2 k3 k4 k5 l1 l2 l3 l4 l5 := by
  obtain ⟨col', hk, hc⟩ : ∃ col' : Nat → Nat, (∀ k, k < w.heap.size → col' k = col k) ∧ Col col' 1 dv' := by
    rcases hloc with e | ⟨g, e, hg⟩
    · exact ⟨col, fun _ _ => rfl, fun g hg => h.cd g (by rw [← e]; exact hg)⟩
    · exact ⟨re col g 1, re_old (.inr hg), fun k hk => by rw [e] at hk; cases hk; exact re_new _ _ _⟩
  have nb : ∀ k c, col k = c → c ≠ 0 → c ≠ 1 → ¬ (k = b ∨ dv.ownBlock = some k) := fun k c hc h0 h1 hs => by
    rcases hs with hs | hs
    · rw [hs, h.cb] at hc; omega
    · rw [h.cd k hs] at hc; omega
  exact ⟨col', { stk := hs, blk := h.blk.kept hu (nb mb 2 h.cm (by omega) (by omega)), o1 := own_kept h.o1 hu (fun g hg => nb g 3 (h.c1 g hg) (by omega) (by omega)), o2 := own_kept h.o2 hu (fun g hg => nb g 4 (h.c2 g hg) (by omega) (by omega)), o3 := own_kept h.o3 hu (fun g hg => nb g 5 (h.c3 g hg) (by omega) (by omega)), o4 := own_kept h.o4 hu (fun g hg => nb g 6 (h.c4 g hg) (by omega) (by omega)), o5 := own_kept h.o5 hu (fun g hg => nb g 7 (h.c5 g hg) (by omega) (by omega)), cb := (by rw [hk b h.stk.lt]; exact h.cb), cd := hc, cm := (by rw [hk mb h.blk.lt]; exact h.cm), c1 := h.c1.re h.o1 hk, c2 := h.c2.re h.o2 hk, c3 := h.c3.re h.o3 hk, c4 := h.c4.re h.o4 hk, c5 := h.c5.re h.o5 hk, hb := h.hb, hm := h.hm }⟩

/-- slice 1 of the model has grown by one number -/
theorem Full.app1 {base b mb : Nat} {w W w1 : World} {col : Nat → Nat} {dv : Value} {d : List (Sc × Int)} {idx lim head : Int} {a1 a2 a3 a4 a5 : Option Addr} {k1 k2 k3 k4 k5 : Nat} {l1 l2 l3 l4 l5 : List Int} {g cap H : Nat} (x : Int) (h : Full base b mb w col dv d idx lim head a1 a2 a3 a4 a5 k1 k2 k3 k4 k5 l1 l2 l3 l4 l5) (hg : W.grownBy w1 (Value.ownBlock (.slice a1 l1.length k1))) (hu : Upd (fun _ => False) w W) (hown : w1.ownsRow base 3 1 (.slice (some ⟨g, 0, none⟩) (l1.length + 1) cap) (l1.length + 1) (ic l1 ++ [.int .i64 x])) (hat : Value.ownBlock (.slice a1 l1.length k1) = some g ∨ g = H) (hH : w.heap.size ≤ H) :
    Blk w1 mb #[(.slice a1 l1.length k1), (.slice a2 l2.length k2), .int .i64 head, (.slice a3 l3.length k3), (.slice a4 l4.length k4), (.slice a5 l5.length k5)] 40 ∧ ∃ col', Full base b mb (w1.setCell ⟨mb, 0, none⟩ (.slice (some ⟨g, 0, none⟩) (l1.length + 1) cap)) col' dv d idx lim head (some ⟨g, 0, none⟩) a2 a3 a4 a5 cap k2 k3 k4 k5 (l1 ++ [x]) l2 l3 l4 l5 := by
  have hk : ∀ k, k < w.heap.size → re col g 3 k = col k := re_old (hat.imp (fun e => h.c1 g e) (fun e => by omega))
  have ug : Upd (fun k => Value.ownBlock (.slice a1 l1.length k1) = some k) w w1 := (hu.mono (fun _ _ h => h.elim)).grown hg (fun k hk => .inl hk)
  have nb : ∀ k c, col k = c → c ≠ 3 → ¬ (Value.ownBlock (.slice a1 l1.length k1) = some k) := fun k c hc h0 hs => by rw [h.c1 k hs] at hc; omega
  have hgm : g ≠ mb := by
    rcases hat with e | e
    · intro e2; have := h.c1 g e; rw [e2, h.cm] at this; omega
    · have := h.blk.lt; omega
  have hgb : g ≠ b := by
    rcases hat with e | e
    · intro e2; have := h.c1 g e; rw [e2, h.cb] at this; omega
    · have := h.stk.lt; omega
  have kb : Blk w1 mb _ 40 := h.blk.kept ug (nb mb 2 h.cm (by omega))
  have us : Upd (· = mb) w1 (w1.setCell ⟨mb, 0, none⟩ (.slice (some ⟨g, 0, none⟩) (l1.length + 1) cap)) := upd_self _ _ _ _
  refine ⟨kb, re col g 3, ?_⟩
  exact {
    stk := (h.stk.kept ug (nb b 0 h.cb (by omega)) (fun k hk => nb k 1 (h.cd k hk) (by omega))).kept us (fun e => by have := h.cb; rw [e, h.cm] at this; omega) (fun k hk e => by have := h.cd k hk; rw [e, h.cm] at this; omega)
    blk := by have := kb.set 0 (.slice (some ⟨g, 0, none⟩) (l1.length + 1) cap); simpa using this
    o1 := by
      have := own_same hown (w' := w1.setCell ⟨mb, 0, none⟩ (.slice (some ⟨g, 0, none⟩) (l1.length + 1) cap)) (fun k hk => us.block k (hown.lt k hk).2 (fun e => hgm ((show g = k by simpa [Value.ownBlock] using hk).trans e)))
      simpa [ic] using this
    o2 := own_kept (own_kept h.o2 ug (fun k hk => nb k 4 (h.c2 k hk) (by omega))) us (fun k hk e => by have := h.c2 k hk; rw [e, h.cm] at this; omega)
    o3 := own_kept (own_kept h.o3 ug (fun k hk => nb k 5 (h.c3 k hk) (by omega))) us (fun k hk e => by have := h.c3 k hk; rw [e, h.cm] at this; omega)
    o4 := own_kept (own_kept h.o4 ug (fun k hk => nb k 6 (h.c4 k hk) (by omega))) us (fun k hk e => by have := h.c4 k hk; rw [e, h.cm] at this; omega)
    o5 := own_kept (own_kept h.o5 ug (fun k hk => nb k 7 (h.c5 k hk) (by omega))) us (fun k hk e => by have := h.c5 k hk; rw [e, h.cm] at this; omega)
    cb := by rw [hk b h.stk.lt]; exact h.cb
    cd := h.cd.re h.stk.row hk
    cm := by rw [hk mb h.blk.lt]; exact h.cm
    c1 := fun k hk => by
      have : g = k := by simpa [Value.ownBlock] using hk
      rw [← this]; exact re_new _ _ _
    c2 := h.c2.re h.o2 hk
    c3 := h.c3.re h.o3 hk
    c4 := h.c4.re h.o4 hk
    c5 := h.c5.re h.o5 hk
    hb := h.hb
    hm := h.hm }
/-- slice 1 of the model is cut -/
theorem Full.cut1 {base b mb : Nat} {w : World} {col : Nat → Nat} {dv : Value} {d : List (Sc × Int)} {idx lim head : Int} {a2 a3 a4 a5 : Option Addr} {k1 k2 k3 k4 k5 : Nat} {l1 l2 l3 l4 l5 : List Int} {g : Nat} (m : Nat) (h : Full base b mb w col dv d idx lim head (some ⟨g, 0, none⟩) a2 a3 a4 a5 k1 k2 k3 k4 k5 l1 l2 l3 l4 l5) (hm : m ≤ l1.length) : Full base b mb (w.setCell ⟨mb, 0, none⟩ (.slice (some ⟨g, 0, none⟩) m k1)) col dv d idx lim head (some ⟨g, 0, none⟩) a2 a3 a4 a5 k1 k2 k3 k4 k5 (l1.take m) l2 l3 l4 l5 := by
  have us : Upd (· = mb) w (w.setCell ⟨mb, 0, none⟩ (.slice (some ⟨g, 0, none⟩) m k1)) := upd_self _ _ _ _
  have hl : (l1.take m).length = m := by simp; omega
  exact { h with
    stk := h.stk.kept us (fun e => by have := h.cb; rw [e, h.cm] at this; omega) (fun k hk e => by have := h.cd k hk; rw [e, h.cm] at this; omega)
    blk := by have := h.blk.set 0 (.slice (some ⟨g, 0, none⟩) m k1); rw [hl]; simpa using this
    o1 := by
      have := own_cut h.o1 hm
      rw [hl]
      have := own_kept this us (fun k hk e => by have := h.c1 k hk; rw [e, h.cm] at this; omega)
      simpa [ic, List.map_take] using this
    c1 := fun k hk => h.c1 k hk
    o2 := own_kept h.o2 us (fun k hk e => by have := h.c2 k hk; rw [e, h.cm] at this; omega)
    o3 := own_kept h.o3 us (fun k hk e => by have := h.c3 k hk; rw [e, h.cm] at this; omega)
    o4 := own_kept h.o4 us (fun k hk e => by have := h.c4 k hk; rw [e, h.cm] at this; omega)
    o5 := own_kept h.o5 us (fun k hk e => by have := h.c5 k hk; rw [e, h.cm] at this; omega) }

/-- slice 2 of the model has grown by one number -/
theorem Full.app2 {base b mb : Nat} {w W w1 : World} {col : Nat → Nat} {dv : Value} {d : List (Sc × Int)} {idx lim head : Int} {a1 a2 a3 a4 a5 : Option Addr} {k1 k2 k3 k4 k5 : Nat} {l1 l2 l3 l4 l5 : List Int} {g cap H : Nat} (x : Int) (h : Full base b mb w col dv d idx lim head a1 a2 a3 a4 a5 k1 k2 k3 k4 k5 l1 l2 l3 l4 l5) (hg : W.grownBy w1 (Value.ownBlock (.slice a2 l2.length k2))) (hu : Upd (fun _ => False) w W) (hown : w1.ownsRow base 3 1 (.slice (some ⟨g, 0, none⟩) (l2.length + 1) cap) (l2.length + 1) (ic l2 ++ [.int .i64 x])) (hat : Value.ownBlock (.slice a2 l2.length k2) = some g ∨ g = H) (hH : w.heap.size ≤ H) :
    Blk w1 mb #[(.slice a1 l1.length k1), (.slice a2 l2.length k2), .int .i64 head, (.slice a3 l3.length k3), (.slice a4 l4.length k4), (.slice a5 l5.length k5)] 40 ∧ ∃ col', Full base b mb (w1.setCell ⟨mb, 1, none⟩ (.slice (some ⟨g, 0, none⟩) (l2.length + 1) cap)) col' dv d idx lim head a1 (some ⟨g, 0, none⟩) a3 a4 a5 k1 cap k3 k4 k5 l1 (l2 ++ [x]) l3 l4 l5 := by
  have hk : ∀ k, k < w.heap.size → re col g 4 k = col k := re_old (hat.imp (fun e => h.c2 g e) (fun e => by omega))
  have ug : Upd (fun k => Value.ownBlock (.slice a2 l2.length k2) = some k) w w1 := (hu.mono (fun _ _ h => h.elim)).grown hg (fun k hk => .inl hk)
  have nb : ∀ k c, col k = c → c ≠ 4 → ¬ (Value.ownBlock (.slice a2 l2.length k2) = some k) := fun k c hc h0 hs => by rw [h.c2 k hs] at hc; omega
  have hgm : g ≠ mb := by
    rcases hat with e | e
    · intro e2; have := h.c2 g e; rw [e2, h.cm] at this; omega
    · have := h.blk.lt; omega
  have hgb : g ≠ b := by
    rcases hat with e | e
    · intro e2; have := h.c2 g e; rw [e2, h.cb] at this; omega
    · have := h.stk.lt; omega
  have kb : Blk w1 mb _ 40 := h.blk.kept ug (nb mb 2 h.cm (by omega))
  have us : Upd (· = mb) w1 (w1.setCell ⟨mb, 1, none⟩ (.slice (some ⟨g, 0, none⟩) (l2.length + 1) cap)) := upd_self _ _ _ _
  refine ⟨kb, re col g 4, ?_⟩
  exact {
    stk := (h.stk.kept ug (nb b 0 h.cb (by omega)) (fun k hk => nb k 1 (h.cd k hk) (by omega))).kept us (fun e => by have := h.cb; rw [e, h.cm] at this; omega) (fun k hk e => by have := h.cd k hk; rw [e, h.cm] at this; omega)
    blk := by have := kb.set 1 (.slice (some ⟨g, 0, none⟩) (l2.length + 1) cap); simpa using this
    o2 := by
      have := own_same hown (w' := w1.setCell ⟨mb, 1, none⟩ (.slice (some ⟨g, 0, none⟩) (l2.length + 1) cap)) (fun k hk => us.block k (hown.lt k hk).2 (fun e => hgm ((show g = k by simpa [Value.ownBlock] using hk).trans e)))
      simpa [ic] using this
    o1 := own_kept (own_kept h.o1 ug (fun k hk => nb k 3 (h.c1 k hk) (by omega))) us (fun k hk e => by have := h.c1 k hk; rw [e, h.cm] at this; omega)
    o3 := own_kept (own_kept h.o3 ug (fun k hk => nb k 5 (h.c3 k hk) (by omega))) us (fun k hk e => by have := h.c3 k hk; rw [e, h.cm] at this; omega)
    o4 := own_kept (own_kept h.o4 ug (fun k hk => nb k 6 (h.c4 k hk) (by omega))) us (fun k hk e => by have := h.c4 k hk; rw [e, h.cm] at this; omega)
    o5 := own_kept (own_kept h.o5 ug (fun k hk => nb k 7 (h.c5 k hk) (by omega))) us (fun k hk e => by have := h.c5 k hk; rw [e, h.cm] at this; omega)
    cb := by rw [hk b h.stk.lt]; exact h.cb
    cd := h.cd.re h.stk.row hk
    cm := by rw [hk mb h.blk.lt]; exact h.cm
    c2 := fun k hk => by
      have : g = k := by simpa [Value.ownBlock] using hk
      rw [← this]; exact re_new _ _ _
    c1 := h.c1.re h.o1 hk
    c3 := h.c3.re h.o3 hk
    c4 := h.c4.re h.o4 hk
    c5 := h.c5.re h.o5 hk
    hb := h.hb
    hm := h.hm }
/-- slice 2 of the model is cut -/
theorem Full.cut2 {base b mb : Nat} {w : World} {col : Nat → Nat} {dv : Value} {d : List (Sc × Int)} {idx lim head : Int} {a1 a3 a4 a5 : Option Addr} {k1 k2 k3 k4 k5 : Nat} {l1 l2 l3 l4 l5 : List Int} {g : Nat} (m : Nat) (h : Full base b mb w col dv d idx lim head a1 (some ⟨g, 0, none⟩) a3 a4 a5 k1 k2 k3 k4 k5 l1 l2 l3 l4 l5) (hm : m ≤ l2.length) : Full base b mb (w.setCell ⟨mb, 1, none⟩ (.slice (some ⟨g, 0, none⟩) m k2)) col dv d idx lim head a1 (some ⟨g, 0, none⟩) a3 a4 a5 k1 k2 k3 k4 k5 l1 (l2.take m) l3 l4 l5 := by
  have us : Upd (· = mb) w (w.setCell ⟨mb, 1, none⟩ (.slice (some ⟨g, 0, none⟩) m k2)) := upd_self _ _ _ _
  have hl : (l2.take m).length = m := by simp; omega
  exact { h with
    stk := h.stk.kept us (fun e => by have := h.cb; rw [e, h.cm] at this; omega) (fun k hk e => by have := h.cd k hk; rw [e, h.cm] at this; omega)
    blk := by have := h.blk.set 1 (.slice (some ⟨g, 0, none⟩) m k2); rw [hl]; simpa using this
    o2 := by
      have := own_cut h.o2 hm
      rw [hl]
      have := own_kept this us (fun k hk e => by have := h.c2 k hk; rw [e, h.cm] at this; omega)
      simpa [ic, List.map_take] using this
    c2 := fun k hk => h.c2 k hk
    o1 := own_kept h.o1 us (fun k hk e => by have := h.c1 k hk; rw [e, h.cm] at this; omega)
    o3 := own_kept h.o3 us (fun k hk e => by have := h.c3 k hk; rw [e, h.cm] at this; omega)
    o4 := own_kept h.o4 us (fun k hk e => by have := h.c4 k hk; rw [e, h.cm] at this; omega)
    o5 := own_kept h.o5 us (fun k hk e => by have := h.c5 k hk; rw [e, h.cm] at this; omega) }

/-- slice 3 of the model has grown by one number -/
theorem Full.app3 {base b mb : Nat} {w W w1 : World} {col : Nat → Nat} {dv : Value} {d : List (Sc × Int)} {idx lim head : Int} {a1 a2 a3 a4 a5 : Option Addr} {k1 k2 k3 k4 k5 : Nat} {l1 l2 l3 l4 l5 : List Int} {g cap H : Nat} (x : Int) (h : Full base b mb w col dv d idx lim head a1 a2 a3 a4 a5 k1 k2 k3 k4 k5 l1 l2 l3 l4 l5) (hg : W.grownBy w1 (Value.ownBlock (.slice a3 l3.length k3))) (hu : Upd (fun _ => False) w W) (hown : w1.ownsRow base 3 1 (.slice (some ⟨g, 0, none⟩) (l3.length + 1) cap) (l3.length + 1) (ic l3 ++ [.int .i64 x])) (hat : Value.ownBlock (.slice a3 l3.length k3) = some g ∨ g = H) (hH : w.heap.size ≤ H) :
    Blk w1 mb #[(.slice a1 l1.length k1), (.slice a2 l2.length k2), .int .i64 head, (.slice a3 l3.length k3), (.slice a4 l4.length k4), (.slice a5 l5.length k5)] 40 ∧ ∃ col', Full base b mb (w1.setCell ⟨mb, 3, none⟩ (.slice (some ⟨g, 0, none⟩) (l3.length + 1) cap)) col' dv d idx lim head a1 a2 (some ⟨g, 0, none⟩) a4 a5 k1 k2 cap k4 k5 l1 l2 (l3 ++ [x]) l4 l5 := by
  have hk : ∀ k, k < w.heap.size → re col g 5 k = col k := re_old (hat.imp (fun e => h.c3 g e) (fun e => by omega))
  have ug : Upd (fun k => Value.ownBlock (.slice a3 l3.length k3) = some k) w w1 := (hu.mono (fun _ _ h => h.elim)).grown hg (fun k hk => .inl hk)
  have nb : ∀ k c, col k = c → c ≠ 5 → ¬ (Value.ownBlock (.slice a3 l3.length k3) = some k) := fun k c hc h0 hs => by rw [h.c3 k hs] at hc; omega
  have hgm : g ≠ mb := by
    rcases hat with e | e
    · intro e2; have := h.c3 g e; rw [e2, h.cm] at this; omega
    · have := h.blk.lt; omega
  have hgb : g ≠ b := by
    rcases hat with e | e
    · intro e2; have := h.c3 g e; rw [e2, h.cb] at this; omega
    · have := h.stk.lt; omega
  have kb : Blk w1 mb _ 40 := h.blk.kept ug (nb mb 2 h.cm (by omega))
  have us : Upd (· = mb) w1 (w1.setCell ⟨mb, 3, none⟩ (.slice (some ⟨g, 0, none⟩) (l3.length + 1) cap)) := upd_self _ _ _ _
  refine ⟨kb, re col g 5, ?_⟩
  exact {
    stk := (h.stk.kept ug (nb b 0 h.cb (by omega)) (fun k hk => nb k 1 (h.cd k hk) (by omega))).kept us (fun e => by have := h.cb; rw [e, h.cm] at this; omega) (fun k hk e => by have := h.cd k hk; rw [e, h.cm] at this; omega)
    blk := by have := kb.set 3 (.slice (some ⟨g, 0, none⟩) (l3.length + 1) cap); simpa using this
    o3 := by
      have := own_same hown (w' := w1.setCell ⟨mb, 3, none⟩ (.slice (some ⟨g, 0, none⟩) (l3.length + 1) cap)) (fun k hk => us.block k (hown.lt k hk).2 (fun e => hgm ((show g = k by simpa [Value.ownBlock] using hk).trans e)))
      simpa [ic] using this
    o1 := own_kept (own_kept h.o1 ug (fun k hk => nb k 3 (h.c1 k hk) (by omega))) us (fun k hk e => by have := h.c1 k hk; rw [e, h.cm] at this; omega)
    o2 := own_kept (own_kept h.o2 ug (fun k hk => nb k 4 (h.c2 k hk) (by omega))) us (fun k hk e => by have := h.c2 k hk; rw [e, h.cm] at this; omega)
    o4 := own_kept (own_kept h.o4 ug (fun k hk => nb k 6 (h.c4 k hk) (by omega))) us (fun k hk e => by have := h.c4 k hk; rw [e, h.cm] at this; omega)
    o5 := own_kept (own_kept h.o5 ug (fun k hk => nb k 7 (h.c5 k hk) (by omega))) us (fun k hk e => by have := h.c5 k hk; rw [e, h.cm] at this; omega)
    cb := by rw [hk b h.stk.lt]; exact h.cb
    cd := h.cd.re h.stk.row hk
    cm := by rw [hk mb h.blk.lt]; exact h.cm
    c3 := fun k hk => by
      have : g = k := by simpa [Value.ownBlock] using hk
      rw [← this]; exact re_new _ _ _
    c1 := h.c1.re h.o1 hk
    c2 := h.c2.re h.o2 hk
    c4 := h.c4.re h.o4 hk
    c5 := h.c5.re h.o5 hk
    hb := h.hb
    hm := h.hm }
/-- slice 3 of the model is cut -/
theorem Full.cut3 {base b mb : Nat} {w : World} {col : Nat → Nat} {dv : Value} {d : List (Sc × Int)} {idx lim head : Int} {a1 a2 a4 a5 : Option Addr} {k1 k2 k3 k4 k5 : Nat} {l1 l2 l3 l4 l5 : List Int} {g : Nat} (m : Nat) (h : Full base b mb w col dv d idx lim head a1 a2 (some ⟨g, 0, none⟩) a4 a5 k1 k2 k3 k4 k5 l1 l2 l3 l4 l5) (hm : m ≤ l3.length) : Full base b mb (w.setCell ⟨mb, 3, none⟩ (.slice (some ⟨g, 0, none⟩) m k3)) col dv d idx lim head a1 a2 (some ⟨g, 0, none⟩) a4 a5 k1 k2 k3 k4 k5 l1 l2 (l3.take m) l4 l5 := by
  have us : Upd (· = mb) w (w.setCell ⟨mb, 3, none⟩ (.slice (some ⟨g, 0, none⟩) m k3)) := upd_self _ _ _ _
  have hl : (l3.take m).length = m := by simp; omega
  exact { h with
    stk := h.stk.kept us (fun e => by have := h.cb; rw [e, h.cm] at this; omega) (fun k hk e => by have := h.cd k hk; rw [e, h.cm] at this; omega)
    blk := by have := h.blk.set 3 (.slice (some ⟨g, 0, none⟩) m k3); rw [hl]; simpa using this
    o3 := by
      have := own_cut h.o3 hm
      rw [hl]
      have := own_kept this us (fun k hk e => by have := h.c3 k hk; rw [e, h.cm] at this; omega)
      simpa [ic, List.map_take] using this
    c3 := fun k hk => h.c3 k hk
    o1 := own_kept h.o1 us (fun k hk e => by have := h.c1 k hk; rw [e, h.cm] at this; omega)
    o2 := own_kept h.o2 us (fun k hk e => by have := h.c2 k hk; rw [e, h.cm] at this; omega)
    o4 := own_kept h.o4 us (fun k hk e => by have := h.c4 k hk; rw [e, h.cm] at this; omega)
    o5 := own_kept h.o5 us (fun k hk e => by have := h.c5 k hk; rw [e, h.cm] at this; omega) }

/-- slice 4 of the model has grown by one number -/
theorem Full.app4 {base b mb : Nat} {w W w1 : World} {col : Nat → Nat} {dv : Value} {d : List (Sc × Int)} {idx lim head : Int} {a1 a2 a3 a4 a5 : Option Addr} {k1 k2 k3 k4 k5 : Nat} {l1 l2 l3 l4 l5 : List Int} {g cap H : Nat} (x : Int) (h : Full base b mb w col dv d idx lim head a1 a2 a3 a4 a5 k1 k2 k3 k4 k5 l1 l2 l3 l4 l5) (hg : W.grownBy w1 (Value.ownBlock (.slice a4 l4.length k4))) (hu : Upd (fun _ => False) w W) (hown : w1.ownsRow base 3 1 (.slice (some ⟨g, 0, none⟩) (l4.length + 1) cap) (l4.length + 1) (ic l4 ++ [.int .i64 x])) (hat : Value.ownBlock (.slice a4 l4.length k4) = some g ∨ g = H) (hH : w.heap.size ≤ H) :
    Blk w1 mb #[(.slice a1 l1.length k1), (.slice a2 l2.length k2), .int .i64 head, (.slice a3 l3.length k3), (.slice a4 l4.length k4), (.slice a5 l5.length k5)] 40 ∧ ∃ col', Full base b mb (w1.setCell ⟨mb, 4, none⟩ (.slice (some ⟨g, 0, none⟩) (l4.length + 1) cap)) col' dv d idx lim head a1 a2 a3 (some ⟨g, 0, none⟩) a5 k1 k2 k3 cap k5 l1 l2 l3 (l4 ++ [x]) l5 := by
  have hk : ∀ k, k < w.heap.size → re col g 6 k = col k := re_old (hat.imp (fun e => h.c4 g e) (fun e => by omega))
  have ug : Upd (fun k => Value.ownBlock (.slice a4 l4.length k4) = some k) w w1 := (hu.mono (fun _ _ h => h.elim)).grown hg (fun k hk => .inl hk)
  have nb : ∀ k c, col k = c → c ≠ 6 → ¬ (Value.ownBlock (.slice a4 l4.length k4) = some k) := fun k c hc h0 hs => by rw [h.c4 k hs] at hc; omega
  have hgm : g ≠ mb := by
    rcases hat with e | e
    · intro e2; have := h.c4 g e; rw [e2, h.cm] at this; omega
    · have := h.blk.lt; omega
  have hgb : g ≠ b := by
    rcases hat with e | e
    · intro e2; have := h.c4 g e; rw [e2, h.cb] at this; omega
    · have := h.stk.lt; omega
  have kb : Blk w1 mb _ 40 := h.blk.kept ug (nb mb 2 h.cm (by omega))
  have us : Upd (· = mb) w1 (w1.setCell ⟨mb, 4, none⟩ (.slice (some ⟨g, 0, none⟩) (l4.length + 1) cap)) := upd_self _ _ _ _
  refine ⟨kb, re col g 6, ?_⟩
  exact {
    stk := (h.stk.kept ug (nb b 0 h.cb (by omega)) (fun k hk => nb k 1 (h.cd k hk) (by omega))).kept us (fun e => by have := h.cb; rw [e, h.cm] at this; omega) (fun k hk e => by have := h.cd k hk; rw [e, h.cm] at this; omega)
    blk := by have := kb.set 4 (.slice (some ⟨g, 0, none⟩) (l4.length + 1) cap); simpa using this
    o4 := by
      have := own_same hown (w' := w1.setCell ⟨mb, 4, none⟩ (.slice (some ⟨g, 0, none⟩) (l4.length + 1) cap)) (fun k hk => us.block k (hown.lt k hk).2 (fun e => hgm ((show g = k by simpa [Value.ownBlock] using hk).trans e)))
      simpa [ic] using this
    o1 := own_kept (own_kept h.o1 ug (fun k hk => nb k 3 (h.c1 k hk) (by omega))) us (fun k hk e => by have := h.c1 k hk; rw [e, h.cm] at this; omega)
    o2 := own_kept (own_kept h.o2 ug (fun k hk => nb k 4 (h.c2 k hk) (by omega))) us (fun k hk e => by have := h.c2 k hk; rw [e, h.cm] at this; omega)
    o3 := own_kept (own_kept h.o3 ug (fun k hk => nb k 5 (h.c3 k hk) (by omega))) us (fun k hk e => by have := h.c3 k hk; rw [e, h.cm] at this; omega)
    o5 := own_kept (own_kept h.o5 ug (fun k hk => nb k 7 (h.c5 k hk) (by omega))) us (fun k hk e => by have := h.c5 k hk; rw [e, h.cm] at this; omega)
    cb := by rw [hk b h.stk.lt]; exact h.cb
    cd := h.cd.re h.stk.row hk
    cm := by rw [hk mb h.blk.lt]; exact h.cm
    c4 := fun k hk => by
      have : g = k := by simpa [Value.ownBlock] using hk
      rw [← this]; exact re_new _ _ _
    c1 := h.c1.re h.o1 hk
    c2 := h.c2.re h.o2 hk
    c3 := h.c3.re h.o3 hk
    c5 := h.c5.re h.o5 hk
    hb := h.hb
    hm := h.hm }
/-- slice 4 of the model is cut -/
theorem Full.cut4 {base b mb : Nat} {w : World} {col : Nat → Nat} {dv : Value} {d : List (Sc × Int)} {idx lim head : Int} {a1 a2 a3 a5 : Option Addr} {k1 k2 k3 k4 k5 : Nat} {l1 l2 l3 l4 l5 : List Int} {g : Nat} (m : Nat) (h : Full base b mb w col dv d idx lim head a1 a2 a3 (some ⟨g, 0, none⟩) a5 k1 k2 k3 k4 k5 l1 l2 l3 l4 l5) (hm : m ≤ l4.length) : Full base b mb (w.setCell ⟨mb, 4, none⟩ (.slice (some ⟨g, 0, none⟩) m k4)) col dv d idx lim head a1 a2 a3 (some ⟨g, 0, none⟩) a5 k1 k2 k3 k4 k5 l1 l2 l3 (l4.take m) l5 := by
  have us : Upd (· = mb) w (w.setCell ⟨mb, 4, none⟩ (.slice (some ⟨g, 0, none⟩) m k4)) := upd_self _ _ _ _
  have hl : (l4.take m).length = m := by simp; omega
  exact { h with
    stk := h.stk.kept us (fun e => by have := h.cb; rw [e, h.cm] at this; omega) (fun k hk e => by have := h.cd k hk; rw [e, h.cm] at this; omega)
    blk := by have := h.blk.set 4 (.slice (some ⟨g, 0, none⟩) m k4); rw [hl]; simpa using this
    o4 := by
      have := own_cut h.o4 hm
      rw [hl]
      have := own_kept this us (fun k hk e => by have := h.c4 k hk; rw [e, h.cm] at this; omega)
      simpa [ic, List.map_take] using this
    c4 := fun k hk => h.c4 k hk
    o1 := own_kept h.o1 us (fun k hk e => by have := h.c1 k hk; rw [e, h.cm] at this; omega)
    o2 := own_kept h.o2 us (fun k hk e => by have := h.c2 k hk; rw [e, h.cm] at this; omega)
    o3 := own_kept h.o3 us (fun k hk e => by have := h.c3 k hk; rw [e, h.cm] at this; omega)
    o5 := own_kept h.o5 us (fun k hk e => by have := h.c5 k hk; rw [e, h.cm] at this; omega) }

/-- slice 5 of the model has grown by one number -/
theorem Full.app5 {base b mb : Nat} {w W w1 : World} {col : Nat → Nat} {dv : Value} {d : List (Sc × Int)} {idx lim head : Int} {a1 a2 a3 a4 a5 : Option Addr} {k1 k2 k3 k4 k5 : Nat} {l1 l2 l3 l4 l5 : List Int} {g cap H : Nat} (x : Int) (h : Full base b mb w col dv d idx lim head a1 a2 a3 a4 a5 k1 k2 k3 k4 k5 l1 l2 l3 l4 l5) (hg : W.grownBy w1 (Value.ownBlock (.slice a5 l5.length k5))) (hu : Upd (fun _ => False) w W) (hown : w1.ownsRow base 3 1 (.slice (some ⟨g, 0, none⟩) (l5.length + 1) cap) (l5.length + 1) (ic l5 ++ [.int .i64 x])) (hat : Value.ownBlock (.slice a5 l5.length k5) = some g ∨ g = H) (hH : w.heap.size ≤ H) :
    Blk w1 mb #[(.slice a1 l1.length k1), (.slice a2 l2.length k2), .int .i64 head, (.slice a3 l3.length k3), (.slice a4 l4.length k4), (.slice a5 l5.length k5)] 40 ∧ ∃ col', Full base b mb (w1.setCell ⟨mb, 5, none⟩ (.slice (some ⟨g, 0, none⟩) (l5.length + 1) cap)) col' dv d idx lim head a1 a2 a3 a4 (some ⟨g, 0, none⟩) k1 k2 k3 k4 cap l1 l2 l3 l4 (l5 ++ [x]) := by
  have hk : ∀ k, k < w.heap.size → re col g 7 k = col k := re_old (hat.imp (fun e => h.c5 g e) (fun e => by omega))
  have ug : Upd (fun k => Value.ownBlock (.slice a5 l5.length k5) = some k) w w1 := (hu.mono (fun _ _ h => h.elim)).grown hg (fun k hk => .inl hk)
  have nb : ∀ k c, col k = c → c ≠ 7 → ¬ (Value.ownBlock (.slice a5 l5.length k5) = some k) := fun k c hc h0 hs => by rw [h.c5 k hs] at hc; omega
  have hgm : g ≠ mb := by
    rcases hat with e | e
    · intro e2; have := h.c5 g e; rw [e2, h.cm] at this; omega
    · have := h.blk.lt; omega
  have hgb : g ≠ b := by
    rcases hat with e | e
    · intro e2; have := h.c5 g e; rw [e2, h.cb] at this; omega
    · have := h.stk.lt; omega
  have kb : Blk w1 mb _ 40 := h.blk.kept ug (nb mb 2 h.cm (by omega))
  have us : Upd (· = mb) w1 (w1.setCell ⟨mb, 5, none⟩ (.slice (some ⟨g, 0, none⟩) (l5.length + 1) cap)) := upd_self _ _ _ _
  refine ⟨kb, re col g 7, ?_⟩
  exact {
    stk := (h.stk.kept ug (nb b 0 h.cb (by omega)) (fun k hk => nb k 1 (h.cd k hk) (by omega))).kept us (fun e => by have := h.cb; rw [e, h.cm] at this; omega) (fun k hk e => by have := h.cd k hk; rw [e, h.cm] at this; omega)
    blk := by have := kb.set 5 (.slice (some ⟨g, 0, none⟩) (l5.length + 1) cap); simpa using this
    o5 := by
      have := own_same hown (w' := w1.setCell ⟨mb, 5, none⟩ (.slice (some ⟨g, 0, none⟩) (l5.length + 1) cap)) (fun k hk => us.block k (hown.lt k hk).2 (fun e => hgm ((show g = k by simpa [Value.ownBlock] using hk).trans e)))
      simpa [ic] using this
    o1 := own_kept (own_kept h.o1 ug (fun k hk => nb k 3 (h.c1 k hk) (by omega))) us (fun k hk e => by have := h.c1 k hk; rw [e, h.cm] at this; omega)
    o2 := own_kept (own_kept h.o2 ug (fun k hk => nb k 4 (h.c2 k hk) (by omega))) us (fun k hk e => by have := h.c2 k hk; rw [e, h.cm] at this; omega)
    o3 := own_kept (own_kept h.o3 ug (fun k hk => nb k 5 (h.c3 k hk) (by omega))) us (fun k hk e => by have := h.c3 k hk; rw [e, h.cm] at this; omega)
    o4 := own_kept (own_kept h.o4 ug (fun k hk => nb k 6 (h.c4 k hk) (by omega))) us (fun k hk e => by have := h.c4 k hk; rw [e, h.cm] at this; omega)
    cb := by rw [hk b h.stk.lt]; exact h.cb
    cd := h.cd.re h.stk.row hk
    cm := by rw [hk mb h.blk.lt]; exact h.cm
    c5 := fun k hk => by
      have : g = k := by simpa [Value.ownBlock] using hk
      rw [← this]; exact re_new _ _ _
    c1 := h.c1.re h.o1 hk
    c2 := h.c2.re h.o2 hk
    c3 := h.c3.re h.o3 hk
    c4 := h.c4.re h.o4 hk
    hb := h.hb
    hm := h.hm }
/-- slice 5 of the model is cut -/
theorem Full.cut5 {base b mb : Nat} {w : World} {col : Nat → Nat} {dv : Value} {d : List (Sc × Int)} {idx lim head : Int} {a1 a2 a3 a4 : Option Addr} {k1 k2 k3 k4 k5 : Nat} {l1 l2 l3 l4 l5 : List Int} {g : Nat} (m : Nat) (h : Full base b mb w col dv d idx lim head a1 a2 a3 a4 (some ⟨g, 0, none⟩) k1 k2 k3 k4 k5 l1 l2 l3 l4 l5) (hm : m ≤ l5.length) : Full base b mb (w.setCell ⟨mb, 5, none⟩ (.slice (some ⟨g, 0, none⟩) m k5)) col dv d idx lim head a1 a2 a3 a4 (some ⟨g, 0, none⟩) k1 k2 k3 k4 k5 l1 l2 l3 l4 (l5.take m) := by
  have us : Upd (· = mb) w (w.setCell ⟨mb, 5, none⟩ (.slice (some ⟨g, 0, none⟩) m k5)) := upd_self _ _ _ _
  have hl : (l5.take m).length = m := by simp; omega
  exact { h with
    stk := h.stk.kept us (fun e => by have := h.cb; rw [e, h.cm] at this; omega) (fun k hk e => by have := h.cd k hk; rw [e, h.cm] at this; omega)
    blk := by have := h.blk.set 5 (.slice (some ⟨g, 0, none⟩) m k5); rw [hl]; simpa using this
    o5 := by
      have := own_cut h.o5 hm
      rw [hl]
      have := own_kept this us (fun k hk e => by have := h.c5 k hk; rw [e, h.cm] at this; omega)
      simpa [ic, List.map_take] using this
    c5 := fun k hk => h.c5 k hk
    o1 := own_kept h.o1 us (fun k hk e => by have := h.c1 k hk; rw [e, h.cm] at this; omega)
    o2 := own_kept h.o2 us (fun k hk e => by have := h.c2 k hk; rw [e, h.cm] at this; omega)
    o3 := own_kept h.o3 us (fun k hk e => by have := h.c3 k hk; rw [e, h.cm] at this; omega)
    o4 := own_kept h.o4 us (fun k hk e => by have := h.c4 k hk; rw [e, h.cm] at this; omega) }

end Go.Proofs.Ytkahmfdebkfcjaa.full
