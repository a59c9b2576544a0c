/- The environment in memory: its block, its three stacks, its forks; each block has a colour, so that no two things share one. No walk here. -/
import Derived.Test.YtemifkcgmfincaaSStk
import Derived.Test.YtemifkcgmfincaaVStk
namespace Go.Proofs.Ytemifkcgmfincaa.env
open Go.ChangeShapes Go.WideShapes Go.ChangeAt Go.RowKit
open upd
set_option linter.unusedVariables false
abbrev Sc := sstk.Sc

/-- a fork's numbers (its two numbers of the path stack are -1) -/
structure Fk where
  pc : Int
  vi : Int
  vl : Int
  ci : Int
  cl : Int
  off : Int
  ex : Int
/-- what the environment holds -/
structure St where
  D : List (Int × Int)
  vi : Int
  vl : Int
  C : List (Sc × Int)
  ci : Int
  cl : Int
  F : List Fk
  off : Int
  ex : Int
def fc (f : Fk) : List Value := [.int .i64 f.pc, .int .i64 f.vi, .int .i64 f.vl, .int .i64 f.ci, .int .i64 f.cl, .int .i64 (-1), .int .i64 (-1), .int .i64 f.off, .int .i64 f.ex]
def fcs (F : List Fk) : List Value := F.flatMap fc
theorem fcs_len (d : List Fk) : (fcs d).length = d.length * 9 := by
  induction d with
  | nil => rfl
  | cons x r ih => simp only [fcs, List.flatMap_cons, List.length_append, List.length_cons] at *; rw [ih]; simp [fc]; omega
theorem fcs_snoc (d : List Fk) (x : Fk) : fcs (d ++ [x]) = fcs d ++ fc x := by simp [fcs]
theorem fcs_last (d : List Fk) (x : Fk) (j : Nat) (hj : j < 9) : (fcs (d ++ [x]))[d.length * 9 + j]? = (fc x)[j]? := by
  rw [fcs_snoc, List.getElem?_append_right (by rw [fcs_len]; omega), fcs_len]
  congr 1; omega
theorem fcs_take (d : List Fk) (x : Fk) : (fcs (d ++ [x])).take (d.length * 9) = fcs d := by
  rw [fcs_snoc, List.take_append_of_le_length (by rw [fcs_len]; omega), List.take_of_length_le (by rw [fcs_len]; omega)]
/-- the environment's cells -/
def cells (s p c : Nat) (fv : Value) (off ex : Int) : Array Value :=
  #[.int .i64 0, .pointer (some ⟨s, 0, none⟩), .pointer (some ⟨p, 0, none⟩), .pointer (some ⟨c, 0, none⟩), .slice none 0 0, .slice none 0 0, .slice none 0 0, fv, .bool false, .int .i64 off, .int .i64 ex, .int .i64 0,
    .nilIface, .nilIface, .nilIface, .nilIface, .nilIface, .nilIface, .nilIface, .nilIface, .nilIface, .nilIface, .nilIface, .nilIface, .nilIface, .nilIface, .nilIface, .nilIface, .nilIface, .nilIface, .nilIface, .nilIface, .nilIface, .nilIface, .nilIface, .nilIface, .nilIface, .nilIface, .nilIface, .nilIface, .nilIface, .nilIface, .nilIface, .nilIface, .nilIface]

/-- the block of v, if it has one, is of colour c -/
def Col (col : Nat → Nat) (c : Nat) (v : Value) : Prop := ∀ g, v.ownBlock = some g → col g = c
theorem Col.re {w : World} {col col' : Nat → Nat} {c base : Nat} {v : Value} {e : TypeId} {size n : Nat} {xs : List Value} (h : Col col c v) (ho : w.ownsRow base e size v n xs) (hk : ∀ k, k < w.heap.size → col' k = col k) : Col col' c v :=
  fun g hg => by rw [hk g (ho.lt g hg).2]; exact h g hg
theorem Col.nil (col : Nat → Nat) (c : Nat) : Col col c (.slice none 0 0) := fun g hg => by simp [Value.ownBlock] at hg
/-- the new block's colour is laid in; every old block keeps its own -/
def re (col : Nat → Nat) (g c : Nat) : Nat → Nat := fun k => if k = g then c else col k
theorem re_old {col : Nat → Nat} {g c n : Nat} (h : col g = c ∨ n ≤ g) : ∀ k, k < n → re col g c k = col k := fun k hk => by
  unfold re
  by_cases e : k = g
  · rw [if_pos e]; rcases h with h | h
    · rw [e, h]
    · omega
  · rw [if_neg e]
theorem re_new (col : Nat → Nat) (g c : Nat) : re col g c g = c := by simp [re]
theorem Col.grow {w : World} {col : Nat → Nat} {c : Nat} {dv dv' : Value} (h : Col col c dv) (hloc : dv'.ownBlock = dv.ownBlock ∨ ∃ g, dv'.ownBlock = some g ∧ w.heap.size ≤ g) : ∃ col' : Nat → Nat, (∀ k, k < w.heap.size → col' k = col k) ∧ Col col' c dv' := by
  rcases hloc with e | ⟨g, e, hg⟩
  · exact ⟨col, fun _ _ => rfl, fun g hg => h g (by rw [← e]; exact hg)⟩
  · exact ⟨env.re col g c, re_old (.inr hg), fun k hk => by rw [e] at hk; cases hk; exact re_new _ _ _⟩

structure Env (base : Nat) (w : World) (eb sb pb cb : Nat) (col : Nat → Nat) (dv dc fv : Value) (s : St) : Prop where
  vs : vstk.Stk w base sb dv s.D s.vi s.vl
  ps : vstk.Stk w base pb (.slice none 0 0) [] (-1) (-1)
  ss : sstk.Stk w base cb dc s.C s.ci s.cl
  blk : Blk w eb (cells sb pb cb fv s.off s.ex) 66
  fr : w.ownsRow base 83 9 fv s.F.length (fcs s.F)
  ce : col eb = 0
  cs : col sb = 1
  cp : col pb = 2
  cc : col cb = 3
  cd : Col col 4 dv
  cdc : Col col 5 dc
  cf : Col col 6 fv
  he : base ≤ eb
  hs : base ≤ sb
  hp : base ≤ pb
  hc : base ≤ cb
def EnvAt (base : Nat) (w : World) (eb : Nat) (col : Nat → Nat) (s : St) : Prop := ∃ sb pb cb dv dc fv, Env base w eb sb pb cb col dv dc fv s
/-- blocks that the environment may write to -/
def Mine (base : Nat) (col : Nat → Nat) (k : Nat) : Prop := base ≤ k ∧ col k < 10
/-- what a step leaves -/
def Nxt (base eb : Nat) (w : World) (col : Nat → Nat) (s : St) (w' : World) : Prop := ∃ col', EnvAt base w' eb col' s ∧ (∀ k, k < w.heap.size → col' k = col k) ∧ Upd (Mine base col) w w'

theorem Env.frame {base : Nat} {w w' : World} {eb sb pb cb : Nat} {col col' : Nat → Nat} {dv dc fv : Value} {s : St} {S : Nat → Prop} (h : Env base w eb sb pb cb col dv dc fv s) (hu : Upd S w w') (hS : ∀ k, base ≤ k → col k < 10 → ¬ S k) (hk : ∀ k, k < w.heap.size → col' k = col k) : Env base w' eb sb pb cb col' dv dc fv s where
  vs := h.vs.kept hu (hS _ h.hs (by rw [h.cs]; omega)) (fun g hg => hS _ (h.vs.row.lt g hg).1 (by rw [h.cd g hg]; omega))
  ps := h.ps.kept hu (hS _ h.hp (by rw [h.cp]; omega)) (fun g hg => by simp [Value.ownBlock] at hg)
  ss := h.ss.kept hu (hS _ h.hc (by rw [h.cc]; omega)) (fun g hg => hS _ (h.ss.row.lt g hg).1 (by rw [h.cdc g hg]; omega))
  blk := h.blk.kept hu (hS _ h.he (by rw [h.ce]; omega))
  fr := own_kept h.fr hu (fun g hg => hS _ (h.fr.lt g hg).1 (by rw [h.cf g hg]; omega))
  ce := by rw [hk _ h.blk.lt]; exact h.ce
  cs := by rw [hk _ h.vs.lt]; exact h.cs
  cp := by rw [hk _ h.ps.lt]; exact h.cp
  cc := by rw [hk _ h.ss.lt]; exact h.cc
  cd := h.cd.re h.vs.row hk
  cdc := h.cdc.re h.ss.row hk
  cf := h.cf.re h.fr hk
  he := h.he
  hs := h.hs
  hp := h.hp
  hc := h.hc
theorem EnvAt.frame {base : Nat} {w w' : World} {eb : Nat} {col col' : Nat → Nat} {s : St} {S : Nat → Prop} (h : EnvAt base w eb col s) (hu : Upd S w w') (hS : ∀ k, base ≤ k → col k < 10 → ¬ S k) (hk : ∀ k, k < w.heap.size → col' k = col k) : EnvAt base w' eb col' s := by
  obtain ⟨sb, pb, cb, dv, dc, fv, h⟩ := h
  exact ⟨sb, pb, cb, dv, dc, fv, h.frame hu hS hk⟩
theorem Env.still {base : Nat} {w w' : World} {eb sb pb cb : Nat} {col : Nat → Nat} {dv dc fv : Value} {s : St} (h : Env base w eb sb pb cb col dv dc fv s) (hu : Upd (fun _ => False) w w') : Env base w' eb sb pb cb col dv dc fv s := h.frame hu (fun _ _ _ => id) (fun _ _ => rfl)
theorem EnvAt.still {base : Nat} {w w' : World} {eb : Nat} {col : Nat → Nat} {s : St} (h : EnvAt base w eb col s) (hu : Upd (fun _ => False) w w') : EnvAt base w' eb col s := h.frame hu (fun _ _ _ => id) (fun _ _ => rfl)
/-- its cells, in the walk's words -/
theorem Env.mem {base : Nat} {w : World} {eb sb pb cb : Nat} {col : Nat → Nat} {dv dc fv : Value} {s : St} (h : Env base w eb sb pb cb col dv dc fv s) :
    w.cell? ⟨eb, 1, none⟩ = some (.pointer (some ⟨sb, 0, none⟩)) ∧ w.cell? ⟨eb, 2, none⟩ = some (.pointer (some ⟨pb, 0, none⟩)) ∧ w.cell? ⟨eb, 3, none⟩ = some (.pointer (some ⟨cb, 0, none⟩)) ∧ w.cell? ⟨eb, 7, none⟩ = some fv ∧ w.cell? ⟨eb, 9, none⟩ = some (.int .i64 s.off) ∧ w.cell? ⟨eb, 10, none⟩ = some (.int .i64 s.ex) ∧
    (∀ j, w.frozen? ⟨eb, j, none⟩ = false) ∧ eb < w.heap.size := by
  refine ⟨?_, ?_, ?_, ?_, ?_, ?_, fun j => h.blk.free j, h.blk.lt⟩ <;> (rw [h.blk.cell]; rfl)

/-- the value stack has turned -/
theorem Env.vstep {base : Nat} {w w' : World} {eb sb pb cb : Nat} {col : Nat → Nat} {dv dc fv dv' : Value} {s : St} {D' : List (Int × Int)} {i' l' : Int} (h : Env base w eb sb pb cb col dv dc fv s) (hs : vstk.Stk w' base sb dv' D' i' l') (hu : Upd (fun k => k = sb ∨ dv.ownBlock = some k) w w') (hloc : dv'.ownBlock = dv.ownBlock ∨ ∃ g, dv'.ownBlock = some g ∧ w.heap.size ≤ g) :
    ∃ col', Env base w' eb sb pb cb col' dv' dc fv { s with D := D', vi := i', vl := l' } ∧ (∀ k, k < w.heap.size → col' k = col k) ∧ Upd (Mine base col) w w' := by
  obtain ⟨col', hk, hc⟩ := h.cd.grow hloc
  have nb : ∀ k c, col k = c → c ≠ 1 → c ≠ 4 → ¬ (k = sb ∨ dv.ownBlock = some k) := fun k c hc h0 h1 hs => by
    rcases hs with hs | hs
    · rw [hs, h.cs] at hc; omega
    · rw [h.cd k hs] at hc; omega
  refine ⟨col', ?_, hk, hu.mono (fun k _ hk => by
    rcases hk with rfl | hk
    · exact ⟨h.hs, by rw [h.cs]; omega⟩
    · exact ⟨(h.vs.row.lt k hk).1, by rw [h.cd k hk]; omega⟩)⟩
  exact { vs := hs, ps := h.ps.kept hu (nb pb 2 h.cp (by omega) (by omega)) (fun g hg => by simp [Value.ownBlock] at hg), ss := h.ss.kept hu (nb cb 3 h.cc (by omega) (by omega)) (fun g hg => nb g 5 (h.cdc g hg) (by omega) (by omega)),
          blk := h.blk.kept hu (nb eb 0 h.ce (by omega) (by omega)), fr := own_kept h.fr hu (fun g hg => nb g 6 (h.cf g hg) (by omega) (by omega)),
          ce := by rw [hk _ h.blk.lt]; exact h.ce, cs := by rw [hk _ h.vs.lt]; exact h.cs, cp := by rw [hk _ h.ps.lt]; exact h.cp, cc := by rw [hk _ h.ss.lt]; exact h.cc,
          cd := hc, cdc := h.cdc.re h.ss.row hk, cf := h.cf.re h.fr hk, he := h.he, hs := h.hs, hp := h.hp, hc := h.hc }
/-- the scope stack has turned -/
theorem Env.sstep {base : Nat} {w w' : World} {eb sb pb cb : Nat} {col : Nat → Nat} {dv dc fv dc' : Value} {s : St} {C' : List (Sc × Int)} {i' l' : Int} (h : Env base w eb sb pb cb col dv dc fv s) (hs : sstk.Stk w' base cb dc' C' i' l') (hu : Upd (fun k => k = cb ∨ dc.ownBlock = some k) w w') (hloc : dc'.ownBlock = dc.ownBlock ∨ ∃ g, dc'.ownBlock = some g ∧ w.heap.size ≤ g) :
    ∃ col', Env base w' eb sb pb cb col' dv dc' fv { s with C := C', ci := i', cl := l' } ∧ (∀ k, k < w.heap.size → col' k = col k) ∧ Upd (Mine base col) w w' := by
  obtain ⟨col', hk, hc⟩ := h.cdc.grow hloc
  have nb : ∀ k c, col k = c → c ≠ 3 → c ≠ 5 → ¬ (k = cb ∨ dc.ownBlock = some k) := fun k c hc h0 h1 hs => by
    rcases hs with hs | hs
    · rw [hs, h.cc] at hc; omega
    · rw [h.cdc k hs] at hc; omega
  refine ⟨col', ?_, hk, hu.mono (fun k _ hk => by
    rcases hk with rfl | hk
    · exact ⟨h.hc, by rw [h.cc]; omega⟩
    · exact ⟨(h.ss.row.lt k hk).1, by rw [h.cdc k hk]; omega⟩)⟩
  exact { vs := h.vs.kept hu (nb sb 1 h.cs (by omega) (by omega)) (fun g hg => nb g 4 (h.cd g hg) (by omega) (by omega)), ps := h.ps.kept hu (nb pb 2 h.cp (by omega) (by omega)) (fun g hg => by simp [Value.ownBlock] at hg), ss := hs,
          blk := h.blk.kept hu (nb eb 0 h.ce (by omega) (by omega)), fr := own_kept h.fr hu (fun g hg => nb g 6 (h.cf g hg) (by omega) (by omega)),
          ce := by rw [hk _ h.blk.lt]; exact h.ce, cs := by rw [hk _ h.vs.lt]; exact h.cs, cp := by rw [hk _ h.ps.lt]; exact h.cp, cc := by rw [hk _ h.ss.lt]; exact h.cc,
          cd := h.cd.re h.vs.row hk, cdc := hc, cf := h.cf.re h.fr hk, he := h.he, hs := h.hs, hp := h.hp, hc := h.hc }
/-- the path stack has been saved or restored: as it was -/
theorem Env.pstep {base : Nat} {w w' : World} {eb sb pb cb : Nat} {col : Nat → Nat} {dv dc fv : Value} {s : St} (h : Env base w eb sb pb cb col dv dc fv s) (hs : vstk.Stk w' base pb (.slice none 0 0) [] (-1) (-1)) (hu : Upd (· = pb) w w') :
    Env base w' eb sb pb cb col dv dc fv s ∧ Upd (Mine base col) w w' := by
  have nb : ∀ k c, col k = c → c ≠ 2 → ¬ (k = pb) := fun k c hc h0 hs => by rw [hs, h.cp] at hc; omega
  refine ⟨?_, hu.mono (fun k _ hk => by rw [hk]; exact ⟨h.hp, by rw [h.cp]; omega⟩)⟩
  exact { h with
          vs := h.vs.kept hu (nb sb 1 h.cs (by omega)) (fun g hg => nb g 4 (h.cd g hg) (by omega)), ps := hs, ss := h.ss.kept hu (nb cb 3 h.cc (by omega)) (fun g hg => nb g 5 (h.cdc g hg) (by omega)),
          blk := h.blk.kept hu (nb eb 0 h.ce (by omega)), fr := own_kept h.fr hu (fun g hg => nb g 6 (h.cf g hg) (by omega)) }
theorem upd_self (w : World) (b j : Nat) (v : Value) : Upd (· = b) w (w.setCell ⟨b, j, none⟩ v) := Upd.setCell (S := (· = b)) (Upd.refl _ w) (p := ⟨b, j, none⟩) (.inl rfl) v
/-- a cell of the environment's block is written -/
theorem Env.estep {base : Nat} {w w' : World} {eb sb pb cb : Nat} {col : Nat → Nat} {dv dc fv fv' : Value} {s : St} {F' : List Fk} {off' ex' : Int} (h : Env base w eb sb pb cb col dv dc fv s) (hu : Upd (· = eb) w w') (hb : Blk w' eb (cells sb pb cb fv' off' ex') 66) (hr : w'.ownsRow base 83 9 fv' F'.length (fcs F')) (hcf : Col col 6 fv') :
    Env base w' eb sb pb cb col dv dc fv' { s with F := F', off := off', ex := ex' } ∧ Upd (Mine base col) w w' := by
  have nb : ∀ k c, col k = c → c ≠ 0 → ¬ (k = eb) := fun k c hc h0 hs => by rw [hs, h.ce] at hc; omega
  refine ⟨?_, hu.mono (fun k _ hk => by rw [hk]; exact ⟨h.he, by rw [h.ce]; omega⟩)⟩
  exact { h with
          vs := h.vs.kept hu (nb sb 1 h.cs (by omega)) (fun g hg => nb g 4 (h.cd g hg) (by omega)), ps := h.ps.kept hu (nb pb 2 h.cp (by omega)) (fun g hg => by simp [Value.ownBlock] at hg), ss := h.ss.kept hu (nb cb 3 h.cc (by omega)) (fun g hg => nb g 5 (h.cdc g hg) (by omega)),
          blk := hb, fr := hr, cf := hcf }
theorem Env.nfr {base : Nat} {w : World} {eb sb pb cb : Nat} {col : Nat → Nat} {dv dc fv : Value} {s : St} (h : Env base w eb sb pb cb col dv dc fv s) : ∀ g, fv.ownBlock = some g → ¬ g = eb := fun g hg e => by have := h.cf g hg; rw [e, h.ce] at this; omega
theorem Env.setOff {base : Nat} {w : World} {eb sb pb cb : Nat} {col : Nat → Nat} {dv dc fv : Value} {s : St} (h : Env base w eb sb pb cb col dv dc fv s) (x : Int) :
    Env base (w.setCell ⟨eb, 9, none⟩ (.int .i64 x)) eb sb pb cb col dv dc fv { s with off := x } ∧ Upd (Mine base col) w (w.setCell ⟨eb, 9, none⟩ (.int .i64 x)) :=
  h.estep (upd_self _ _ _ _) (h.blk.set 9 _) (own_kept h.fr (upd_self _ _ _ _) h.nfr) h.cf
theorem Env.setEx {base : Nat} {w : World} {eb sb pb cb : Nat} {col : Nat → Nat} {dv dc fv : Value} {s : St} (h : Env base w eb sb pb cb col dv dc fv s) (x : Int) :
    Env base (w.setCell ⟨eb, 10, none⟩ (.int .i64 x)) eb sb pb cb col dv dc fv { s with ex := x } ∧ Upd (Mine base col) w (w.setCell ⟨eb, 10, none⟩ (.int .i64 x)) :=
  h.estep (upd_self _ _ _ _) (h.blk.set 10 _) (own_kept h.fr (upd_self _ _ _ _) h.nfr) h.cf
/-- the forks are cut by one -/
theorem Env.cutF {base : Nat} {w : World} {eb sb pb cb : Nat} {col : Nat → Nat} {dv dc : Value} {s : St} {g cap : Nat} {r : List Fk} {f : Fk} (h : Env base w eb sb pb cb col dv dc (.slice (some ⟨g, 0, none⟩) s.F.length cap) s) (hF : s.F = r ++ [f]) :
    Env base (w.setCell ⟨eb, 7, none⟩ (.slice (some ⟨g, 0, none⟩) r.length cap)) eb sb pb cb col dv dc (.slice (some ⟨g, 0, none⟩) r.length cap) { s with F := r } ∧ Upd (Mine base col) w (w.setCell ⟨eb, 7, none⟩ (.slice (some ⟨g, 0, none⟩) r.length cap)) := by
  refine h.estep (upd_self _ _ _ _) (h.blk.set 7 _) ?_ (fun k hk => h.cf k hk)
  have := own_cut h.fr (m := r.length) (by rw [hF]; simp)
  have := own_kept this (upd_self w eb 7 (.slice (some ⟨g, 0, none⟩) r.length cap)) (fun k hk => h.nfr k hk)
  rw [hF, fcs_take] at this
  exact this
/-- the forks have grown by one -/
theorem Env.appF {base : Nat} {w W w1 : World} {eb sb pb cb : Nat} {col : Nat → Nat} {dv dc fv : Value} {s : St} {g cap H : Nat} (f : Fk) (h : Env base w eb sb pb cb col dv dc fv s) (hg : W.grownBy w1 fv.ownBlock) (hu : Upd (fun _ => False) w W)
    (hown : w1.ownsRow base 83 9 (.slice (some ⟨g, 0, none⟩) (s.F.length + 1) cap) (s.F.length + 1) (fcs s.F ++ fc f)) (hat : fv.ownBlock = some g ∨ g = H) (hH : w.heap.size ≤ H) :
    w1.cell? ⟨eb, 7, none⟩ = some fv ∧ w1.frozen? ⟨eb, 7, none⟩ = false ∧ ∃ col', Env base (w1.setCell ⟨eb, 7, none⟩ (.slice (some ⟨g, 0, none⟩) (s.F.length + 1) cap)) eb sb pb cb col' dv dc (.slice (some ⟨g, 0, none⟩) (s.F.length + 1) cap) { s with F := s.F ++ [f] } ∧ (∀ k, k < w.heap.size → col' k = col k) ∧ Upd (Mine base col) w (w1.setCell ⟨eb, 7, none⟩ (.slice (some ⟨g, 0, none⟩) (s.F.length + 1) cap)) := by
  have hk : ∀ k, k < w.heap.size → re col g 6 k = col k := re_old (hat.imp (fun e => h.cf g e) (fun e => by omega))
  have ug : Upd (fun k => fv.ownBlock = some k) w w1 := (hu.mono (fun _ _ h => h.elim)).grown hg (fun k hk => .inl hk)
  have nb : ∀ k c, col k = c → c ≠ 6 → ¬ (fv.ownBlock = some k) := fun k c hc h0 hs => by rw [h.cf k hs] at hc; omega
  have hge : g ≠ eb := by
    rcases hat with e | e
    · exact fun e2 => h.nfr g e e2
    · have := h.blk.lt; omega
  have kb : Blk w1 eb _ 66 := h.blk.kept ug (nb eb 0 h.ce (by omega))
  have us : Upd (· = eb) w1 (w1.setCell ⟨eb, 7, none⟩ (.slice (some ⟨g, 0, none⟩) (s.F.length + 1) cap)) := upd_self _ _ _ _
  have ne : ∀ k c, col k = c → c ≠ 0 → ¬ (k = eb) := fun k c hc h0 hs => by rw [hs, h.ce] at hc; omega
  refine ⟨by rw [kb.cell]; rfl, kb.free 7, re col g 6, ?_, hk, ?_⟩
  · exact {
      vs := (h.vs.kept ug (nb sb 1 h.cs (by omega)) (fun k hk => nb k 4 (h.cd k hk) (by omega))).kept us (ne sb 1 h.cs (by omega)) (fun k hk => ne k 4 (h.cd k hk) (by omega))
      ps := (h.ps.kept ug (nb pb 2 h.cp (by omega)) (fun g hg => by simp [Value.ownBlock] at hg)).kept us (ne pb 2 h.cp (by omega)) (fun g hg => by simp [Value.ownBlock] at hg)
      ss := (h.ss.kept ug (nb cb 3 h.cc (by omega)) (fun k hk => nb k 5 (h.cdc k hk) (by omega))).kept us (ne cb 3 h.cc (by omega)) (fun k hk => ne k 5 (h.cdc k hk) (by omega))
      blk := kb.set 7 _
      fr := by
        rw [fcs_snoc, List.length_append, List.length_singleton]
        exact own_same hown (fun k hk => us.block k (hown.lt k hk).2 (fun e => hge ((show g = k by simpa [Value.ownBlock] using hk).trans e)))
      ce := by rw [hk _ h.blk.lt]; exact h.ce
      cs := by rw [hk _ h.vs.lt]; exact h.cs
      cp := by rw [hk _ h.ps.lt]; exact h.cp
      cc := by rw [hk _ h.ss.lt]; exact h.cc
      cd := h.cd.re h.vs.row hk
      cdc := h.cdc.re h.ss.row hk
      cf := fun k hk => by
        have : g = k := by simpa [Value.ownBlock] using hk
        rw [← this]; exact re_new _ _ _
      he := h.he
      hs := h.hs
      hp := h.hp
      hc := h.hc }
  · refine Upd.setCell (ug.mono (fun k _ hk => ⟨(h.fr.lt k hk).1, by rw [h.cf k hk]; omega⟩)) (.inl ⟨h.he, by rw [h.ce]; omega⟩) _
/-- one step behind the other -/
theorem Mine.trans {base : Nat} {w w1 w2 : World} {col col1 : Nat → Nat} (h : Upd (Mine base col) w w1) (k : Upd (Mine base col1) w1 w2) (hk : ∀ k, k < w.heap.size → col1 k = col k) : Upd (Mine base col) w w2 :=
  ⟨k.os.trans h.os, k.tape.trans h.tape, k.output.trans h.output, Nat.le_trans h.size k.size, fun i hi hs => (k.block i (Nat.lt_of_lt_of_le hi h.size) (fun m => hs ⟨m.1, by rw [← hk i hi]; exact m.2⟩)).trans (h.block i hi hs)⟩
theorem Nxt.trans {base eb : Nat} {w w1 w2 : World} {col col1 : Nat → Nat} {s : St} (h : Upd (Mine base col) w w1) (hk : ∀ k, k < w.heap.size → col1 k = col k) (n : Nxt base eb w1 col1 s w2) : Nxt base eb w col s w2 := by
  obtain ⟨col2, he, hk2, hu⟩ := n
  exact ⟨col2, he, fun k hl => (hk2 k (Nat.lt_of_lt_of_le hl h.size)).trans (hk k hl), Mine.trans h hu hk⟩
theorem Mine.below {base : Nat} {w w1 : World} {col : Nat → Nat} {B : Nat} (h : Upd (Mine base col) w w1) (hB : B ≤ base) (hw : B ≤ w.heap.size) : Below B w w1 := h.below hw (fun k hk => Nat.le_trans hB hk.1)
end Go.Proofs.Ytemifkcgmfincaa.env
