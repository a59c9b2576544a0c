/- Rows of definitions that the statements build. -/
import Derived.Test.YtbogmmpbmgibnaaDoorShim
import Derived.Deep.OwnRows
set_option linter.unusedVariables false
namespace Go.Proofs.YtbogmmpbmgibnaaDoor.make
open Go.ChangeShapes Go.WideShapes Go.ChangeAt Go.RowKit
open upd zs guard defsg less order sort' coll fill list13 copy shim

theorem info30 : (Tryd.prog.info? 30).map (fun i => (i.zero, i.size, i.bytes)) = some (some (.pointer none), 1, 8) := by kernel_rfl
theorem info9 : (Tryd.prog.info? 9).map (fun i => (i.zero, i.size, i.bytes)) = some (some (.string ⟨#[]⟩), 1, 16) := by kernel_rfl
/-- the names and arities that the definitions are built from -/
structure Src (la : List ByteArray) (lb : List Int) (N : Nat) (w : World) (aa rb : Option Addr) : Prop where
  at' : ∀ k, k < N → ∃ (s : ByteArray) (a : Nat) (x1 x2 : Addr), aa = some x1 ∧ rb = some x2 ∧ w.cell? (x1.add k) = some (.string s) ∧ w.cell? (x2.add k) = some (.int .i64 a) ∧ la[k]? = some s ∧ lb.getD k 0 = a
  small : ∀ k (s : ByteArray) (a : Nat), k < N → la[k]? = some s → lb.getD k 0 = a → a ≤ 65536
  fine : ∀ k (s : ByteArray), k < N → la[k]? = some s → 0 < s.size ∧ s.size ≤ 1048576 ∧ 0 ≤ lb.getD k 0 ∧ lb.getD k 0 ≤ 65536
theorem src_of {la : List ByteArray} {lb : List Int} {N : Nat} {w : World} {aa rb : Option Addr} (ha : ∀ (j : Nat) (s : ByteArray), la[j]? = some s → ∃ x, aa = some x ∧ w.cell? (x.add j) = some (.string s) ∧ s.size ≤ maxLen) (hb : ∀ (j : Nat) (s : Int), lb[j]? = some s → ∃ x, rb = some x ∧ w.cell? (x.add j) = some (.int .i64 s) ∧ (Lit.int .i64 s).wf = true)
    (hok : OKTo la lb N) (hsz : StrTo la la.length) (h1 : N ≤ la.length) (h2 : N ≤ lb.length) : Src la lb N w aa rb := by
  refine ⟨fun k hk => ?_, fun k s a hk hs h => ?_, fun k s hk hs => ?_⟩
  · obtain ⟨s, hs⟩ : ∃ s, la[k]? = some s := ⟨_, List.getElem?_eq_getElem (by omega)⟩
    obtain ⟨z, hz⟩ : ∃ z, lb[k]? = some z := ⟨_, List.getElem?_eq_getElem (by omega)⟩
    obtain ⟨x1, e1, q1, _⟩ := ha k s hs
    obtain ⟨x2, e2, q2, _⟩ := hb k z hz
    have e : lb.getD k 0 = z := by simp [List.getD, hz]
    have h0 := (hok k s hk hs).2.1
    obtain ⟨a, rfl⟩ : ∃ a : Nat, z = a := ⟨z.toNat, by omega⟩
    exact ⟨s, a, x1, x2, e1, e2, q1, q2, hs, e⟩
  · have := (hok k s hk hs).2.2; omega
  · obtain ⟨q1, q2, q3⟩ := hok k s hk hs
    exact ⟨q1, hsz k s (by have := (List.getElem?_eq_some_iff.1 hs).1; omega) hs, q2, q3⟩
/-- the k-th key -/
def key (la : List ByteArray) (lb : List Int) (k : Nat) : ByteArray × Int := (la.getD k ByteArray.empty, lb.getD k 0)
/-- the first k definitions are made: G is their row -/
def DS (la : List ByteArray) (lb : List Int) (N : Nat) (wd : World) (G k : Nat) (wr : World) : Prop :=
  ∃ ps : List Nat, ps.length = k ∧ k ≤ N ∧ Row wr G 30 (ps.map coll.ptr ++ List.replicate (N - k) (.pointer none)) ∧ Below wd.heap.size wd wr ∧ ∀ (j p : Nat), ps[j]? = some p → p ≠ G ∧ DefAt wr p (key la lb j)
theorem DS.start {la : List ByteArray} {lb : List Int} {N G : Nat} {wd W0 : World} (hW : W0 = wd.alloc (.cells (madeCells #[.pointer none] N) 30)) (hG : G = wd.heap.size) : DS la lb N wd G 0 W0 := by
  refine ⟨[], rfl, Nat.zero_le _, ?_, by rw [hW]; exact (Below.refl _ _).alloc (Nat.le_refl _) _, fun j p h => by simp at h⟩
  rw [hW, hG]
  have h := Row.new wd 30 (List.replicate N (.pointer none))
  have e : madeCells #[.pointer none] N = (List.replicate N (Value.pointer none)).toArray := by
    rw [← toList_madeCells_one]
  rw [e]; simpa using h
theorem DS.lt {la : List ByteArray} {lb : List Int} {N G k : Nat} {wd wr : World} (h : DS la lb N wd G k wr) : G < wr.heap.size := by
  obtain ⟨ps, _, _, h, _⟩ := h; exact h.lt
theorem DS.free {la : List ByteArray} {lb : List Int} {N G k : Nat} {wd wr : World} (h : DS la lb N wd G k wr) (j : Nat) : wr.frozen? ⟨G, j, none⟩ = false := by
  obtain ⟨ps, _, _, h, _⟩ := h; exact h.free j
theorem DS.cell {la : List ByteArray} {lb : List Int} {N G k : Nat} {wd wr : World} (h : DS la lb N wd G k wr) (hk : k < N) : wr.cell? ⟨G, k, none⟩ = some (.pointer none) := by
  obtain ⟨ps, h1, h2, h3, _⟩ := h
  subst h1
  refine h3.cell ?_
  rw [List.getElem?_append_right (by simp), List.length_map, Nat.sub_self, List.getElem?_replicate, if_pos (by omega)]
theorem DS.read {la : List ByteArray} {lb : List Int} {N G k : Nat} {wd wr : World} {aa rb : Option Addr} (hs : Src la lb N wd aa rb) (h : DS la lb N wd G k wr) (hk : k < N) :
    ∃ (s : ByteArray) (a : Nat) (x1 x2 : Addr), aa = some x1 ∧ rb = some x2 ∧ wr.cell? (x1.add k) = some (.string s) ∧ wr.cell? (x2.add k) = some (.int .i64 a) ∧ la[k]? = some s ∧ lb.getD k 0 = a := by
  obtain ⟨ps, _, _, _, hb, _⟩ := h
  obtain ⟨s, a, x1, x2, e1, e2, q1, q2, q3, q4⟩ := hs.at' k hk
  exact ⟨s, a, x1, x2, e1, e2, (hb.cell (p := x1.add k) (by rw [zs.add_block]; exact zs.addr_lt q1)).trans q1, (hb.cell (p := x2.add k) (by rw [zs.add_block]; exact zs.addr_lt q2)).trans q2, q3, q4⟩
/-- the world behind the k-th definition -/
def nextW (wr : World) (G k : Nat) (s : ByteArray) (a : Nat) : World :=
  (((wr.setCell ⟨G, k, none⟩ (.pointer (some ⟨wr.heap.size + 1, 0, none⟩))).alloc (.cells (madeCells #[.string ⟨#[]⟩] a) 9)).alloc (.cells #[.string s, .slice (some ⟨wr.heap.size, 0, none⟩) a a, .pointer none] 33)).drew
theorem nextW_upd (wr : World) (G k : Nat) (s : ByteArray) (a : Nat) : Upd (· = G) wr (nextW wr G k s a) := by
  unfold nextW
  exact (((Upd.setCell (S := (· = G)) (Upd.refl _ wr) (p := ⟨G, k, none⟩) (.inl rfl) _).alloc _).alloc _).drew
theorem nextW_def (wr : World) (G k : Nat) (s : ByteArray) (a : Nat) : DefAt (nextW wr G k s a) (wr.heap.size + 1) (s, (a : Int)) := by
  have h := Blk.new ((wr.setCell ⟨G, k, none⟩ (.pointer (some ⟨wr.heap.size + 1, 0, none⟩))).alloc (.cells (madeCells #[.string ⟨#[]⟩] a) 9)) #[.string s, .slice (some ⟨wr.heap.size, 0, none⟩) a a, .pointer none] 33
  have e : ((wr.setCell ⟨G, k, none⟩ (.pointer (some ⟨wr.heap.size + 1, 0, none⟩))).alloc (.cells (madeCells #[.string ⟨#[]⟩] a) 9)).heap.size = wr.heap.size + 1 := by simp
  rw [e] at h
  have h' : Blk (nextW wr G k s a) (wr.heap.size + 1) #[.string s, .slice (some ⟨wr.heap.size, 0, none⟩) a a, .pointer none] 33 := h
  exact ⟨by rw [h'.cell]; rfl, _, _, _, by rw [h'.cell]; rfl, rfl⟩
theorem row_next (ps : List Nat) (p n : Nat) (h : 0 < n) : (ps.map coll.ptr ++ List.replicate n (Value.pointer none)).set ps.length (coll.ptr p) = (ps ++ [p]).map coll.ptr ++ List.replicate (n - 1) (.pointer none) := by
  obtain ⟨m, rfl⟩ : ∃ m, n = m + 1 := ⟨n - 1, by omega⟩
  rw [List.set_append_right _ _ (by simp)]
  simp [List.replicate_succ]
theorem DefAt.upd {S : Nat → Prop} {w w' : World} {p : Nat} {x : ByteArray × Int} (h : DefAt w p x) (hu : Upd S w w') (hp : ¬ S p) : DefAt w' p x := by
  obtain ⟨h1, ao, n, cp, h2, h3⟩ := h
  exact ⟨(hu.cell (p := ⟨p, 0, none⟩) (blk_lt h1) hp).trans h1, ao, n, cp, (hu.cell (p := ⟨p, 1, none⟩) (blk_lt h2) hp).trans h2, h3⟩
theorem DS.next {la : List ByteArray} {lb : List Int} {N G k : Nat} {wd wr : World} {x1 x2 : Addr} {s : ByteArray} {a : Nat} (hs : Src la lb N wd (some x1) (some x2)) (h : DS la lb N wd G k wr) (hk : k < N) (h1 : la[k]? = some s) (h2 : lb.getD k 0 = a) (c1 : wr.cell? (x1.add k) = some (.string s)) (c2 : wr.cell? (x2.add k) = some (.int .i64 a)) (hG : G = wd.heap.size) :
    ((nextW wr G k s a).cell? (x1.add k) = some (.string s) ∧ (nextW wr G k s a).cell? (x2.add k) = some (.int .i64 a)) ∧ Hid (DS la lb N wd G (k + 1) (nextW wr G k s a)) := by
  have hu := nextW_upd wr G k s a
  have hGl := h.lt
  obtain ⟨s', a', y1, y2, e1, e2, q1, q2, _, _⟩ := hs.at' k hk
  cases e1; cases e2
  have l1 := zs.addr_lt q1
  have l2 := zs.addr_lt q2
  refine ⟨⟨(hu.cell (p := x1.add k) (by rw [zs.add_block]; omega) (by rw [zs.add_block]; omega)).trans c1, (hu.cell (p := x2.add k) (by rw [zs.add_block]; omega) (by rw [zs.add_block]; omega)).trans c2⟩, ?_⟩
  obtain ⟨ps, p1, p2, p3, p4, p5⟩ := h
  refine ⟨ps ++ [wr.heap.size + 1], by simp [p1], hk, ?_, p4.trans (hu.below (by have := p4.size; omega) (fun b e => by omega)), fun j p hp => ?_⟩
  · have h := p3.set k (.pointer (some ⟨wr.heap.size + 1, 0, none⟩))
    have e := row_next ps (wr.heap.size + 1) (N - k) (by omega)
    rw [p1] at e
    have e2 : coll.ptr (wr.heap.size + 1) = .pointer (some ⟨wr.heap.size + 1, 0, none⟩) := rfl
    rw [← e2, e] at h
    have e3 : N - (k + 1) = N - k - 1 := by omega
    rw [e3]
    exact (h.alloc _).alloc _
  · rcases Nat.lt_or_ge j ps.length with hlt | hge
    · rw [List.getElem?_append_left hlt] at hp
      obtain ⟨h1, h2⟩ := p5 j p hp
      exact ⟨h1, DefAt.upd h2 hu h1⟩
    · have hj : j = ps.length := by have := (List.getElem?_eq_some_iff.1 hp).1; simp at this; omega
      subst hj
      simp at hp
      subst hp
      refine ⟨by omega, ?_⟩
      have e : key la lb ps.length = (s, (a : Int)) := by rw [p1]; unfold key; rw [h2]; simp [List.getD, h1]
      rw [e]; exact nextW_def wr G k s a

/-- the keys in order -/
def keys (la : List ByteArray) (lb : List Int) (N : Nat) : List (ByteArray × Int) := (List.range N).map (key la lb)
theorem Src.good {la : List ByteArray} {lb : List Int} {N : Nat} {w : World} {aa rb : Option Addr} (h : Src la lb N w aa rb) : Fine (keys la lb N) := fun j x hx => by
  have hj : j < N := by have := (List.getElem?_eq_some_iff.1 hx).1; simpa [keys] using this
  obtain ⟨s, a, _, _, _, _, _, _, q3, q4⟩ := h.at' j hj
  have e : x = (s, (a : Int)) := by
    unfold keys key at hx
    rw [List.getElem?_map, List.getElem?_range hj] at hx
    simp only [Option.map_some, Option.some.injEq] at hx
    rw [← hx, q4]; simp [List.getD, q3]
  obtain ⟨f1, f2, f3, f4⟩ := h.fine j s hj q3
  rw [q4] at f3 f4
  rw [e]; exact ⟨f1, f2, f3, f4⟩
theorem DS.defs {la : List ByteArray} {lb : List Int} {N G : Nat} {wd wr : World} (h : DS la lb N wd G N wr) : Defs wr G N N (keys la lb N) := by
  obtain ⟨ps, p1, p2, p3, p4, p5⟩ := h
  refine ⟨by simp [keys], Nat.le_refl _, fun j x hx => ?_⟩
  have hj : j < N := by have := (List.getElem?_eq_some_iff.1 hx).1; simpa [keys] using this
  obtain ⟨p, hp⟩ : ∃ p, ps[j]? = some p := ⟨_, List.getElem?_eq_getElem (by omega)⟩
  have e : x = key la lb j := by
    unfold keys at hx
    rw [List.getElem?_map, List.getElem?_range hj] at hx
    simpa using hx.symm
  refine ⟨p, p3.cell ?_, by rw [e]; exact (p5 j p hp).2⟩
  rw [List.getElem?_append_left (by simp; omega), List.getElem?_map, hp]; rfl
theorem Defs.kept {w w' : World} {g n cap : Nat} {L : List (ByteArray × Int)} (h : Defs w g n cap L) (hb : Below w.heap.size w w') : Defs w' g n cap L := by
  obtain ⟨h1, h2, h3⟩ := h
  refine ⟨h1, h2, fun j x hx => ?_⟩
  obtain ⟨p, q1, q2⟩ := h3 j x hx
  exact ⟨p, (hb.cell (p := ⟨g, j, none⟩) (blk_lt q1)).trans q1, q2.kept hb⟩

theorem make0 (N : Nat) (hN : N ≤ 8192) (w : World) : (Instr.makeSlice 29 (.int .i64 0) (.int .i64 ((N : Int) + 1))).run Tryd.prog w = .ok (.slice (some ⟨w.heap.size, 0, none⟩) 0 (N + 1)) (w.alloc (.cells (madeCells #[.pointer none] (N + 1)) 30)) := by
  obtain ⟨i, hi, hz, hs, hb⟩ := info_parts info30
  have h := run_make (P := Tryd.prog) w 29 30 i (.pointer none) Tryd.underlying29 hi hz .i64 .i64 0 ((N : Int) + 1) (by omega) (by omega) (by rw [hb]; omega) (by omega)
  have e : ((N : Int) + 1).toNat = N + 1 := by omega
  have e2 : (Value.pointer none).cells = #[.pointer none] := rfl
  rw [e, hs, Nat.mul_one, e2] at h
  exact h
/-- a row of definitions that grows -/
def RS (wf : World) (KS : List (ByteArray × Int)) (V : Value) (wr : World) : Prop :=
  ∃ ps : List Nat, ps.length = KS.length ∧ wr.ownsRow wf.heap.size 30 1 V ps.length (ptrs ps) ∧ Below wf.heap.size wf wr ∧ ∀ (j p : Nat), ps[j]? = some p → V.ownBlock ≠ some p ∧ ∃ x, KS[j]? = some x ∧ DefAt wr p x
theorem RS.start (wf : World) (N : Nat) (hN : N ≤ 8192) : RS wf [] (.slice (some ⟨wf.heap.size, 0, none⟩) 0 (N + 1)) (wf.alloc (.cells (madeCells #[.pointer none] (N + 1)) 30)) :=
  ⟨[], rfl, World.ownsRow_made wf _ _ (Nat.le_refl _) (by unfold maxLen; omega) (by simp [size_madeCells]), (Below.refl _ _).alloc (Nat.le_refl _) _, fun j p h => by simp at h⟩
theorem fin_rs {wf wr a w1 : World} {KS : List (ByteArray × Int)} {V : Value} {x : ByteArray × Int} {ps : List Nat} {g2 cp2 H p : Nat} (hl : ps.length = KS.length) (hrow : wr.ownsRow wf.heap.size 30 1 V ps.length (ptrs ps)) (hB : Below wf.heap.size wf wr) (hat : ∀ (j p : Nat), ps[j]? = some p → V.ownBlock ≠ some p ∧ ∃ x, KS[j]? = some x ∧ DefAt wr p x)
    (hu : Upd (fun _ => False) wr a) (hp : wr.heap.size ≤ p) (hd : DefAt a p x) (hown : w1.ownsRow wf.heap.size 30 1 (.slice (some ⟨g2, 0, none⟩) (ps.length + 1) cp2) (ps.length + 1) (ptrs ps ++ [coll.ptr p])) (hgrow : a.grownBy w1 V.ownBlock) (hg : V.ownBlock = some g2 ∨ g2 = H) (hH : a.heap.size ≤ H) :
    RS wf (KS ++ [x]) (.slice (some ⟨g2, 0, none⟩) (ps.length + 1) cp2) w1 ∧ Below wf.heap.size wf w1 := by
  have hal := hu.size
  have hsz := hB.size
  have hB1 : Below wf.heap.size wf w1 := (hB.trans (hu.below hsz (fun _ h => h.elim))).grown hgrow (by omega) (fun b hb => (hrow.lt b hb).1)
  have hold : ∀ (q : Nat) (y : ByteArray × Int), DefAt a q y → V.ownBlock ≠ some q → DefAt w1 q y := fun q y ⟨h1, ao, n, cp, h2, h3⟩ hne =>
    ⟨(World.cell?_of_block (w := a) (hgrow.block q (blk_lt h1) (fun e => hne e.symm))).trans h1, ao, n, cp, (World.cell?_of_block (w := a) (hgrow.block q (blk_lt h2) (fun e => hne e.symm))).trans h2, h3⟩
  refine ⟨⟨ps ++ [p], by simp [hl], by rw [ptrs_snoc, List.length_append]; exact hown, hB1, fun j q hq => ?_⟩, hB1⟩
  have hgp : ∀ q, (Value.slice (some ⟨g2, 0, none⟩) (ps.length + 1) cp2).ownBlock = some q → g2 = q := fun q e => by simpa [Value.ownBlock] using e
  rcases Nat.lt_or_ge j ps.length with hlt | hge
  · rw [List.getElem?_append_left hlt] at hq
    obtain ⟨h1, y, h2, h3⟩ := hat j q hq
    have hql := blk_lt h3.1
    refine ⟨fun e => ?_, y, by rw [List.getElem?_append_left (List.getElem?_eq_some_iff.1 h2).1]; exact h2, hold q y (DefAt.upd h3 hu id) h1⟩
    have := hgp q e
    rcases hg with h | h
    · exact h1 (this ▸ h)
    · omega
  · have hj : j = ps.length := by have := (List.getElem?_eq_some_iff.1 hq).1; simp at this; omega
    subst hj
    simp at hq
    subst hq
    have hpl := blk_lt hd.1
    have hpV : V.ownBlock ≠ some p := fun e => by have := (hrow.lt p e).2; omega
    refine ⟨fun e => ?_, x, by rw [hl]; simp, hold p x hd hpV⟩
    have := hgp p e
    rcases hg with h | h
    · exact hpV (this ▸ h)
    · omega
theorem RS.defs {wf wr : World} {KS : List (ByteArray × Int)} {V : Value} (h : RS wf KS V wr) (h0 : 0 < KS.length) : ∃ g cp, V = .slice (some ⟨g, 0, none⟩) KS.length cp ∧ Defs wr g KS.length cp KS := by
  obtain ⟨ps, p1, p2, p3, p4⟩ := h
  rcases own_form p2 with ⟨_, h, _⟩ | ⟨g, cap, h1, hgb, hgc, hgl⟩
  · omega
  · subst h1
    refine ⟨g, cap, by rw [p1], rfl, by omega, fun j x hx => ?_⟩
    obtain ⟨p, hp⟩ : ∃ p, ps[j]? = some p := ⟨_, List.getElem?_eq_getElem (by have := (List.getElem?_eq_some_iff.1 hx).1; omega)⟩
    obtain ⟨_, y, h2, h3⟩ := p4 j p hp
    rw [hx] at h2; cases h2
    refine ⟨p, ?_, h3⟩
    rw [p2.cellAt j (by have := (List.getElem?_eq_some_iff.1 hp).1; omega)]
    simp [ptrs, hp, coll.ptr]
theorem def_at (X : World) (o1 o3 : Obj) (s : ByteArray) (a q n : Nat) (h : X.heap.size = n) : DefAt (((X.alloc o1).alloc (.cells #[.string s, .slice (some ⟨q, 0, none⟩) a a, .pointer none] 33)).alloc o3) (n + 1) (s, (a : Int)) := by
  have h1 := (Blk.new (X.alloc o1) #[.string s, .slice (some ⟨q, 0, none⟩) a a, .pointer none] 33).alloc o3
  have e : (X.alloc o1).heap.size = n + 1 := by simp [h]
  rw [e] at h1
  exact ⟨by rw [h1.cell]; rfl, _, _, _, by rw [h1.cell]; rfl, rfl⟩
theorem def_at_drew (X : World) (o1 o3 : Obj) (s : ByteArray) (a q n : Nat) (h : X.heap.size = n) : DefAt (((X.alloc o1).alloc (.cells #[.string s, .slice (some ⟨q, 0, none⟩) a a, .pointer none] 33)).alloc o3).drew (n + 1) (s, (a : Int)) := def_at X o1 o3 s a q n h
/-- the keys from the last down -/
def revK (la : List ByteArray) (lb : List Int) (N t : Nat) : List (ByteArray × Int) := (List.range t).map fun j => key la lb (N - 1 - j)
theorem revK_snoc (la : List ByteArray) (lb : List Int) (N t : Nat) : revK la lb N (t + 1) = revK la lb N t ++ [key la lb (N - 1 - t)] := by simp [revK, List.range_succ]
theorem revK_len (la : List ByteArray) (lb : List Int) (N t : Nat) : (revK la lb N t).length = t := by simp [revK]
theorem revK_perm (la : List ByteArray) (lb : List Int) (N : Nat) : (revK la lb N N).Perm (keys la lb N) := by
  have e : revK la lb N N = (keys la lb N).reverse := by
    apply List.ext_getElem?
    intro j
    rcases Nat.lt_or_ge j N with hj | hj
    · rw [List.getElem?_reverse (by simp [keys]; exact hj)]
      simp [revK, keys, hj]
      rw [List.getElem?_range (by omega)]; rfl
    · rw [List.getElem?_eq_none (by simp [revK]; exact hj), List.getElem?_eq_none (by simp [keys]; exact hj)]
  rw [e]; exact List.reverse_perm _
def hiddenK : ByteArray × Int := (⟨#[95, 122, 122, 104, 105, 100, 100, 101, 110]⟩, 1)
theorem hidden_vis : vis hiddenK.1 = false := by decide
theorem vis_perm (la : List ByteArray) (lb : List Int) (N : Nat) : (visK (revK la lb N N ++ [hiddenK])).Perm (visK (keys la lb N)) := by
  unfold visK
  rw [List.filter_append]
  have e : ([hiddenK].filter fun x => vis x.1) = [] := by simp [hidden_vis]
  rw [e, List.append_nil]
  exact (revK_perm la lb N).filter _
theorem fine_rev {la : List ByteArray} {lb : List Int} {N : Nat} (h : Fine (keys la lb N)) : Fine (revK la lb N N ++ [hiddenK]) := fun j x hx => by
  rcases List.mem_append.1 (List.mem_of_getElem? hx) with h1 | h1
  · have h2 := (revK_perm la lb N).mem_iff.1 h1
    obtain ⟨i, hi⟩ := List.mem_iff_getElem?.1 h2
    exact h i x hi
  · have : x = hiddenK := by simpa using h1
    rw [this]; decide
end Go.Proofs.YtbogmmpbmgibnaaDoor.make
