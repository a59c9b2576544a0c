/- Two rows side by side in memory: names and arities. -/
import Derived.Test.YtbogmmpbmgibnaaDoorAsk
import Derived.Test.YtbogmmpbmgibnaaDoorIns
set_option linter.unusedVariables false
namespace Go.Proofs.YtbogmmpbmgibnaaDoor.pair
open Go.ChangeShapes Go.WideShapes Go.ChangeAt Go.RowKit
open upd zs less order coll fill list13 make askq ins

theorem info3 : (Tryd.prog.info? 3).map (fun i => (i.zero, i.size, i.bytes)) = some (some (.int .i64 0), 1, 8) := by kernel_rfl
def strV (K : List (ByteArray × Int)) : List Value := K.map fun k => .string k.1
def intV (K : List (ByteArray × Int)) : List Value := K.map fun k => .int .i64 k.2
theorem strV_snoc (K : List (ByteArray × Int)) (x : ByteArray × Int) : strV (K ++ [x]) = strV K ++ [.string x.1] := by simp [strV]
theorem intV_snoc (K : List (ByteArray × Int)) (x : ByteArray × Int) : intV (K ++ [x]) = intV K ++ [.int .i64 x.2] := by simp [intV]
/-- two owned rows, apart -/
def PR (w0 w : World) (V1 : Value) (n1 : Nat) (xs : List Value) (V2 : Value) (n2 : Nat) (ys : List Value) : Prop :=
  w.ownsRow w0.heap.size 9 1 V1 n1 xs ∧ w.ownsRow w0.heap.size 3 1 V2 n2 ys ∧ Below w0.heap.size w0 w ∧ ∀ g, V1.ownBlock = some g → V2.ownBlock ≠ some g
theorem PR.start (w : World) (N : Nat) (hN : N ≤ 8192) : PR w ((w.alloc (.cells (madeCells #[.string ⟨#[]⟩] N) 9)).alloc (.cells (madeCells #[.int .i64 0] N) 3)) (.slice (some ⟨w.heap.size, 0, none⟩) 0 N) 0 [] (.slice (some ⟨w.heap.size + 1, 0, none⟩) 0 N) 0 [] := by
  refine ⟨(World.ownsRow_made w _ _ (Nat.le_refl _) (by unfold maxLen; omega) (by simp [size_madeCells])).alloc _, ?_, ((Below.refl _ _).alloc (Nat.le_refl _) _).alloc (by simp) _, fun g h => by simp [Value.ownBlock] at h ⊢; omega⟩
  have h := World.ownsRow_made (base := w.heap.size) (e := 3) (size := 1) (w.alloc (.cells (madeCells #[.string ⟨#[]⟩] N) 9)) (madeCells #[.int .i64 0] N) N (by simp) (by unfold maxLen; omega) (by simp [size_madeCells])
  have e : (w.alloc (.cells (madeCells #[.string ⟨#[]⟩] N) 9)).heap.size = w.heap.size + 1 := by simp
  rw [e] at h; exact h
theorem PR.upd {w0 w a : World} {V1 V2 : Value} {n1 n2 : Nat} {xs ys : List Value} (h : PR w0 w V1 n1 xs V2 n2 ys) (hu : Upd (fun _ => False) w a) : PR w0 a V1 n1 xs V2 n2 ys :=
  ⟨own_kept h.1 hu (fun _ _ => id), own_kept h.2.1 hu (fun _ _ => id), h.2.2.1.trans (hu.below h.2.2.1.size (fun _ h => h.elim)), h.2.2.2⟩
theorem PR.left {w0 a w' : World} {V1 V2 : Value} {n1 n2 m g c H : Nat} {xs ys xs' : List Value} (h : PR w0 a V1 n1 xs V2 n2 ys) (hown : w'.ownsRow w0.heap.size 9 1 (.slice (some ⟨g, 0, none⟩) m c) m xs') (hg : a.grownBy w' V1.ownBlock) (hat : V1.ownBlock = some g ∨ g = H) (hH : a.heap.size ≤ H) :
    PR w0 w' (.slice (some ⟨g, 0, none⟩) m c) m xs' V2 n2 ys := by
  obtain ⟨h1, h2, h3, h4⟩ := h
  have hd : ∀ k, V2.ownBlock = some k → k ≠ g := fun k hk e => by
    rcases hat with h | h
    · exact h4 g h (e ▸ hk)
    · have := (h2.lt k hk).2; omega
  refine ⟨hown, h2.kept hg ?_, h3.grown hg h3.size (fun k hk => (h1.lt k hk).1), fun k hk e => ?_⟩
  · cases hV : V2.ownBlock with
    | none => exact .inl rfl
    | some k => exact .inr (fun e => h4 k e.symm hV)
  · have : g = k := by simpa [Value.ownBlock] using hk
    exact hd k e this.symm
theorem PR.right {w0 a w' : World} {V1 V2 : Value} {n1 n2 m g c H : Nat} {xs ys ys' : List Value} (h : PR w0 a V1 n1 xs V2 n2 ys) (hown : w'.ownsRow w0.heap.size 3 1 (.slice (some ⟨g, 0, none⟩) m c) m ys') (hg : a.grownBy w' V2.ownBlock) (hat : V2.ownBlock = some g ∨ g = H) (hH : a.heap.size ≤ H) :
    PR w0 w' V1 n1 xs (.slice (some ⟨g, 0, none⟩) m c) m ys' := by
  obtain ⟨h1, h2, h3, h4⟩ := h
  refine ⟨h1.kept hg ?_, hown, h3.grown hg h3.size (fun k hk => (h2.lt k hk).1), fun k hk e => ?_⟩
  · cases hV : V1.ownBlock with
    | none => exact .inl rfl
    | some k => exact .inr (fun e => h4 k hV e.symm)
  · have e1 : g = k := by simpa [Value.ownBlock] using e
    rcases hat with h | h
    · exact h4 k hk (e1 ▸ h)
    · have := (h1.lt k hk).2; omega
/-- both rows hold K -/
def TR (w0 w : World) (V1 V2 : Value) (K : List (ByteArray × Int)) : Prop := PR w0 w V1 K.length (strV K) V2 K.length (intV K)
theorem TR.forms {w0 w : World} {V1 V2 : Value} {K : List (ByteArray × Int)} (h : TR w0 w V1 V2 K) : ∃ va c1 vb c2, V1 = .slice va K.length c1 ∧ V2 = .slice vb K.length c2 := by
  obtain ⟨va, c1, e1⟩ := slice_form h.1
  obtain ⟨vb, c2, e2⟩ := slice_form h.2.1
  exact ⟨va, c1, vb, c2, e1, e2⟩
/-- what the places of both rows hold -/
theorem TR.at' {w0 w : World} {va vb : Option Addr} {t c1 c2 : Nat} {K : List (ByteArray × Int)} (h : TR w0 w (.slice va t c1) (.slice vb t c2) K) {j : Nat} {x : ByteArray × Int} (hx : K[j]? = some x) :
    ∃ g1 g2, va = some ⟨g1, 0, none⟩ ∧ vb = some ⟨g2, 0, none⟩ ∧ g1 ≠ g2 ∧ w.cell? ⟨g1, j, none⟩ = some (.string x.1) ∧ w.cell? ⟨g2, j, none⟩ = some (.int .i64 x.2) ∧ (∀ i, w.frozen? ⟨g1, i, none⟩ = false) ∧ (∀ i, w.frozen? ⟨g2, i, none⟩ = false) ∧ t = K.length := by
  obtain ⟨h1, h2, h3, h4⟩ := h
  have hj := (List.getElem?_eq_some_iff.1 hx).1
  rcases own_form h1 with ⟨e, h0, _⟩ | ⟨g1, c1', e1, _, _, _⟩
  · omega
  rcases own_form h2 with ⟨e, h0, _⟩ | ⟨g2, c2', e2, _, _, _⟩
  · omega
  simp only [Value.slice.injEq] at e1 e2
  obtain ⟨rfl, rfl, rfl⟩ := e1
  obtain ⟨rfl, _, rfl⟩ := e2
  refine ⟨g1, g2, rfl, rfl, fun e => h4 g1 rfl (by rw [e]; rfl), ?_, ?_, fun i => h1.frozenAt i, fun i => h2.frozenAt i, rfl⟩
  · rw [h1.cellAt j (by omega)]; simp [strV, hx]
  · rw [h2.cellAt j (by omega)]; simp [intV, hx]
theorem TR.size {w0 w : World} {va vb : Option Addr} {t c1 c2 : Nat} {K : List (ByteArray × Int)} (h : TR w0 w (.slice va t c1) (.slice vb t c2) K) : t = K.length ∧ K.length ≤ c1 ∧ K.length ≤ c2 := by
  obtain ⟨h1, h2, _⟩ := h
  rcases own_form h1 with ⟨e1, h0, _⟩ | ⟨g1, c1', e1, _, hc1, _⟩ <;> rcases own_form h2 with ⟨e2, h0', _⟩ | ⟨g2, c2', e2, _, hc2, _⟩ <;> simp only [Value.slice.injEq] at e1 e2 <;> omega
/-- the exchange in both rows -/
theorem TR.xch {w0 w : World} {g1 g2 t c1 c2 j : Nat} {K : List (ByteArray × Int)} {x y : ByteArray × Int} (h : TR w0 w (.slice (some ⟨g1, 0, none⟩) t c1) (.slice (some ⟨g2, 0, none⟩) t c2) K) (hx : K[j]? = some x) (hy : K[j + 1]? = some y) :
    TR w0 ((((w.setCell ⟨g1, j + 1, none⟩ (.string x.1)).setCell ⟨g1, j, none⟩ (.string y.1)).setCell ⟨g2, j + 1, none⟩ (.int .i64 x.2)).setCell ⟨g2, j, none⟩ (.int .i64 y.2)) (.slice (some ⟨g1, 0, none⟩) t c1) (.slice (some ⟨g2, 0, none⟩) t c2) (xch K j x y) := by
  have ht := h.size.1
  subst ht
  obtain ⟨h1, h2, h3, h4⟩ := h
  have hne : g1 ≠ g2 := fun e => h4 g1 rfl (by rw [e]; rfl)
  have l1 := h1.lt g1 rfl
  have l2 := h2.lt g2 rfl
  have hl := xch_len K j x y
  obtain ⟨a1, _⟩ := h1.stored (j + 1) (.string x.1)
  obtain ⟨a2, _⟩ := a1.stored j (.string y.1)
  have es : ((strV K).set (j + 1) (.string x.1)).set j (.string y.1) = strV (ins.xch K j x y) := by simp [strV, ins.xch, List.map_set]
  have ei : ((intV K).set (j + 1) (.int .i64 x.2)).set j (.int .i64 y.2) = intV (ins.xch K j x y) := by simp [intV, ins.xch, List.map_set]
  have b0 := own_kept h2 (S := (· = g1)) (((Upd.refl (· = g1) w).setCell (p := ⟨g1, j + 1, none⟩) (.inl rfl) (.string x.1)).setCell (p := ⟨g1, j, none⟩) (.inl rfl) (.string y.1)) (fun g hg e => by
    have : g2 = g := by simpa [Value.ownBlock] using hg
    omega)
  obtain ⟨b1, _⟩ := b0.stored (j + 1) (.int .i64 x.2)
  obtain ⟨b2, _⟩ := b1.stored j (.int .i64 y.2)
  have a3 := own_kept a2 (S := (· = g2)) (((Upd.refl (· = g2) _).setCell (p := ⟨g2, j + 1, none⟩) (.inl rfl) (.int .i64 x.2)).setCell (p := ⟨g2, j, none⟩) (.inl rfl) (.int .i64 y.2)) (fun g hg e => by
    have : g1 = g := by simpa [Value.ownBlock] using hg
    omega)
  rw [es] at a3
  rw [ei] at b2
  unfold TR
  rw [hl]
  exact ⟨a3, b2, (((h3.setCell (p := ⟨g1, j + 1, none⟩) l1.1 _).setCell (p := ⟨g1, j, none⟩) l1.1 _).setCell (p := ⟨g2, j + 1, none⟩) l2.1 _).setCell (p := ⟨g2, j, none⟩) l2.1 _, h4⟩
/-- what is read on the way of an exchange -/
theorem TR.moves {w0 w : World} {g1 g2 t c1 c2 q u : Nat} {K : List (ByteArray × Int)} {x y : ByteArray × Int} (h : TR w0 w (.slice (some ⟨g1, 0, none⟩) t c1) (.slice (some ⟨g2, 0, none⟩) t c2) K) (hx : K[u]? = some x) (hy : K[q]? = some y) (hqu : q ≠ u) :
    (w.setCell ⟨g1, q, none⟩ (.string x.1)).cell? ⟨g1, u, none⟩ = some (.string x.1) ∧ (w.setCell ⟨g1, q, none⟩ (.string x.1)).frozen? ⟨g1, u, none⟩ = false ∧
    ((w.setCell ⟨g1, q, none⟩ (.string x.1)).setCell ⟨g1, u, none⟩ (.string y.1)).cell? ⟨g2, q, none⟩ = some (.int .i64 y.2) ∧ ((w.setCell ⟨g1, q, none⟩ (.string x.1)).setCell ⟨g1, u, none⟩ (.string y.1)).cell? ⟨g2, u, none⟩ = some (.int .i64 x.2) ∧ ((w.setCell ⟨g1, q, none⟩ (.string x.1)).setCell ⟨g1, u, none⟩ (.string y.1)).frozen? ⟨g2, q, none⟩ = false ∧
    (((w.setCell ⟨g1, q, none⟩ (.string x.1)).setCell ⟨g1, u, none⟩ (.string y.1)).setCell ⟨g2, q, none⟩ (.int .i64 x.2)).cell? ⟨g2, u, none⟩ = some (.int .i64 x.2) ∧ (((w.setCell ⟨g1, q, none⟩ (.string x.1)).setCell ⟨g1, u, none⟩ (.string y.1)).setCell ⟨g2, q, none⟩ (.int .i64 x.2)).frozen? ⟨g2, u, none⟩ = false := by
  have ht := h.size.1
  subst ht
  obtain ⟨h1, h2, h3, h4⟩ := h
  have hne : g1 ≠ g2 := fun e => h4 g1 rfl (by rw [e]; rfl)
  have lu := (List.getElem?_eq_some_iff.1 hx).1
  have lq := (List.getElem?_eq_some_iff.1 hy).1
  obtain ⟨a1, _⟩ := h1.stored q (.string x.1)
  have b0 := own_kept h2 (S := (· = g1)) (((Upd.refl (· = g1) w).setCell (p := ⟨g1, q, none⟩) (.inl rfl) (.string x.1)).setCell (p := ⟨g1, u, none⟩) (.inl rfl) (.string y.1)) (fun g hg e => by
    have : g2 = g := by simpa [Value.ownBlock] using hg
    omega)
  obtain ⟨b1, _⟩ := b0.stored q (.int .i64 x.2)
  refine ⟨?_, a1.frozenAt u, ?_, ?_, b0.frozenAt q, ?_, b1.frozenAt u⟩
  · rw [a1.cellAt u (by omega), List.getElem?_set_ne hqu]; simp [strV, hx]
  · rw [b0.cellAt q (by omega)]; simp [intV, hy]
  · rw [b0.cellAt u (by omega)]; simp [intV, hx]
  · rw [b1.cellAt u (by omega), List.getElem?_set_ne hqu]; simp [intV, hx]
theorem makeS (N : Nat) (hN : N ≤ 8192) (w : World) : (Instr.makeSlice 22 (.int .i64 0) (.int .i64 (N : Int))).run Tryd.prog w = .ok (.slice (some ⟨w.heap.size, 0, none⟩) 0 N) (w.alloc (.cells (madeCells #[.string ⟨#[]⟩] N) 9)) := by
  obtain ⟨i, hi, hz, hs, hb⟩ := info_parts make.info9
  have h := run_make (P := Tryd.prog) w 22 9 i (.string ⟨#[]⟩) Tryd.underlying22 hi hz .i64 .i64 0 (N : Int) (by omega) (by omega) (by rw [hb]; omega) (by omega)
  have e2 : (Value.string ⟨#[]⟩).cells = #[.string ⟨#[]⟩] := rfl
  rw [Int.toNat_natCast, hs, Nat.mul_one, e2] at h
  exact h
theorem makeI (N : Nat) (hN : N ≤ 8192) (w : World) : (Instr.makeSlice 23 (.int .i64 0) (.int .i64 (N : Int))).run Tryd.prog w = .ok (.slice (some ⟨w.heap.size, 0, none⟩) 0 N) (w.alloc (.cells (madeCells #[.int .i64 0] N) 3)) := by
  obtain ⟨i, hi, hz, hs, hb⟩ := info_parts info3
  have h := run_make (P := Tryd.prog) w 23 3 i (.int .i64 0) Tryd.underlying23 hi hz .i64 .i64 0 (N : Int) (by omega) (by omega) (by rw [hb]; omega) (by omega)
  have e2 : (Value.int .i64 0).cells = #[.int .i64 0] := rfl
  rw [Int.toNat_natCast, hs, Nat.mul_one, e2] at h
  exact h
theorem Fine.vis {L : List (ByteArray × Int)} (h : Fine L) : Fine (visK L) := fun j x hx => by
  have h2 : x ∈ L := (List.mem_filter.1 (List.mem_of_getElem? hx)).1
  obtain ⟨i, hi⟩ := List.mem_iff_getElem?.1 h2
  exact h i x hi
theorem Fine.perm {L K : List (ByteArray × Int)} (h : Fine L) (hp : K.Perm L) : Fine K := fun j x hx => by
  have h2 : x ∈ L := hp.mem_iff.1 (List.mem_of_getElem? hx)
  obtain ⟨i, hi⟩ := List.mem_iff_getElem?.1 h2
  exact h i x hi
end Go.Proofs.YtbogmmpbmgibnaaDoor.pair
