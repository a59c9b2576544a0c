/- Function definitions in memory; the visible ones collected. -/
import Derived.Test.YtbogmmpbmgibnaaDoorSort
import Derived.Deep.RegionHeld
set_option linter.unusedVariables false
namespace Go.Proofs.YtbogmmpbmgibnaaDoor.coll
open Go.ChangeShapes Go.WideShapes Go.ChangeAt Go.RowKit
open upd zs less order sort'

def ptr (p : Nat) : Value := .pointer (some ⟨p, 0, none⟩)
def ptrs (l : List Nat) : List Value := l.map ptr
theorem ptrs_len (l : List Nat) : (ptrs l).length = l.length := by simp [ptrs]
theorem ptrs_snoc (l : List Nat) (p : Nat) : ptrs (l ++ [p]) = ptrs l ++ [ptr p] := by simp [ptrs]
/-- a name that is not hidden -/
def vis (nm : ByteArray) : Bool := if h : 0 < nm.size then (((nm[0]'h).toNat : Int) != 95) else false
def visK (L : List (ByteArray × Int)) : List (ByteArray × Int) := L.filter fun x => vis x.1
/-- a definition: its name, the number of its parameters -/
def DefAt (w : World) (p : Nat) (x : ByteArray × Int) : Prop := w.cell? ⟨p, 0, none⟩ = some (.string x.1) ∧ ∃ ao n cp, w.cell? ⟨p, 1, none⟩ = some (.slice ao n cp) ∧ (n : Int) = x.2
theorem blk_lt {w : World} {b o : Nat} {v : Value} (h : w.cell? ⟨b, o, none⟩ = some v) : b < w.heap.size := by
  have := addr_lt (x := ⟨b, o, none⟩) (i := 0) (v := v) (by unfold Addr.add; rw [if_pos rfl]; exact h)
  exact this
theorem DefAt.kept {w w' : World} {p : Nat} {x : ByteArray × Int} (h : DefAt w p x) (hb : Below w.heap.size w w') : DefAt w' p x := by
  obtain ⟨h1, ao, n, cp, h2, h3⟩ := h
  exact ⟨(hb.cell (p := ⟨p, 0, none⟩) (blk_lt h1)).trans h1, ao, n, cp, (hb.cell (p := ⟨p, 1, none⟩) (blk_lt h2)).trans h2, h3⟩
/-- a row of definitions -/
def Defs (w : World) (g n cap : Nat) (L : List (ByteArray × Int)) : Prop := n = L.length ∧ n ≤ cap ∧ ∀ j x, L[j]? = some x → ∃ p, w.cell? ⟨g, j, none⟩ = some (.pointer (some ⟨p, 0, none⟩)) ∧ DefAt w p x

/-- what is collected: X holds the slice; its pointers lead to K's keys -/
def XS (base : Nat) (w0 : World) (X : Nat) (K : List (ByteArray × Int)) (wr : World) : Prop :=
  ∃ V ps, Blk wr X #[V] 50 ∧ wr.ownsRow base 51 1 V ps.length (ptrs ps) ∧ V.ownBlock ≠ some X ∧ ps.length = K.length ∧ base ≤ X ∧ base ≤ w0.heap.size ∧ Below base w0 wr ∧
    ∀ (j p : Nat), ps[j]? = some p → p ≠ X ∧ V.ownBlock ≠ some p ∧ base ≤ p ∧ ∃ k : ByteArray × Int, K[j]? = some k ∧ Blk wr p #[.string k.1, .int .i64 k.2] 53
theorem XS.start (base : Nat) (w : World) (h : base = w.heap.size) : XS base w base [] (w.alloc (.cells #[.slice none 0 0] 50)) := by
  subst h
  exact ⟨_, [], Blk.new _ _ _, World.ownsRow_nil _ _ _ _, by simp [Value.ownBlock], rfl, Nat.le_refl _, Nat.le_refl _, (Below.refl _ _).alloc (Nat.le_refl _) _, fun j p h => by simp at h⟩
theorem fin_xs {base X g2 cp2 H p : Nat} {w0 wr a w1 : World} {K : List (ByteArray × Int)} {V : Value} {ps : List Nat} {k : ByteArray × Int} (hX : Blk wr X #[V] 50) (hrow : wr.ownsRow base 51 1 V ps.length (ptrs ps)) (hVX : V.ownBlock ≠ some X) (hl : ps.length = K.length) (hbX : base ≤ X) (hb0 : base ≤ w0.heap.size) (hB : Below base w0 wr)
    (hat : ∀ (j p : Nat), ps[j]? = some p → p ≠ X ∧ V.ownBlock ≠ some p ∧ base ≤ p ∧ ∃ k : ByteArray × Int, K[j]? = some k ∧ Blk wr p #[.string k.1, .int .i64 k.2] 53) (hu : Upd (fun _ => False) wr a) (hp : p = wr.heap.size) (hpa : Blk a p #[.string k.1, .int .i64 k.2] 53) (hown : w1.ownsRow base 51 1 (.slice (some ⟨g2, 0, none⟩) (ps.length + 1) cp2) (ps.length + 1) (ptrs ps ++ [ptr p]))
    (hgrow : a.grownBy w1 V.ownBlock) (hg : V.ownBlock = some g2 ∨ g2 = H) (hH : a.heap.size ≤ H) :
    w1.cell? ⟨X, 0, none⟩ = some V ∧ w1.frozen? ⟨X, 0, none⟩ = false ∧ Below base w0 w1 ∧ XS base w0 X (K ++ [k]) (w1.setCell ⟨X, 0, none⟩ (.slice (some ⟨g2, 0, none⟩) (ps.length + 1) cp2)) := by
  have hXl := hX.lt
  have hal := hu.size
  have hgl := hgrow.size
  have hsz := hB.size
  have hold : ∀ (b : Nat) (cs : Array Value) (t : TypeId), Blk a b cs t → V.ownBlock ≠ some b → Blk w1 b cs t := fun b cs t hb hne => (hgrow.block b hb.lt (fun e => hne e.symm)).trans hb
  have hXa : Blk a X #[V] 50 := hX.kept hu id
  have hX1 := hold X _ _ hXa hVX
  have hB1 : Below base w0 w1 := (hB.trans (hu.below (by omega) (fun _ h => h.elim))).grown hgrow (by omega) (fun b hb => (hrow.lt b hb).1)
  have hg2 : g2 ≠ X := fun e => by rcases hg with h | h; exact hVX (e ▸ h); omega
  have hset : ∀ (b : Nat) (cs : Array Value) (t : TypeId), Blk w1 b cs t → b ≠ X → Blk (w1.setCell ⟨X, 0, none⟩ (.slice (some ⟨g2, 0, none⟩) (ps.length + 1) cp2)) b cs t := fun b cs t hb hne => hb.other (p := ⟨X, 0, none⟩) hne _
  refine ⟨by rw [hX1.cell]; rfl, hX1.free 0, hB1, .slice (some ⟨g2, 0, none⟩) (ps.length + 1) cp2, ps ++ [p], by simpa using hX1.set 0 (.slice (some ⟨g2, 0, none⟩) (ps.length + 1) cp2), ?_, ?_, by simp [hl], hbX, hb0, hB1.setCell (p := ⟨X, 0, none⟩) hbX _, fun j q hq => ?_⟩
  · rw [ptrs_snoc, List.length_append]
    exact own_kept hown ((Upd.refl (· = X) w1).setCell (p := ⟨X, 0, none⟩) (.inl rfl) _) (fun b hb e => by
      have : g2 = b := by simpa [Value.ownBlock] using hb
      omega)
  · intro e; exact hg2 (by simpa [Value.ownBlock] using e)
  · rcases Nat.lt_or_ge j ps.length with hlt | hge
    · rw [List.getElem?_append_left hlt] at hq
      obtain ⟨h1, h2, h3, k', h4, h5⟩ := hat j q hq
      have h5l := h5.lt
      refine ⟨h1, ?_, h3, k', by rw [List.getElem?_append_left (List.getElem?_eq_some_iff.1 h4).1]; exact h4, hset _ _ _ (hold _ _ _ (h5.kept hu id) h2) h1⟩
      intro e
      have e2 : g2 = q := by simpa [Value.ownBlock] using e
      rcases hg with h | h
      · exact h2 (e2 ▸ h)
      · omega
    · have hj : j = ps.length := by have := (List.getElem?_eq_some_iff.1 hq).1; simp at this; omega
      subst hj
      simp at hq
      have hpl := hpa.lt
      have hpV : V.ownBlock ≠ some p := fun e => by have := (hrow.lt p e).2; omega
      refine ⟨by omega, ?_, by omega, k, by rw [hl]; simp, ?_⟩
      · intro e
        have e2 : g2 = q := by simpa [Value.ownBlock] using e
        rcases hg with h | h
        · exact hpV (by rw [hq, ← e2]; exact h)
        · omega
      · rw [← hq]
        exact hset _ _ _ (hold _ _ _ hpa hpV) (by omega)
theorem slice_form {w : World} {base : Nat} {e : TypeId} {size : Nat} {v : Value} {n : Nat} {xs : List Value} (h : w.ownsRow base e size v n xs) : ∃ ao cp, v = .slice ao n cp := by
  rcases own_form h with ⟨rfl, rfl, _⟩ | ⟨g, cap, rfl, _⟩
  · exact ⟨_, _, rfl⟩
  · exact ⟨_, _, rfl⟩
theorem info51 : (Tryd.prog.info? 51).map (fun i => (i.zero, i.size, i.bytes)) = some (some (.pointer none), 1, 8) := by kernel_rfl
theorem vis_snoc {L : List (ByteArray × Int)} {k : Nat} {x : ByteArray × Int} (h : L[k]? = some x) : visK (L.take (k + 1)) = visK (L.take k) ++ (if vis x.1 then [x] else []) := by
  have e : L.take (k + 1) = L.take k ++ [x] := by rw [List.take_add_one, h]; rfl
  unfold visK
  rw [e, List.filter_append]
  by_cases hv : vis x.1 = true <;> simp [hv]
/-- the row of pointers at its keys -/
def RowK (w : World) (X : Nat) (va : Option Addr) (m vc : Nat) (K : List (ByteArray × Int)) : Prop :=
  m = K.length ∧ w.cell? ⟨X, 0, none⟩ = some (.slice va m vc) ∧ m ≤ vc ∧ ∀ j k, K[j]? = some k → ∃ g p, va = some ⟨g, 0, none⟩ ∧ w.cell? ⟨g, j, none⟩ = some (.pointer (some ⟨p, 0, none⟩)) ∧ w.cell? ⟨p, 0, none⟩ = some (.string k.1) ∧ w.cell? ⟨p, 1, none⟩ = some (.int .i64 k.2)
theorem RowK.kept {w w' : World} {X : Nat} {va : Option Addr} {m vc : Nat} {K : List (ByteArray × Int)} (h : RowK w X va m vc K) (hb : Below w.heap.size w w') : RowK w' X va m vc K := by
  obtain ⟨h1, h2, h3, h4⟩ := h
  refine ⟨h1, (hb.cell (p := ⟨X, 0, none⟩) (blk_lt h2)).trans h2, h3, fun j k hk => ?_⟩
  obtain ⟨g, p, q1, q2, q3, q4⟩ := h4 j k hk
  exact ⟨g, p, q1, (hb.cell (p := ⟨g, j, none⟩) (blk_lt q2)).trans q2, (hb.cell (p := ⟨p, 0, none⟩) (blk_lt q3)).trans q3, (hb.cell (p := ⟨p, 1, none⟩) (blk_lt q4)).trans q4⟩
theorem sortXS {base X : Nat} {w0 wr : World} {K : List (ByteArray × Int)} (h : XS base w0 X K wr) (hm : K.length ≤ 8192) :
    ∃ va m vc, wr.cell? ⟨X, 0, none⟩ = some (.slice va m vc) ∧ Calls Tryd.prog 14 #[.iface 50 (.slice va m vc), .func (.func 15) #[] #[.pointer (some ⟨X, 0, none⟩)]] wr fun e w' => e = .returned (.tuple #[]) ∧ ∃ K', K'.Perm K ∧ InOrder K' ∧ RowK w' X va m vc K' ∧ Below base w0 w' := by
  obtain ⟨V, ps, hX, hrow, hVX, hl, hbX, hb0, hB, hps⟩ := h
  obtain ⟨va, vc, rfl⟩ := slice_form hrow
  have hXc : wr.cell? ⟨X, 0, none⟩ = some (.slice va ps.length vc) := by rw [hX.cell]; rfl
  refine ⟨va, ps.length, vc, hXc, ?_⟩
  have hcell : ∀ g, va = some ⟨g, 0, none⟩ → ∀ j p, ps[j]? = some p → wr.cell? ⟨g, j, none⟩ = some (.pointer (some ⟨p, 0, none⟩)) := fun g hg j p hp => by
    subst hg
    have hj := (List.getElem?_eq_some_iff.1 hp).1
    rw [hrow.cellAt j (by omega)]
    simp [ptrs, hp, ptr]
  by_cases h2 : 2 ≤ ps.length
  · rcases own_form hrow with ⟨_, h0, _⟩ | ⟨g, cap, h1, hgb, hgc, hgl⟩
    · omega
    · simp only [Value.slice.injEq, true_and] at h1
      obtain ⟨rfl, rfl⟩ := h1
      have hgX : X ≠ g := fun e => hVX (by rw [e]; rfl)
      have hP : PRow wr X g ps.length vc K ps := ⟨hXc, hl, rfl, hgc, hgX, hX.lt, hgl, fun j p hp => by
        obtain ⟨p1, p2, p3, k, p4, p5⟩ := hps j p hp
        exact ⟨hcell g rfl j p hp, hrow.frozenAt j, fun e => p2 (by rw [e]; rfl), k, p4, p5⟩⟩
      refine (many wr X g ps.length vc K ps hP h2 (by omega)).mono fun e w' ⟨he, K', qs, k1, k2, k3, k4⟩ => ⟨he, K', k1, k2, ?_, hB.trans (k4.below (by have := hB.size; omega) (fun b e => by rw [e]; exact hgb))⟩
      obtain ⟨q1, q2, q3, q4, q5, q6, q7, q8⟩ := k3
      refine ⟨q2, q1, q4, fun j k hk => ?_⟩
      obtain ⟨p, hp⟩ : ∃ p, qs[j]? = some p := ⟨_, List.getElem?_eq_getElem (by have := (List.getElem?_eq_some_iff.1 hk).1; omega)⟩
      obtain ⟨r1, _, _, k', r2, r3⟩ := q8 j p hp
      rw [hk] at r2; cases r2
      exact ⟨g, p, rfl, r1, by rw [r3.cell]; rfl, by rw [r3.cell]; rfl⟩
  · refine (few wr X ps.length vc va (by omega)).mono fun e w' ⟨he, hb⟩ => ⟨he, K, List.Perm.refl _, ?_, ?_, hB.trans (hb.mono (by have := hB.size; omega))⟩
    · unfold InOrder
      match K, hl with
      | [], _ => exact List.Pairwise.nil
      | [x], _ => exact List.pairwise_singleton _ _
      | x :: y :: r, hl => simp at hl; omega
    · refine RowK.kept (w := wr) ⟨hl, hXc, ?_, fun j k hk => ?_⟩ hb
      · rcases own_form hrow with ⟨_, h0, _⟩ | ⟨g, cap, h1, hgb, hgc, hgl⟩
        · omega
        · simp only [Value.slice.injEq, true_and] at h1
          obtain ⟨rfl, rfl⟩ := h1
          exact hgc
      · obtain ⟨p, hp⟩ : ∃ p, ps[j]? = some p := ⟨_, List.getElem?_eq_getElem (by have := (List.getElem?_eq_some_iff.1 hk).1; omega)⟩
        have hj := (List.getElem?_eq_some_iff.1 hp).1
        rcases own_form hrow with ⟨_, h0, _⟩ | ⟨g, cap, h1, hgb, hgc, hgl⟩
        · omega
        · simp only [Value.slice.injEq, true_and] at h1
          obtain ⟨rfl, rfl⟩ := h1
          obtain ⟨_, _, _, k', r2, r3⟩ := hps j p hp
          rw [hk] at r2; cases r2
          exact ⟨g, p, rfl, hcell g rfl j p hp, by rw [r3.cell]; rfl, by rw [r3.cell]; rfl⟩
end Go.Proofs.YtbogmmpbmgibnaaDoor.coll
