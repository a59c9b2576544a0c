/- The stack and the statement's model: what it means that they are in step, and what each step does to that. -/
import Derived.Test.YtkahmfdebkfcjaaFull
import Derived.IntWalk
namespace Go.Proofs.Ytkahmfdebkfcjaa.step
open Go.ChangeShapes Go.WideShapes Go.ChangeAt Go.RowKit
open upd stack full plain

theorem info3 : (Try.prog.info? 3).map (fun i => (i.zero, i.size, i.bytes)) = some (some (.int .i64 0), 1, 8) := by kernel_rfl
theorem blk_at (W : World) (o : Obj) (n : Nat) (h : W.heap.size = n) : (W.alloc o).heap[n]? = some o := by subst h; exact heap_alloc_last _ _
theorem blk_drew (W : World) (o : Obj) (n : Nat) (h : W.heap.size = n) : (W.alloc o).drew.heap[n]? = some o := blk_at W o n h
theorem news1 (W : World) (x : Value) (t : TypeId) (n : Nat) (h : W.heap.size = n) : ∀ j u, [x][j]? = some u → (W.alloc (.cells #[x] t)).cell? ((⟨n, 0, none⟩ : Addr).add j) = some u := by subst h; exact cell_one_new _ _ _
theorem zemptyQ (w : World) (base b : Nat) (dv : Value) (d : List (Sc × Int)) (idx lim : Int) (h : Stk w base b dv d idx lim) :
    Calls Try.prog 20 #[.pointer (some ⟨b, 0, none⟩)] w fun e w' => e = .returned (.bool (decide (idx < 0))) ∧ w' = w := (zempty w base b dv d idx lim h).mono fun _ _ ⟨h1, h2⟩ => ⟨h1, h2.symm⟩

theorem Stk.drewN {w : World} {base b : Nat} {dv : Value} {d : List (Sc × Int)} {idx lim : Int} (h : Stk w base b dv d idx lim) (n : Nat) : Stk (w.drewN n) base b dv d idx lim := h.kept ((Upd.refl (fun _ => False) _).drewN n) id (fun _ _ => id)
/-- the model's five lists, as the ghosts say -/
def Tie (md : List (Sc × Int)) (sv : List (Int × Int × Int)) (l1 l2 l3 l4 l5 : List Int) : Prop := l1 = md.map (·.1.1) ∧ l2 = md.map (·.2) ∧ l3 = sv.reverse.map (·.1) ∧ l4 = sv.reverse.map (·.2.1) ∧ l5 = sv.reverse.map (·.2.2)
/-- the stack, the model, and that they agree -/
def State (base b mb : Nat) (w : World) (n : Nat) : Prop :=
  ∃ (d md : List (Sc × Int)) (idx lim head : Int) (sv : List (Int × Int × Int)) (col : Nat → Nat) (dv : Value) (a1 a2 a3 a4 a5 : Option Addr) (k1 k2 k3 k4 k5 : Nat) (l1 l2 l3 l4 l5 : List Int),
    Inv d idx lim md head sv ∧ Tie md sv l1 l2 l3 l4 l5 ∧ d.length ≤ n ∧ l1.length ≤ n ∧ l2.length ≤ n ∧ l3.length ≤ n ∧ l4.length ≤ n ∧ l5.length ≤ n ∧
    Full base b mb w col dv d idx lim head a1 a2 a3 a4 a5 k1 k2 k3 k4 k5 l1 l2 l3 l4 l5

theorem below_app {base : Nat} {w wd W we : World} {row : Option Nat} (hb : Below base w wd) (hg : W.grownBy we row) (hu : Upd (fun _ => False) wd W) (hbw : base ≤ wd.heap.size) (hr : ∀ k, row = some k → base ≤ k) : Below base w we :=
  (hb.trans (hu.below hbw (fun _ h => h.elim))).grown hg (Nat.le_trans hbw hu.size) hr
theorem below_stk {base b : Nat} {w wa wb : World} {dv : Value} {d : List (Sc × Int)} {idx lim : Int} (hb : Below base w wa) (hs : Stk wa base b dv d idx lim) (hbb : base ≤ b) (hu : Upd (fun k => k = b ∨ dv.ownBlock = some k) wa wb) (hbw : base ≤ wa.heap.size) : Below base w wb :=
  hb.trans (hu.below hbw (fun k hk => by
    rcases hk with rfl | hk
    · exact hbb
    · exact (hs.row.lt k hk).1))
theorem state_push {base b mb : Nat} {w : World} {col : Nat → Nat} {dv : Value} {d md : List (Sc × Int)} {idx lim head v : Int} {sv : List (Int × Int × Int)} {a1 a2 a3 a4 a5 : Option Addr} {k1 k2 k3 k4 k5 : Nat} {l1 l2 l3 l4 l5 : List Int} {k : Nat}
    (hi : Inv d idx lim md head sv) (ht : Tie md sv l1 l2 l3 l4 l5) (hd : d.length ≤ k) (n1 : l1.length ≤ k) (n2 : l2.length ≤ k) (n3 : l3.length ≤ k) (n4 : l4.length ≤ k) (n5 : l5.length ≤ k)
    (hf : Full base b mb w col dv (put d (top idx lim) ((v, 0, 0, 0, 0), idx)) (top idx lim) lim l1.length a1 a2 a3 a4 a5 k1 k2 k3 k4 k5 (l1 ++ [v]) (l2 ++ [head]) l3 l4 l5) : State base b mb w (k + 1) := by
  obtain ⟨t1, t2, t3, t4, t5⟩ := ht
  have hp := put_len_ge d (top idx lim) ((v, 0, 0, 0, 0), idx) hi.wf.top_le
  have e : ((l1.length : Nat) : Int) = (md.length : Int) := by rw [t1]; simp
  rw [e] at hf
  exact ⟨_, md ++ [((v, 0, 0, 0, 0), head)], _, _, _, sv, col, dv, a1, a2, a3, a4, a5, k1, k2, k3, k4, k5, _, _, l3, l4, l5, hi.push _, ⟨by rw [t1]; simp, by rw [t2]; simp, t3, t4, t5⟩, by omega, by simp; omega, by simp; omega, by omega, by omega, by omega, hf⟩

theorem state_save {base b mb : Nat} {w : World} {col : Nat → Nat} {dv : Value} {d md : List (Sc × Int)} {idx lim head : Int} {sv : List (Int × Int × Int)} {a1 a2 a3 a4 a5 : Option Addr} {k1 k2 k3 k4 k5 : Nat} {l1 l2 l3 l4 l5 : List Int} {k : Nat}
    (hi : Inv d idx lim md head sv) (ht : Tie md sv l1 l2 l3 l4 l5) (hd : d.length ≤ k) (n1 : l1.length ≤ k) (n2 : l2.length ≤ k) (n3 : l3.length ≤ k) (n4 : l4.length ≤ k) (n5 : l5.length ≤ k)
    (hf : Full base b mb w col dv d idx (max idx lim) head a1 a2 a3 a4 a5 k1 k2 k3 k4 k5 l1 l2 (l3 ++ [head]) (l4 ++ [idx]) (l5 ++ [lim])) : State base b mb w (k + 1) := by
  obtain ⟨t1, t2, t3, t4, t5⟩ := ht
  exact ⟨d, md, _, _, _, (head, idx, lim) :: sv, col, dv, a1, a2, a3, a4, a5, k1, k2, k3, k4, k5, l1, l2, _, _, _, hi.save, ⟨t1, t2, by rw [t3]; simp, by rw [t4]; simp, by rw [t5]; simp⟩, by omega, by omega, by omega, by simp; omega, by simp; omega, by simp; omega, hf⟩
/-- a number of an owned list -/
theorem own_at {w : World} {base : Nat} {a : Option Addr} {k : Nat} {l : List Int} {j : Nat} {x : Int} (h : w.ownsRow base 3 1 (.slice a l.length k) l.length (ic l)) (hj : l[j]? = some x) : ∃ g, a = some ⟨g, 0, none⟩ ∧ w.cell? ⟨g, j, none⟩ = some (.int .i64 x) ∧ j < l.length := by
  have hjl := (List.getElem?_eq_some_iff.1 hj).1
  rcases own_form h with ⟨_, h0, _⟩ | ⟨g, cap, e, _⟩
  · omega
  · simp only [Value.slice.injEq] at e
    obtain ⟨rfl, _, _⟩ := e
    exact ⟨g, rfl, by rw [h.cellAt j (by omega)]; exact ic_at l j x hj, hjl⟩
theorem own_cell {w : World} {base g k : Nat} {l : List Int} {j : Nat} {x : Int} (h : w.ownsRow base 3 1 (.slice (some ⟨g, 0, none⟩) l.length k) l.length (ic l)) (hj : l[j]? = some x) : w.cell? ⟨g, j, none⟩ = some (.int .i64 x) := by
  have hjl := (List.getElem?_eq_some_iff.1 hj).1
  rw [h.cellAt j (by omega)]; exact ic_at l j x hj
/-- the last save, in the lists' words -/
theorem tie_last {md : List (Sc × Int)} {h i l : Int} {rest : List (Int × Int × Int)} {l1 l2 l3 l4 l5 : List Int} (ht : Tie md ((h, i, l) :: rest) l1 l2 l3 l4 l5) : ∃ r3 r4 r5, l3 = r3 ++ [h] ∧ l4 = r4 ++ [i] ∧ l5 = r5 ++ [l] ∧ r4.length = r3.length ∧ r5.length = r3.length ∧ Tie md rest l1 l2 r3 r4 r5 := by
  obtain ⟨t1, t2, t3, t4, t5⟩ := ht
  exact ⟨rest.reverse.map (·.1), rest.reverse.map (·.2.1), rest.reverse.map (·.2.2), by rw [t3]; simp, by rw [t4]; simp, by rw [t5]; simp, by simp, by simp, t1, t2, rfl, rfl, rfl⟩
theorem own_last {w : World} {base : Nat} {a : Option Addr} {k : Nat} {r : List Int} {x : Int} (h : w.ownsRow base 3 1 (.slice a (r ++ [x]).length k) (r ++ [x]).length (ic (r ++ [x]))) : ∃ g, a = some ⟨g, 0, none⟩ ∧ r.length + 1 ≤ k := by
  obtain ⟨g, rfl, _, _⟩ := own_at h (j := r.length) (x := x) (by simp)
  refine ⟨g, rfl, ?_⟩
  rcases own_form h with ⟨e, _⟩ | ⟨g', cap, e, _, hle, _⟩
  · simp at e
  · simp only [Value.slice.injEq] at e
    obtain ⟨_, _, rfl⟩ := e
    simpa using hle
theorem own_end {w : World} {base g : Nat} {k n : Nat} {r : List Int} {x : Int} (h : w.ownsRow base 3 1 (.slice (some ⟨g, 0, none⟩) (r ++ [x]).length k) (r ++ [x]).length (ic (r ++ [x]))) (hn : r.length = n) : w.cell? ⟨g, n, none⟩ = some (.int .i64 x) := by
  subst hn
  exact own_cell h (by simp)
theorem state_back {base b mb : Nat} {w : World} {col : Nat → Nat} {dv : Value} {d md : List (Sc × Int)} {idx lim head h i l : Int} {sv : List (Int × Int × Int)} {a1 a2 a3 a4 a5 : Option Addr} {k1 k2 k3 k4 k5 : Nat} {l1 l2 r3 r4 r5 : List Int} {k n : Nat}
    (hi : Inv d idx lim md head ((h, i, l) :: sv)) (ht : Tie md sv l1 l2 r3 r4 r5) (e4 : r4.length = r3.length) (e5 : r5.length = r3.length) (hn : n = r3.length) (hd : d.length ≤ k) (n1 : l1.length ≤ k) (n2 : l2.length ≤ k) (n3 : r3.length ≤ k)
    (hf : Full base b mb w col dv d i l h a1 a2 a3 a4 a5 k1 k2 k3 k4 k5 l1 l2 ((r3 ++ [h]).take n) ((r4 ++ [i]).take n) ((r5 ++ [l]).take n)) : State base b mb w (k + 1) := by
  subst hn
  have t3 : (r3 ++ [h]).take r3.length = r3 := by simp
  have t4 : (r4 ++ [i]).take r3.length = r4 := by rw [← e4]; simp
  have t5 : (r5 ++ [l]).take r3.length = r5 := by rw [← e5]; simp
  rw [t3, t4, t5] at hf
  exact ⟨d, md, _, _, _, sv, col, dv, a1, a2, a3, a4, a5, k1, k2, k3, k4, k5, l1, l2, r3, r4, r5, hi.restore, ht, by omega, by omega, by omega, by omega, by omega, by omega, hf⟩
theorem State.mono {base b mb : Nat} {w : World} {n m : Nat} (h : State base b mb w n) (hm : n ≤ m) : State base b mb w m := by
  obtain ⟨d, md, idx, lim, head, sv, col, dv, a1, a2, a3, a4, a5, k1, k2, k3, k4, k5, l1, l2, l3, l4, l5, hinv, htie, hd, n1, n2, n3, n4, n5, hfull⟩ := h
  exact ⟨d, md, idx, lim, head, sv, col, dv, a1, a2, a3, a4, a5, k1, k2, k3, k4, k5, l1, l2, l3, l4, l5, hinv, htie, by omega, by omega, by omega, by omega, by omega, by omega, hfull⟩
theorem State.drewN {base b mb : Nat} {w : World} {n : Nat} (h : State base b mb w n) (m : Nat) : State base b mb (w.drewN m) n := by
  obtain ⟨d, md, idx, lim, head, sv, col, dv, a1, a2, a3, a4, a5, k1, k2, k3, k4, k5, l1, l2, l3, l4, l5, hinv, htie, hd, n1, n2, n3, n4, n5, hfull⟩ := h
  exact ⟨d, md, idx, lim, head, sv, col, dv, a1, a2, a3, a4, a5, k1, k2, k3, k4, k5, l1, l2, l3, l4, l5, hinv, htie, hd, n1, n2, n3, n4, n5, hfull.still ((Upd.refl _ _).drewN m)⟩
theorem state_pop {base b mb : Nat} {w : World} {col : Nat → Nat} {dv : Value} {d md : List (Sc × Int)} {idx lim head : Int} {sv : List (Int × Int × Int)} {a1 a2 a3 a4 a5 : Option Addr} {k1 k2 k3 k4 k5 : Nat} {l1 l2 l3 l4 l5 : List Int} {k : Nat}
    (hi : Inv d idx lim md head sv) (ht : Tie md sv l1 l2 l3 l4 l5) (hd : d.length ≤ k) (n1 : l1.length ≤ k) (n2 : l2.length ≤ k) (n3 : l3.length ≤ k) (n4 : l4.length ≤ k) (n5 : l5.length ≤ k)
    (hf : Full base b mb w col dv d idx lim head a1 a2 a3 a4 a5 k1 k2 k3 k4 k5 l1 l2 l3 l4 l5) : State base b mb w (k + 1) :=
  ⟨d, md, idx, lim, head, sv, col, dv, a1, a2, a3, a4, a5, k1, k2, k3, k4, k5, l1, l2, l3, l4, l5, hi, ht, by omega, by omega, by omega, by omega, by omega, by omega, hf⟩

end Go.Proofs.Ytkahmfdebkfcjaa.step
