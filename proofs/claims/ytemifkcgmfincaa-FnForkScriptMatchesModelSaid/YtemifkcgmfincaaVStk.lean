/- The value stack in memory, and what its methods do to it. Printed by gen_stack.py. -/
import Derived.Test.YtemifkcgmfincaaProg
import Derived.Test.YtemifkcgmfincaaBase
import Derived.Test.YtemifkcgmfincaaUpd
import Derived.Test.YtemifkcgmfincaaPlain
import Derived.WalkKit
import Derived.KernelRfl
import Derived.ProofKit
import Derived.OpenShut
import Derived.LoopTactic
import Derived.Lib.Hide
import Derived.WalkLawsBesides
import Derived.WalkSpells
import Derived.Laws.EntriesVeiled
import Derived.OwnWalk
import Derived.Deep.WholeRow
import Derived.Deep.DrawnRows
import Derived.Deep.QuietTactic
import Derived.BigQuiet
import Derived.RegionTactic
import Derived.ChangeAlike
import Derived.BigRegion
import Derived.Deep.RegionHeld3
import Derived.Deep.RegionLaw
import Derived.Deep.AppendLies
namespace Go.Proofs.Ytemifkcgmfincaa.vstk
open Go.ChangeShapes Go.WideShapes Go.ChangeAt Go.RowKit
open upd

/-- an entry's cells -/
def ec (x : Int × Int) : List Value := [.iface 3 (.int .i64 x.1), .int .i64 x.2]
def ecs (d : List (Int × Int)) : List Value := d.flatMap ec
/-- what is pushed, as a value -/
def scv (s : Int) : Value := .iface 3 (.int .i64 s)

structure Stk (w : World) (base b : Nat) (dv : Value) (d : List (Int × Int)) (idx lim : Int) : Prop where
  blk : w.heap[b]? = some (.cells #[dv, .int .i64 idx, .int .i64 lim] 53 (0, 0))
  row : w.ownsRow base 88 2 dv d.length (ecs d)
  ne : dv.ownBlock ≠ some b

theorem Stk.cells {w : World} {base b : Nat} {dv : Value} {d : List (Int × Int)} {idx lim : Int} (h : Stk w base b dv d idx lim) :
    w.cell? ⟨b, 0, none⟩ = some dv ∧ w.cell? ⟨b, 1, none⟩ = some (.int .i64 idx) ∧ w.cell? ⟨b, 2, none⟩ = some (.int .i64 lim) ∧ w.frozen? ⟨b, 0, none⟩ = false ∧ w.frozen? ⟨b, 1, none⟩ = false ∧ w.frozen? ⟨b, 2, none⟩ = false := by
  refine ⟨?_, ?_, ?_, frozen_of_row w b 0 _ _ h.blk, frozen_of_row w b 1 _ _ h.blk, frozen_of_row w b 2 _ _ h.blk⟩
  · rw [cell_of_row w b 0 _ _ _ h.blk]; rfl
  · rw [cell_of_row w b 1 _ _ _ h.blk]; rfl
  · rw [cell_of_row w b 2 _ _ _ h.blk]; rfl

theorem empty_any (w : World) (base b : Nat) (dv : Value) (d : List (Int × Int)) (idx lim : Int) (h : Stk w base b dv d idx lim) :
    Calls Try.prog 43 #[.pointer (some ⟨b, 0, none⟩)] w fun e w' => e = .returned (.bool (decide (idx < 0))) ∧ w = w' := by
  obtain ⟨c0, c1, c2, f0, f1, f2⟩ := h.cells
  clear h
  by_cases hi : idx < 0
  · have hd : decide (idx < 0) = true := by simp [hi]
    go_enter Try.func43, Try.ntmps43
    go_wp2_with fail
    go_ret
    exact ⟨inp.ret_bool (by simp [hi]), rfl⟩
  · have hd : decide (idx < 0) = false := by simpa using hi
    go_enter Try.func43, Try.ntmps43
    go_wp2_with fail
    go_ret
    exact ⟨inp.ret_bool (by simp), rfl⟩

theorem Stk.set1 {w : World} {base b : Nat} {dv : Value} {d : List (Int × Int)} {idx lim : Int} (h : Stk w base b dv d idx lim) (v : Int) : Stk (w.setCell ⟨b, 1, none⟩ (.int .i64 v)) base b dv d v lim :=
  ⟨(heap_setCell_same w b 1 _ 53 (.int .i64 v) h.blk).trans rfl, own_same h.row fun g hg => Below.heap_setCell _ _ _ _ (fun e => h.ne (by rw [hg, e])), h.ne⟩
theorem Stk.set2 {w : World} {base b : Nat} {dv : Value} {d : List (Int × Int)} {idx lim : Int} (h : Stk w base b dv d idx lim) (v : Int) : Stk (w.setCell ⟨b, 2, none⟩ (.int .i64 v)) base b dv d idx v :=
  ⟨(heap_setCell_same w b 2 _ 53 (.int .i64 v) h.blk).trans rfl, own_same h.row fun g hg => Below.heap_setCell _ _ _ _ (fun e => h.ne (by rw [hg, e])), h.ne⟩
theorem Stk.lt {w : World} {base b : Nat} {dv : Value} {d : List (Int × Int)} {idx lim : Int} (h : Stk w base b dv d idx lim) : b < w.heap.size := (Array.getElem?_eq_some_iff.1 h.blk).1
theorem Stk.kept {S : Nat → Prop} {w' : World} {w : World} {base b : Nat} {dv : Value} {d : List (Int × Int)} {idx lim : Int} (h : Stk w base b dv d idx lim) (hu : Upd S w w') (hb : ¬ S b) (hr : ∀ g, dv.ownBlock = some g → ¬ S g) : Stk w' base b dv d idx lim :=
  ⟨(hu.block b h.lt hb).trans h.blk, own_kept h.row hu hr, h.ne⟩

theorem restore (w : World) (base b : Nat) (dv : Value) (d : List (Int × Int)) (idx lim : Int) (i l : Int) (h : Stk w base b dv d idx lim) :
    Calls Try.prog 52 #[.pointer (some ⟨b, 0, none⟩), .int .i64 i, .int .i64 l] w fun e w' => e = .returned (.tuple #[]) ∧ Stk w' base b dv d i l ∧ Upd (· = b) w w' := by
  obtain ⟨c0, c1, c2, f0, f1, f2⟩ := h.cells
  have H := Lib.hid h
  clear h
  go_enter Try.func52, Try.ntmps52
  go_wp2_with fail
  go_end0
  exact ⟨rfl, (H.out.set1 i).set2 l, ((Upd.refl (· = b) w).setCell (.inl rfl) _).setCell (.inl rfl) _⟩

/-- save: the index and the limit come back; the limit is raised to the index -/
theorem save (w : World) (base b : Nat) (dv : Value) (d : List (Int × Int)) (idx lim : Int) (h : Stk w base b dv d idx lim) :
    Calls Try.prog 47 #[.pointer (some ⟨b, 0, none⟩)] w fun e w' => e = .returned (.tuple #[.int .i64 idx, .int .i64 lim]) ∧ Stk w' base b dv d idx (max idx lim) ∧ Upd (· = b) w w' := by
  obtain ⟨c0, c1, c2, f0, f1, f2⟩ := h.cells
  have H := Lib.hid h
  clear h
  by_cases hg : lim < idx
  · have HM : Hid (max idx lim = idx) := by unfold Hid; omega
    go_enter Try.func47, Try.ntmps47
    go_wp2_with fail
    go_quiet (fail)
    go_wp2_with fail
    go_quiet (fail)
    go_wp2_with fail
    go_ret2
    refine ⟨rfl, ?_, ?_⟩
    · rw [HM.out]; exact (H.out.kept (S := fun _ => False) ((Upd.refl _ _).drewN _) id (fun _ _ => id)).set2 idx
    · exact (((Upd.refl (· = b) w).drewN _).setCell (.inl rfl) _)
  · have HM : Hid (max idx lim = lim) := by unfold Hid; omega
    have hg' : decide (lim < idx) = false := by simpa using hg
    go_enter Try.func47, Try.ntmps47
    go_wp2_with fail
    go_quiet (fail)
    go_wp2_with fail
    go_quiet (fail)
    go_wp2_with fail
    go_ret2
    refine ⟨rfl, ?_, ?_⟩
    · rw [HM.out]; exact (H.out.kept (S := fun _ => False) (((Upd.refl _ _).drewN _).drewN _) id (fun _ _ => id))
    · exact (((Upd.refl (· = b) w).drewN _).drewN _)

theorem ecs_len (d : List (Int × Int)) : (ecs d).length = d.length * 2 := by
  induction d with
  | nil => rfl
  | cons x r ih => simp only [ecs, List.flatMap_cons, List.length_append, List.length_cons] at *; rw [ih]; simp [ec]; omega
theorem ecs_at (d : List (Int × Int)) (k : Nat) (x : Int × Int) (h : d[k]? = some x) (j : Nat) (hj : j < 2) : (ecs d)[k * 2 + j]? = (ec x)[j]? := by
  have hk := (List.getElem?_eq_some_iff.1 h).1
  have e : d = d.take k ++ [x] ++ d.drop (k + 1) := by
    have := (List.getElem?_eq_some_iff.1 h).2
    rw [← this, ← List.take_succ_eq_append_getElem hk, List.take_append_drop]
  have hl : (ecs (d.take k)).length = k * 2 := by rw [ecs_len, List.length_take]; congr 1; omega
  have e2 : ecs d = ecs (d.take k) ++ (ec x ++ ecs (d.drop (k + 1))) := by
    conv => lhs; rw [e]
    simp [ecs]
  rw [e2, List.getElem?_append_right (by omega), hl, List.getElem?_append_left (by simp [ec]; omega)]
  congr 1; omega
/-- the cells of entry k -/
theorem Stk.entry {w : World} {base b : Nat} {dv : Value} {d : List (Int × Int)} {idx lim : Int} (h : Stk w base b dv d idx lim) {k : Nat} {x : Int × Int} (hk : d[k]? = some x) :
    ∃ g cap, dv = .slice (some ⟨g, 0, none⟩) d.length cap ∧ g ≠ b ∧ g < w.heap.size ∧ k < d.length ∧ ∀ j, j < 2 → w.cell? ⟨g, k * 2 + j, none⟩ = (ec x)[j]? := by
  have hkl := (List.getElem?_eq_some_iff.1 hk).1
  rcases own_form h.row with ⟨_, h0, _⟩ | ⟨g, cap, rfl, hb, hn, hlt⟩
  · omega
  · refine ⟨g, cap, rfl, (fun e => h.ne (by rw [e]; rfl)), hlt, hkl, fun j hj => ?_⟩
    rw [h.row.cellAt (k * 2 + j) (by omega)]
    exact ecs_at d k x hk j hj

theorem pop (w : World) (base b : Nat) (dv : Value) (d : List (Int × Int)) (idx lim : Int) (k : Nat) (s : Int) (n : Int) (h : Stk w base b dv d idx lim) (hi : idx = k) (hk : d[k]? = some (s, n)) :
    Calls Try.prog 50 #[.pointer (some ⟨b, 0, none⟩)] w fun e w' => e = .returned (scv s) ∧ Stk w' base b dv d n lim ∧ Upd (· = b) w w' := by
  subst hi
  obtain ⟨c0, c1, c2, f0, f1, f2⟩ := h.cells
  obtain ⟨g, cap, rfl, hgb, hgl, hkl, hc⟩ := h.entry hk
  have e0 := hc 0 (by omega); have e1 := hc 1 (by omega)
  have hbl := h.lt
  have H := Lib.hid h
  have hbn : b ≠ w.heap.size := by omega
  have hgn : g ≠ w.heap.size := by omega
  clear h hc hk
  skip
  simp only [ec, List.getElem?_cons_zero, List.getElem?_cons_succ] at e0 e1
  rw [Nat.add_zero] at e0
  have i1 : (0 : Int) ≤ k := by omega
  have i2 : (k : Int) < d.length := by omega
  go_enter Try.func50, Try.ntmps50
  go_wp2_with fail
  go_region
  go_wp2_with fail
  go_ret
  refine ⟨rfl, ?_, ?_⟩
  · exact (H.out.set1 n).kept (S := fun _ => False) ((Upd.refl _ _).alloc _).drew id (fun _ _ => id)
  · exact (((Upd.refl (· = b) w).setCell (.inl rfl) _).alloc _).drew

theorem infoE : (Try.prog.info? 88).map (fun i => (i.zero, i.size, i.bytes)) = some (some (.agg #[.nilIface, .int .i64 0]), 2, 24) := by kernel_rfl

theorem setK (A B : List Value) (y0 y1 x0 x1 : Value) (n : Nat) (hn : A.length = n) :
    (((A ++ (y0 :: y1 :: B)).set n x0).set (n + 1) x1) = A ++ (x0 :: x1 :: B) := by
  subst hn
  rw [List.set_append_right _ _ (by omega), List.set_append_right _ _ (by omega)]
  simp
/-- an entry written over, cell by cell -/
theorem Stk.write {w : World} {base b g cap : Nat} {d : List (Int × Int)} {idx lim : Int} (h : Stk w base b (.slice (some ⟨g, 0, none⟩) d.length cap) d idx lim) (t : Nat) (ht : t < d.length) (x : Int × Int) :
    Stk ((w.setCell ⟨g, t * 2, none⟩ (.iface 3 (.int .i64 x.1))).setCell ⟨g, t * 2 + 1, none⟩ (.int .i64 x.2))
      base b (.slice (some ⟨g, 0, none⟩) d.length cap) (d.set t x) idx lim := by
  have hgb : g ≠ b := fun e => h.ne (by rw [e]; rfl)
  have r1 := (h.row.stored (t * 2) (.iface 3 (.int .i64 x.1))).1
  have r2 := (r1.stored (t * 2 + 1) (.int .i64 x.2)).1
  have hl : (ecs (d.take t)).length = t * 2 := by rw [ecs_len, List.length_take]; congr 1; omega
  have e1 : ecs d = ecs (d.take t) ++ (ec d[t] ++ ecs (d.drop (t + 1))) := by
    have e : d = d.take t ++ d[t] :: d.drop (t + 1) := by rw [← List.drop_eq_getElem_cons ht, List.take_append_drop]
    have e' := congrArg ecs e
    rw [e']
    simp only [ecs, List.flatMap_append, List.flatMap_cons]
  have e2 : ecs (d.set t x) = ecs (d.take t) ++ (ec x ++ ecs (d.drop (t + 1))) := by
    rw [List.set_eq_take_append_cons_drop, if_pos ht]; simp [ecs]
  refine ⟨?_, ?_, h.ne⟩
  · rw [heap_setCell_other _ _ _ _ hgb.symm, heap_setCell_other _ _ _ _ hgb.symm]
    exact h.blk
  · rw [e1] at r2
    have := setK (ecs (d.take t)) (ecs (d.drop (t + 1))) (.iface 3 (.int .i64 d[t].1)) (.int .i64 d[t].2) (.iface 3 (.int .i64 x.1)) (.int .i64 x.2) (t * 2) hl
    simp only [ec, List.cons_append, List.nil_append] at r2 e2
    rw [this, ← e2] at r2
    rw [List.length_set]; exact r2

/-- push where an old entry is written over -/
theorem push_over (w : World) (base b : Nat) (dv : Value) (d : List (Int × Int)) (idx lim : Int) (t : Nat) (s : Int) (h : Stk w base b dv d idx lim) (ht : ((t : Nat) : Int) = max idx lim + 1) (hlt : t < d.length) (hbd : d.length ≤ 1000000) :
    Calls Try.prog 46 #[.pointer (some ⟨b, 0, none⟩), scv s] w fun e w' => e = .returned (.tuple #[]) ∧ Stk w' base b dv (d.set t (s, idx)) t lim ∧ Upd (fun k => k = b ∨ dv.ownBlock = some k) w w' := by
  obtain ⟨c0, c1, c2, f0, f1, f2⟩ := h.cells
  have hbl := h.lt
  have hget : d[t]? = some d[t] := List.getElem?_eq_getElem hlt
  obtain ⟨g, cap, rfl, hgb, hgl, hkl, hc⟩ := h.entry hget
  have H := Lib.hid h
  have hbn : b ≠ w.heap.size := by omega
  have hgn : g ≠ w.heap.size := by omega
  have hbn1 : b ≠ w.heap.size + 1 := by omega
  have hgn1 : g ≠ w.heap.size + 1 := by omega
  have e0 := hc 0 (by omega); have e1 := hc 1 (by omega)
  clear h hc hget
  simp only [ec, List.getElem?_cons_zero, List.getElem?_cons_succ] at e0 e1
  rw [Nat.add_zero] at e0
  skip
  unfold scv
  skip
  have i1 : (0 : Int) ≤ t := by omega
  have i2 : (t : Int) < d.length := by omega
  have fg : ∀ j, w.frozen? ⟨g, j, none⟩ = false := fun j => H.out.row.frozenAt j
  have hd1 : decide (t < d.length) = true := by simp [hlt]
  obtain ⟨m, hm⟩ : ∃ m, m = max idx lim := ⟨_, rfl⟩
  have HT : Hid (m + 1 = (t : Int)) := by unfold Hid; omega
  have hm1 : m + 1 ≤ 1000000 := by omega
  have hm2 : 0 ≤ m + 1 := by omega
  have hmx : (idx < lim ∧ lim = m) ∨ (¬ idx < lim ∧ idx = m) := by omega
  clear ht hm
  rcases hmx with ⟨hil, rfl⟩ | ⟨hil, rfl⟩
  · go_enter Try.func46, Try.ntmps46
    go_wp2_with fail
    go_region
    rw [HT.out]
    go_wp2_with fail
    go_quiet (fail)
    go_wp2_with fail
    go_region
    go_wp2_with fail
    go_end0
    refine ⟨rfl, ?_, ?_⟩
    · exact ((H.out.set1 t).kept (S := fun _ => False) ((((Upd.refl _ _).alloc _).drewN _)) id (fun _ _ => id)).write t hlt (s, idx)
    · refine Upd.setCell (Upd.setCell ?_ (.inl (.inr rfl)) _) (.inl (.inr rfl)) _
      exact (((Upd.refl _ w).setCell (.inl (.inl rfl)) _).alloc _).drewN _
  · go_enter Try.func46, Try.ntmps46
    go_wp2_with fail
    go_region
    rw [HT.out]
    go_wp2_with fail
    go_quiet (fail)
    go_wp2_with fail
    go_region
    go_wp2_with fail
    go_end0
    refine ⟨rfl, ?_, ?_⟩
    · exact ((H.out.set1 t).kept (S := fun _ => False) ((((Upd.refl _ _).alloc _).drewN _)) id (fun _ _ => id)).write t hlt (s, idx)
    · refine Upd.setCell (Upd.setCell ?_ (.inl (.inr rfl)) _) (.inl (.inr rfl)) _
      exact (((Upd.refl _ w).setCell (.inl (.inl rfl)) _).alloc _).drewN _

theorem blk_at (W : World) (o : Obj) (n : Nat) (h : W.heap.size = n) : (W.alloc o).heap[n]? = some o := by subst h; exact heap_alloc_last _ _
theorem blk_drew (W : World) (o : Obj) (n k : Nat) (h : W.heap.size = n) : ((W.alloc o).drewN k).heap[n]? = some o := blk_at W o n h

/-- what push leaves where the entry goes behind the last -/
def PushedNew (w : World) (base b : Nat) (dv : Value) (d : List (Int × Int)) (t lim : Int) (x : Int × Int) (w' : World) : Prop :=
  ∃ dv', Stk w' base b dv' (d ++ [x]) t lim ∧ Upd (fun k => k = b ∨ dv.ownBlock = some k) w w' ∧ (dv'.ownBlock = dv.ownBlock ∨ ∃ g, dv'.ownBlock = some g ∧ w.heap.size ≤ g)

theorem push_fin {w W w1 : World} {base b g cap H : Nat} {dv : Value} {d : List (Int × Int)} {idx t lim : Int} (x : Int × Int) (h : Stk w base b dv d idx lim) (hg : W.grownBy w1 dv.ownBlock) (hu : Upd (fun _ => False) (w.setCell ⟨b, 1, none⟩ (.int .i64 t)) W)
    (hown : w1.ownsRow base 88 2 (.slice (some ⟨g, 0, none⟩) (d.length + 1) cap) (d.length + 1) (ecs d ++ ec x)) (hat : dv.ownBlock = some g ∨ g = H) (hH : w.heap.size ≤ H) :
    w1.cell? ⟨b, 0, none⟩ = some dv ∧ w1.frozen? ⟨b, 0, none⟩ = false ∧ PushedNew w base b dv d t lim x (w1.setCell ⟨b, 0, none⟩ (.slice (some ⟨g, 0, none⟩) (d.length + 1) cap)) := by
  have hS : Stk W base b dv d t lim := (h.set1 t).kept hu id (fun _ _ => id)
  have hb := h.lt
  have hgb : g ≠ b := by
    rcases hat with h' | h'
    · exact fun e => hS.ne (by rw [h', e])
    · omega
  have kb : w1.heap[b]? = _ := (hg.block b hS.lt (fun e => hS.ne e.symm)).trans hS.blk
  refine ⟨by rw [cell_of_row w1 b 0 _ _ _ kb]; rfl, frozen_of_row w1 b 0 _ _ kb, .slice (some ⟨g, 0, none⟩) (d.length + 1) cap, ⟨(heap_setCell_same w1 b 0 _ 53 _ kb).trans rfl, ?_, (fun e => hgb (by simpa [Value.ownBlock] using e))⟩, ?_, ?_⟩
  · have e : ecs (d ++ [x]) = ecs d ++ ec x := by simp [ecs]
    rw [e, List.length_append, List.length_singleton]
    exact own_same hown fun k hk => Below.heap_setCell _ _ _ _ (fun e => hgb (by
      have : g = k := by simpa [Value.ownBlock] using hk
      rw [this]; exact e))
  · refine Upd.setCell ?_ (.inl (.inl rfl)) _
    have u1 : Upd (fun k => k = b ∨ dv.ownBlock = some k) w (w.setCell ⟨b, 1, none⟩ (.int .i64 t)) := (Upd.refl _ w).setCell (.inl (.inl rfl)) _
    exact (u1.trans (hu.mono (fun k _ h => h.elim))).grown hg (fun k hk => .inl (.inr hk))
  · rcases hat with h | h
    · exact .inl h.symm
    · exact .inr ⟨g, rfl, by omega⟩

set_option maxHeartbeats 2000000 in
/-- push where the entry goes behind the last -/
theorem push_new (w : World) (base b : Nat) (dv : Value) (d : List (Int × Int)) (idx lim : Int) (s : Int) (h : Stk w base b dv d idx lim) (ht : (d.length : Int) = max idx lim + 1) (hbase : base ≤ w.heap.size) (hbd : d.length ≤ 1000000) :
    Calls Try.prog 46 #[.pointer (some ⟨b, 0, none⟩), scv s] w fun e w' => e = .returned (.tuple #[]) ∧ PushedNew w base b dv d d.length lim (s, idx) w' := by
  obtain ⟨c0, c1, c2, f0, f1, f2⟩ := h.cells
  obtain ⟨i0, hi, hz0, hz1, hz2⟩ := info_parts infoE
  have hbl := h.lt
  have H := Lib.hid h
  have hbn : b ≠ w.heap.size := by omega
  have hbn1 : b ≠ w.heap.size + 1 := by omega
  have hbn2 : b ≠ w.heap.size + 1 + 1 := by omega
  have hb1 : b < w.heap.size + 1 := by omega
  have hb2 : b < w.heap.size + 1 + 1 := by omega
  have hb3 : b < w.heap.size + 1 + 1 + 1 := by omega
  clear h
  skip
  unfold scv
  skip
  obtain ⟨sa, sl, sc, rfl⟩ : ∃ sa sl sc, dv = .slice sa sl sc := by
    rcases own_form H.out.row with ⟨h, _⟩ | ⟨g, cap, h, _⟩ <;> exact ⟨_, _, _, h⟩
  obtain rfl : sl = d.length := by
    rcases own_form H.out.row with ⟨h, h0, _⟩ | ⟨g, cap, h, _⟩
    · simp at h; omega
    · simp at h; omega
  obtain ⟨n, hn⟩ : ∃ n, n = d.length := ⟨_, rfl⟩
  have hd1 : decide (d.length < d.length) = false := by simp
  obtain ⟨m, hm⟩ : ∃ m, m = max idx lim := ⟨_, rfl⟩
  have HT : Hid (m + 1 = (d.length : Int)) := by unfold Hid; omega
  have hm1 : m + 1 ≤ 1000000 := by omega
  have hm2 : 0 ≤ m + 1 := by omega
  have hmx : (idx < lim ∧ lim = m) ∨ (¬ idx < lim ∧ idx = m) := by omega
  clear ht hm hn
  have hdn : ∀ (W : World) (n : Nat) (o : Obj), (W.drewN n).alloc o = (W.alloc o).drewN n := fun _ _ _ => rfl
  rcases hmx with ⟨hil, rfl⟩ | ⟨hil, rfl⟩
  · go_enter Try.func46, Try.ntmps46
    go_wp2_with fail
    go_region
    rw [HT.out]
    go_wp2_with fail
    go_quiet (fail)
    go_wp2_with fail
    go_region_law (refine step_append_lies _ rfl (.tmp 48) (.tmp 50) 51 rfl base 88 i0 _ 2 24 Try.underlying51 hi hz0 hz1 hz2 rfl (by decide) _ d.length (ecs d) rfl ?_ ⟨w.heap.size + 1, 0, none⟩ 1 1 [.iface 3 (.int .i64 s), .int .i64 idx] rfl rfl ?_ ?_ (by decide) ?_ ?_ ?_ (w.heap.size + 1 + 1) ?_ ?_; (first | (exact own_kept (H.out.set1 _).row (S := fun _ => False) (by repeat (first | exact Upd.refl _ _ | apply Upd.drew | apply Upd.drewN | apply Upd.alloc)) (fun _ _ => id))); (first | exact World.news_of_block (cs := #[.iface 3 (.int .i64 s), .int .i64 idx]) (blk_at _ _ _ (by simp)) | exact World.news_of_block (cs := #[.iface 3 (.int .i64 s), .int .i64 idx]) (blk_drew _ _ _ _ (by simp))); (intro u hu; simp at hu; rcases hu with rfl | rfl <;> rfl); (unfold maxLen; omega); omega; (simp; omega); simp; intro g cap w1 hown hgrow hat hlt; obtain ⟨k0, k1, hf⟩ := push_fin (s, idx) H.out hgrow (by repeat (first | exact Upd.refl _ _ | apply Upd.drew | apply Upd.drewN | apply Upd.alloc)) hown hat (by omega); have HF := Lib.hid hf; clear hown hgrow hat hlt hf)
    all_goals go_wp2_with fail
    all_goals go_end0
    all_goals exact ⟨rfl, HF.out⟩
  · go_enter Try.func46, Try.ntmps46
    go_wp2_with fail
    go_region
    rw [HT.out]
    go_wp2_with fail
    go_quiet (fail)
    go_wp2_with fail
    go_region_law (refine step_append_lies _ rfl (.tmp 48) (.tmp 50) 51 rfl base 88 i0 _ 2 24 Try.underlying51 hi hz0 hz1 hz2 rfl (by decide) _ d.length (ecs d) rfl ?_ ⟨w.heap.size + 1, 0, none⟩ 1 1 [.iface 3 (.int .i64 s), .int .i64 idx] rfl rfl ?_ ?_ (by decide) ?_ ?_ ?_ (w.heap.size + 1 + 1) ?_ ?_; (first | (exact own_kept (H.out.set1 _).row (S := fun _ => False) (by repeat (first | exact Upd.refl _ _ | apply Upd.drew | apply Upd.drewN | apply Upd.alloc)) (fun _ _ => id))); (first | exact World.news_of_block (cs := #[.iface 3 (.int .i64 s), .int .i64 idx]) (blk_at _ _ _ (by simp)) | exact World.news_of_block (cs := #[.iface 3 (.int .i64 s), .int .i64 idx]) (blk_drew _ _ _ _ (by simp))); (intro u hu; simp at hu; rcases hu with rfl | rfl <;> rfl); (unfold maxLen; omega); omega; (simp; omega); simp; intro g cap w1 hown hgrow hat hlt; obtain ⟨k0, k1, hf⟩ := push_fin (s, idx) H.out hgrow (by repeat (first | exact Upd.refl _ _ | apply Upd.drew | apply Upd.drewN | apply Upd.alloc)) hown hat (by omega); have HF := Lib.hid hf; clear hown hgrow hat hlt hf)
    all_goals go_wp2_with fail
    all_goals go_end0
    all_goals exact ⟨rfl, HF.out⟩

/-- push, both ways: the plain list's own 'put' -/
def Pushed (w : World) (base b : Nat) (dv : Value) (d : List (Int × Int)) (t : Nat) (lim : Int) (x : Int × Int) (w' : World) : Prop :=
  ∃ dv', Stk w' base b dv' (plain.put d t x) t lim ∧ Upd (fun k => k = b ∨ dv.ownBlock = some k) w w' ∧ (dv'.ownBlock = dv.ownBlock ∨ ∃ g, dv'.ownBlock = some g ∧ w.heap.size ≤ g)
theorem push (w : World) (base b : Nat) (dv : Value) (d : List (Int × Int)) (idx lim : Int) (s : Int) (h : Stk w base b dv d idx lim) (hw : plain.Wf d idx lim) (hbase : base ≤ w.heap.size) (hbd : d.length ≤ 1000000) :
    Calls Try.prog 46 #[.pointer (some ⟨b, 0, none⟩), scv s] w fun e w' => e = .returned (.tuple #[]) ∧ Pushed w base b dv d (plain.top idx lim) lim (s, idx) w' := by
  have ht := plain.top_eq idx lim hw.l1
  have hle := hw.top_le
  by_cases hlt : plain.top idx lim < d.length
  · refine (push_over w base b dv d idx lim _ s h ht hlt hbd).mono ?_
    rintro e w' ⟨rfl, h1, h2⟩
    refine ⟨rfl, dv, ?_, h2, .inl rfl⟩
    unfold plain.put; rw [if_pos hlt]; exact h1
  · have e1 : plain.top idx lim = d.length := by omega
    refine (push_new w base b dv d idx lim s h (by omega) hbase hbd).mono ?_
    rintro e w' ⟨rfl, dv', h1, h2, h3⟩
    refine ⟨rfl, dv', ?_, h2, h3⟩
    unfold plain.put; rw [if_neg hlt, e1]; exact h1
end Go.Proofs.Ytemifkcgmfincaa.vstk
