/- appendBuiltin (f45); its text is partly printed by gen_45.py. -/
import Derived.Test.YtmfpmpbilekbgaaLazy
import Derived.Deep.RegionHeld
set_option linter.unusedVariables false
namespace Go.Proofs.Ytmfpmpbilekbgaa.bi45
open Go.ChangeShapes Go.WideShapes Go.ChangeAt Go.RowKit
open upd comp grow add lookv var newc push wrap pushv lookf doors codes lazy

theorem noInfo (w : World) (c : Nat) (v : Value) : Calls Try.prog 56 #[.pointer (some ⟨c, 0, none⟩), v] w fun e w' => e = .returned (.tuple #[]) ∧ w = w' := by
  go_enter Try.func56, Try.ntmps56
  go_wp2_with fail
  go_end0
  exact ⟨rfl, rfl⟩
/-- the closure that appendBuiltin hands back -/
def fin57 (q7 q3 : Nat) : Value := .func (.func 57) #[] #[.pointer (some ⟨q7, 0, none⟩), .pointer (some ⟨q3, 0, none⟩), .pointer (some ⟨q3 + 1, 0, none⟩)]
def Tok (w : World) (col : Nat → Nat) (c n q7 q3 P : Nat) (nm : ByteArray) : Prop :=
  Lazy w col c q3 n P ∧ (Blk w q3 #[.pointer (some ⟨c, 0, none⟩)] 29 ∧ col q3 = 0) ∧ (Blk w (q3 + 1) #[.string nm] 9 ∧ col (q3 + 1) = 0) ∧ (Blk w q7 #[setj P] 1 ∧ col q7 = 0)

set_option maxRecDepth 100000 in
set_option maxHeartbeats 4000000 in
theorem body45 {base c bb : Nat} {w : World} {col : Nat → Nat} {sv : Value} {bs : List Nat} {B : Sc} {L : List Sc} {cnt : Int} {ps : List (Option Nat)} {cs : List (Int × Value)} (h : CB base w col c bb sv bs B L cnt ps cs) (hB : B.id = 0) (nm : ByteArray) (ac : Int) (hn : ps.length ≤ 2097152) (hf : B.funcs.length ≤ 2097152) (hbase : base ≤ w.heap.size) :
    Calls Try.prog 45 #[.pointer (some ⟨c, 0, none⟩), .string nm, .int .i64 ac] w fun e w' => ∃ q7 P, e = .returned (fin57 q7 w.heap.size) ∧ ∃ col', NB base w col w' col' ∧ CB base w' col' c bb sv bs { B with funcs := B.funcs ++ [(nm, (ps.length : Int) + 1, ac)] } L cnt (ps ++ [none]) (cs ++ [(0, .nilIface)]) ∧ Tok w' col' c ps.length q7 w.heap.size P nm := by
  obtain ⟨q3, hq3⟩ : ∃ q3, q3 = w.heap.size := ⟨_, rfl⟩
  obtain ⟨W, hW⟩ : ∃ W, W = (w.alloc (.cells #[.pointer (some ⟨c, 0, none⟩)] 29)).alloc (.cells #[.string nm] 9) := ⟨_, rfl⟩
  have hu : Upd (fun _ => False) w W := by rw [hW]; exact ((Upd.refl _ _).alloc _).alloc _
  have hk : ∀ k, k < w.heap.size → cut col w.heap.size k = col k := fun k hk => cut_old _ _ _ hk
  have hWs : W.heap.size = q3 + 1 + 1 := by rw [hW, hq3]; simp
  have h1 := h.step hu hk
  have b3 : Blk W q3 #[.pointer (some ⟨c, 0, none⟩)] 29 ∧ cut col w.heap.size q3 = 0 := ⟨by rw [hW, hq3]; exact (Blk.new _ _ _).alloc _, cut_new _ _ _ (by omega)⟩
  have b4 : Blk W (q3 + 1) #[.string nm] 9 ∧ cut col w.heap.size (q3 + 1) = 0 := by
    refine ⟨?_, cut_new _ _ _ (by omega)⟩
    have := Blk.new (w.alloc (.cells #[.pointer (some ⟨c, 0, none⟩)] 29)) #[.string nm] 9
    rw [← hW] at this; simpa [hq3] using this
  have HB3 := Lib.hid b3
  have HB4 := Lib.hid b4
  have HST := Lib.hid (NB.step (base := base) hu (cut col w.heap.size) hk)
  have HLZ := Lib.hid (lazy54 (q := q3) h1 hn (by omega))
  have v3 : W.cell? ⟨q3, 0, none⟩ = some (.pointer (some ⟨c, 0, none⟩)) := by rw [Blk.cell b3.1]; rfl
  have HWB : Hid (base ≤ W.heap.size) := by unfold Hid; omega
  rw [← hq3]
  clear b3 b4 h h1 hu hk hWs
  unfold clos setj at HLZ
  go_enter Try.func45, Try.ntmps45
  go_wp2_with fail
  rw [← hW, ← hq3]
  clear hW hq3
  go_at_call 54
  refine HLZ.out.mono ?_
  rintro e w1 ⟨rfl, col1, hN1, hC1, hL1⟩
  obtain ⟨q7, hq7⟩ : ∃ q7, q7 = w1.heap.size := ⟨_, rfl⟩
  obtain ⟨P, hP⟩ : ∃ P, P = W.heap.size := ⟨_, rfl⟩
  have hPs := hN1.2.size
  obtain ⟨W2, hW2⟩ : ∃ W2, W2 = w1.alloc (.cells #[setj P] 1) := ⟨_, rfl⟩
  have hu2 : Upd (fun _ => False) w1 W2 := by rw [hW2]; exact (Upd.refl _ _).alloc _
  have hk2 : ∀ k, k < w1.heap.size → cut col1 w1.heap.size k = col1 k := fun k hk => cut_old _ _ _ hk
  have hN12 := hN1.trans (NB.step (base := base) hu2 (cut col1 w1.heap.size) hk2)
  have hC2 := hC1.step hu2 hk2
  have HT : Hid (Tok W2 (cut col1 w1.heap.size) c ps.length q7 q3 P nm) :=
    ⟨by rw [hP]; exact hL1.keep (NB.step (base := base) hu2 _ hk2), hN12.keep HB3.out.1 HB3.out.2, hN12.keep HB4.out.1 HB4.out.2, by rw [hW2, hq7]; exact Blk.new _ _ _, cut_new _ _ _ (by omega)⟩
  have HN2 := Lib.hid (HST.out.trans hN12)
  have HW2B : Hid (base ≤ W2.heap.size) := by unfold Hid; have := HWB.out; have := hu2.size; omega
  obtain ⟨cv, hC, hD⟩ := hC2
  obtain ⟨ca, cc, rfl⟩ := slice_form hD.row
  obtain ⟨vv, fv, ps', fs, hS⟩ := hC.bi hB
  obtain ⟨fa, fc, rfl⟩ := slice_form hS.funcs.row
  obtain ⟨m, hm⟩ : ∃ m, m = fs.length := ⟨_, rfl⟩
  have t3 : W2.cell? ⟨q3, 0, none⟩ = some (.pointer (some ⟨c, 0, none⟩)) := by rw [Blk.cell HT.out.2.1.1]; rfl
  have t4 : W2.cell? ⟨q3 + 1, 0, none⟩ = some (.string nm) := by rw [Blk.cell HT.out.2.2.1.1]; rfl
  have c7 : W2.cell? ⟨c, 7, none⟩ = some (.pointer (some ⟨bb, 0, none⟩)) := by rw [hC.blk.cell]; rfl
  have c5 : W2.cell? ⟨c, 5, none⟩ = some (.slice ca (ps.length + 1) cc) := by rw [hC.blk.cell, List.length_append]; rfl
  have b1 : W2.cell? ⟨bb, 1, none⟩ = some (.slice fa m fc) := by rw [hS.blk.cell, hm]; rfl
  have l0 := hC.blk.lt
  have lb := hS.blk.lt
  have l3 := Blk.lt HT.out.2.1.1
  have l4 := Blk.lt HT.out.2.2.1.1
  have hmf : m ≤ 2097152 := by rw [hm, hS.flen]; exact hf
  obtain ⟨j0, ji, jz0, jz1, jz2⟩ := info_parts info37
  have HR : Hid (W2.ownsRow base 37 1 (.slice fa m fc) m (ptrs fs)) := by unfold Hid; rw [hm]; exact hS.funcs.row
  obtain ⟨n, hnn⟩ : ∃ n, n = ps.length := ⟨_, rfl⟩
  rw [← hnn] at c5
  have HFIN : Hid (∀ (g2 cp2 : Nat) (a w3 : World), Upd (fun _ => False) W2 a → Blk a W2.heap.size #[.string nm, .int .i64 ((n : Int) + 1), .int .i64 ac] 105 → a.heap.size ≤ W2.heap.size + 1 + 1 → w3.ownsRow base 37 1 (.slice (some ⟨g2, 0, none⟩) (m + 1) cp2) (m + 1) (ptrs fs ++ [.pointer (some ⟨W2.heap.size, 0, none⟩)]) → a.grownBy w3 (Value.slice fa m fc).ownBlock → ((Value.slice fa m fc).ownBlock = some g2 ∨ g2 = W2.heap.size + 1 + 1) →
      (w3.cell? ⟨q3, 0, none⟩ = some (.pointer (some ⟨c, 0, none⟩)) ∧ w3.cell? ⟨q3 + 1, 0, none⟩ = some (.string nm) ∧ w3.cell? ⟨c, 7, none⟩ = some (.pointer (some ⟨bb, 0, none⟩)) ∧ w3.cell? ⟨c, 5, none⟩ = some (.slice ca (n + 1) cc) ) ∧ ((w3.setCell ⟨bb, 1, none⟩ (.slice (some ⟨g2, 0, none⟩) (m + 1) cp2)).cell? ⟨q3, 0, none⟩ = some (.pointer (some ⟨c, 0, none⟩)) ∧ (w3.setCell ⟨bb, 1, none⟩ (.slice (some ⟨g2, 0, none⟩) (m + 1) cp2)).cell? ⟨q3 + 1, 0, none⟩ = some (.string nm) ∧ (w3.setCell ⟨bb, 1, none⟩ (.slice (some ⟨g2, 0, none⟩) (m + 1) cp2)).cell? ⟨c, 7, none⟩ = some (.pointer (some ⟨bb, 0, none⟩)) ∧ (w3.setCell ⟨bb, 1, none⟩ (.slice (some ⟨g2, 0, none⟩) (m + 1) cp2)).cell? ⟨c, 5, none⟩ = some (.slice ca (n + 1) cc)) ∧ w3.cell? ⟨bb, 1, none⟩ = some (.slice fa m fc) ∧ w3.frozen? ⟨bb, 1, none⟩ = false ∧ ∃ col', NB base w col (w3.setCell ⟨bb, 1, none⟩ (.slice (some ⟨g2, 0, none⟩) (m + 1) cp2)) col' ∧ CB base (w3.setCell ⟨bb, 1, none⟩ (.slice (some ⟨g2, 0, none⟩) (m + 1) cp2)) col' c bb sv bs { B with funcs := B.funcs ++ [(nm, (n : Int) + 1, ac)] } L cnt (ps ++ [none]) (cs ++ [(0, .nilIface)]) ∧ Tok (w3.setCell ⟨bb, 1, none⟩ (.slice (some ⟨g2, 0, none⟩) (m + 1) cp2)) col' c n q7 q3 P nm) := by
    unfold Hid; subst hm; subst hnn; intro g2 cp2 a w3 ku kb ks k1 k2 k3
    have hold : ∀ (k : Nat) (cs : Array Value) (t : TypeId), Blk W2 k cs t → cut col1 w1.heap.size k ≠ 5 → Blk w3 k cs t := fun k cs t hb hc5 =>
      (k2.block k (Nat.lt_of_lt_of_le hb.lt ku.size) (fun e => hc5 (hS.funcs.clr k e.symm))).trans ((ku.block k hb.lt id).trans hb)
    have y3 := hold _ _ _ HT.out.2.1.1 (by rw [HT.out.2.1.2]; omega)
    have y4 := hold _ _ _ HT.out.2.2.1.1 (by rw [HT.out.2.2.1.2]; omega)
    have yc := hold _ _ _ hC.blk (by rw [hC.clr]; omega)
    have yb := hold _ _ _ hS.blk (by rw [hS.clr]; omega)
    have hbc := hS.clr
    have n3 : q3 ≠ bb := fun e => by have := HT.out.2.1.2; rw [e, hbc] at this; omega
    have n4 : q3 + 1 ≠ bb := fun e => by have := HT.out.2.2.1.2; rw [e, hbc] at this; omega
    have nc : c ≠ bb := fun e => by have := hC.clr; rw [e, hbc] at this; omega
    obtain ⟨x1, x2, col', _, x3, x4⟩ := fin_bi (f := (nm, (ps.length : Int) + 1, ac)) hC hD hS ku (Nat.le_refl _) kb.lt kb k1 k2 k3 ks HW2B.out
    exact ⟨⟨by rw [y3.cell]; rfl, by rw [y4.cell]; rfl, by rw [yc.cell]; rfl, by rw [yc.cell, List.length_append]; rfl⟩, ⟨by rw [(y3.other (p := ⟨bb, 1, none⟩) n3 _).cell]; rfl, by rw [(y4.other (p := ⟨bb, 1, none⟩) n4 _).cell]; rfl, by rw [(yc.other (p := ⟨bb, 1, none⟩) nc _).cell]; rfl, by rw [(yc.other (p := ⟨bb, 1, none⟩) nc _).cell, List.length_append]; rfl⟩, by rw [yb.cell]; rfl, x2, col', HN2.out.trans x3, x4, HT.out.1.keep x3, x3.keep HT.out.2.1.1 HT.out.2.1.2, x3.keep HT.out.2.2.1.1 HT.out.2.2.1.2, x3.keep HT.out.2.2.2.1 HT.out.2.2.2.2⟩
  have hn1 : n ≤ 2097152 := by omega
  have HNN := Lib.hid hnn
  have HPW := Lib.hid hP
  clear HB3 HB4 HST HLZ v3 HWB hN1 hC1 hL1 hPs hu2 hk2 hN12 HT HN2 hC hD hS hm hnn hn hf
  unfold setj at hW2
  have hW2' := hW2.symm
  have hq7' := hq7.symm
  have hP' := hP.symm
  clear hW2 hq7 hP
  go_wp2_with fail
  clear hW2' hq7' hP'
  go_at_call 56
  refine (noInfo W2 c _).mono ?_
  rintro e w4 ⟨rfl, rfl⟩
  go_wp2_with fail
  refine wp_region_held_drew (S := (fun w' => w'.cell? ⟨q3, 0, none⟩ = some (.pointer (some ⟨c, 0, none⟩)) ∧ w'.cell? ⟨q3 + 1, 0, none⟩ = some (.string nm) ∧ w'.cell? ⟨c, 7, none⟩ = some (.pointer (some ⟨bb, 0, none⟩)) ∧ w'.cell? ⟨c, 5, none⟩ = some (.slice ca (n + 1) cc))) (by kernel_rfl) ?_ (fun hHeld => ?_)
  · ((try dsimp only); first | assumption | go_keep)
  refine wpAnyH_take (i := 0) (oi := _) (v := ?_) rfl (by kernel_rfl) (by kernel_rfl) (by kernel_rfl) (fun _ _ _ h => h) (Or.inl ⟨by rfl, ?_⟩) (by assumption) ?_
  rotate_left 1
  · (intro w hSw; (try dsimp only at hSw); go_simp; try with_reducible rfl)
  try simp only [Act.put, List.setIfInBounds_toArray, List.set_cons_zero, List.set_cons_succ]
  refine wpAnyH_take (i := 1) (oi := _) (v := ?_) rfl (by kernel_rfl) (by kernel_rfl) (by kernel_rfl) (fun _ _ _ h => h) (Or.inl ⟨by rfl, ?_⟩) (by assumption) ?_
  rotate_left 1
  · (intro w hSw; (try dsimp only at hSw); go_simp; try with_reducible rfl)
  try simp only [Act.put, List.setIfInBounds_toArray, List.set_cons_zero, List.set_cons_succ]
  refine wpAnyH_take (i := 2) (oi := _) (v := ?_) rfl (by kernel_rfl) (by kernel_rfl) (by kernel_rfl) (fun _ _ _ h => h) (Or.inl ⟨by rfl, ?_⟩) (by assumption) ?_
  rotate_left 1
  · (intro w hSw; (try dsimp only at hSw); go_simp; try with_reducible rfl)
  try simp only [Act.put, List.setIfInBounds_toArray, List.set_cons_zero, List.set_cons_succ]
  refine wpAnyH_take (i := 3) (oi := _) (v := ?_) rfl (by kernel_rfl) (by kernel_rfl) (by kernel_rfl) (fun _ _ _ h => h) (Or.inl ⟨by rfl, ?_⟩) (by assumption) ?_
  rotate_left 1
  · (intro w hSw; (try dsimp only at hSw); go_simp; try with_reducible rfl)
  try simp only [Act.put, List.setIfInBounds_toArray, List.set_cons_zero, List.set_cons_succ]
  refine wpAnyH_take (i := 4) (oi := _) (v := ?_) rfl (by kernel_rfl) (by kernel_rfl) (by kernel_rfl) (fun _ _ _ h => h) (Or.inl ⟨by rfl, ?_⟩) (by assumption) ?_
  rotate_left 1
  · (intro w hSw; (try dsimp only at hSw); go_simp; try with_reducible rfl)
  try simp only [Act.put, List.setIfInBounds_toArray, List.set_cons_zero, List.set_cons_succ]
  refine wpAnyH_take (i := 5) (oi := _) (v := ?_) rfl (by kernel_rfl) (by kernel_rfl) (by kernel_rfl) (fun _ _ _ h => h) (Or.inl ⟨by rfl, ?_⟩) (by assumption) ?_
  rotate_left 1
  · (intro w hSw; (try dsimp only at hSw); go_simp; try with_reducible rfl)
  try simp only [Act.put, List.setIfInBounds_toArray, List.set_cons_zero, List.set_cons_succ]
  refine wpAnyH_take (i := 6) (oi := _) (v := ?_) rfl (by kernel_rfl) (by kernel_rfl) (by kernel_rfl) (fun _ _ _ h => h) (Or.inl ⟨by rfl, ?_⟩) (by assumption) ?_
  rotate_left 1
  · (intro w hSw; (try dsimp only at hSw); go_simp; try with_reducible rfl)
  try simp only [Act.put, List.setIfInBounds_toArray, List.set_cons_zero, List.set_cons_succ]
  refine wpAnyH_take (i := 7) (oi := _) (v := ?_) rfl (by kernel_rfl) (by kernel_rfl) (by kernel_rfl) (fun _ _ _ h => h) (Or.inl ⟨by rfl, ?_⟩) (by assumption) ?_
  rotate_left 1
  · (intro w hSw; (try dsimp only at hSw); go_simp; try with_reducible rfl)
  try simp only [Act.put, List.setIfInBounds_toArray, List.set_cons_zero, List.set_cons_succ]
  refine wpAnyH_take (i := 8) (oi := _) (v := ?_) rfl (by kernel_rfl) (by kernel_rfl) (by kernel_rfl) (fun _ _ _ h => h) (Or.inl ⟨by rfl, ?_⟩) (by assumption) ?_
  rotate_left 1
  · (intro w hSw; (try dsimp only at hSw); go_simp; try with_reducible rfl)
  try simp only [Act.put, List.setIfInBounds_toArray, List.set_cons_zero, List.set_cons_succ]
  refine wpAnyH_take (i := 9) (oi := _) (v := ?_) rfl (by kernel_rfl) (by kernel_rfl) (by kernel_rfl) (fun _ _ _ h => h) (Or.inl ⟨by rfl, ?_⟩) (by assumption) ?_
  rotate_left 1
  · (intro w hSw; (try dsimp only at hSw); go_simp; try with_reducible rfl)
  try simp only [Act.put, List.setIfInBounds_toArray, List.set_cons_zero, List.set_cons_succ]
  refine wpAnyH_take (i := 11) (oi := _) (v := ?_) rfl (by kernel_rfl) (by kernel_rfl) (by kernel_rfl) (fun _ _ _ h => h) (Or.inl ⟨by rfl, ?_⟩) (by assumption) ?_
  rotate_left 1
  · (intro w hSw; (try dsimp only at hSw); go_simp; try with_reducible rfl)
  try simp only [Act.put, List.setIfInBounds_toArray, List.set_cons_zero, List.set_cons_succ]
  refine wpAnyH_take (i := 12) (oi := _) (v := ?_) rfl (by kernel_rfl) (by kernel_rfl) (by kernel_rfl) (fun _ _ _ h => h) (Or.inl ⟨by rfl, ?_⟩) (by assumption) ?_
  rotate_left 1
  · (intro w hSw; (try dsimp only at hSw); go_simp; try with_reducible rfl)
  try simp only [Act.put, List.setIfInBounds_toArray, List.set_cons_zero, List.set_cons_succ]
  refine wpAnyH_take (i := 13) (oi := _) (v := ?_) rfl (by kernel_rfl) (by kernel_rfl) (by kernel_rfl) (fun _ _ _ h => h) (Or.inl ⟨by rfl, ?_⟩) (by assumption) ?_
  rotate_left 1
  · (intro w hSw; (try dsimp only at hSw); go_simp; try with_reducible rfl)
  try simp only [Act.put, List.setIfInBounds_toArray, List.set_cons_zero, List.set_cons_succ]
  refine wpAnyH_take (i := 14) (oi := _) (v := ?_) rfl (by kernel_rfl) (by kernel_rfl) (by kernel_rfl) (fun _ _ _ h => h) (Or.inl ⟨by rfl, ?_⟩) (by assumption) ?_
  rotate_left 1
  · (intro w hSw; (try dsimp only at hSw); go_simp; try with_reducible rfl)
  try simp only [Act.put, List.setIfInBounds_toArray, List.set_cons_zero, List.set_cons_succ]
  refine wpAnyH_take (i := 15) (oi := _) (v := ?_) rfl (by kernel_rfl) (by kernel_rfl) (by kernel_rfl) (fun _ _ _ h => h) (Or.inl ⟨by rfl, ?_⟩) (by assumption) ?_
  rotate_left 1
  · (intro w hSw; (try dsimp only at hSw); go_simp; try with_reducible rfl)
  try simp only [Act.put, List.setIfInBounds_toArray, List.set_cons_zero, List.set_cons_succ]
  refine wpAnyH_take (i := 16) (oi := _) (v := ?_) rfl (by kernel_rfl) (by kernel_rfl) (by kernel_rfl) (fun _ _ _ h => h) (Or.inl ⟨by rfl, ?_⟩) (by assumption) ?_
  rotate_left 1
  · (intro w hSw; (try dsimp only at hSw); go_simp; try with_reducible rfl)
  try simp only [Act.put, List.setIfInBounds_toArray, List.set_cons_zero, List.set_cons_succ]
  refine wpAnyH_take (i := 17) (oi := _) (v := ?_) rfl (by kernel_rfl) (by kernel_rfl) (by kernel_rfl) (fun _ _ _ h => h) (Or.inl ⟨by rfl, ?_⟩) (by assumption) ?_
  rotate_left 1
  · (intro w hSw; (try dsimp only at hSw); go_simp; try with_reducible rfl)
  try simp only [Act.put, List.setIfInBounds_toArray, List.set_cons_zero, List.set_cons_succ]
  refine wpAnyH_take (i := 18) (oi := _) (v := ?_) rfl (by kernel_rfl) (by kernel_rfl) (by kernel_rfl) (fun _ _ _ h => h) (Or.inl ⟨by rfl, ?_⟩) (by assumption) ?_
  rotate_left 1
  · (intro w hSw; (try dsimp only at hSw); go_simp; try with_reducible rfl)
  try simp only [Act.put, List.setIfInBounds_toArray, List.set_cons_zero, List.set_cons_succ]
  refine wpAnyH_ready (rs := [10, 19]) (by kernel_rfl) (by simp) ?_
  refine AllReadyH.cons rfl (fun K hK => ?_) ?_
  · go_simp
    refine hK.out _ _ ?_ (fun hHeld2 => ?_)
    · ((try dsimp only); first | assumption | go_keep)
    clear hK K
    refine wpAnyH_ready (rs := [19]) (by kernel_rfl) (by simp) ?_
    refine AllReadyH.cons rfl (fun K hK => ?_) ?_
    · go_simp
      refine hK.out _ _ ?_ (fun hHeld2 => ?_)
      · ((try dsimp only); first | assumption | go_keep)
      clear hK K
      refine wpAnyH_ready (rs := [20]) (by kernel_rfl) (by simp) ?_
      refine AllReadyH.cons rfl (fun K hK => ?_) ?_
      · go_simp
        refine hK.out _ _ ?_ (fun hHeld2 => ?_)
        · ((try dsimp only); first | assumption | go_keep)
        clear hK K
        refine wpAnyH_ready (rs := [21]) (by kernel_rfl) (by simp) ?_
        refine AllReadyH.cons rfl (fun K hK => ?_) ?_
        · refine step_append_lies _ (by rfl) (.tmp 25) (.tmp 35) 112 (by rfl) base 37 j0 (.pointer none) 1 8 Try.underlying112 ji jz0 jz1 jz2 rfl (by decide) _ m (ptrs fs) (by rfl) (own_kept HR.out (S := fun _ => False) (by repeat (first | exact Upd.refl _ _ | apply Upd.drew | apply Upd.drewN | apply Upd.alloc)) (fun _ _ => id)) ⟨W2.heap.size + 1, 0, none⟩ 1 1 [.pointer (some ⟨W2.heap.size, 0, none⟩)] (by rfl) rfl (World.news_of_block (cs := #[.pointer (some ⟨W2.heap.size, 0, none⟩)]) (blk_at _ _ _ (by simp))) (by intro u hu; simp at hu; subst hu; rfl) (by decide) (by unfold maxLen; omega) (by omega) (by have := HW2B.out; simp; omega) (W2.heap.size + 1 + 1) (by simp) ?_; intro g2 cp2 w3 hown hgrow hat hlt; obtain ⟨xS, xS2, x0, x1, hf⟩ := HFIN.out _ _ _ _ (by repeat (first | exact Upd.refl _ _ | apply Upd.drew | apply Upd.drewN | apply Upd.alloc)) (by first | exact two_at _ _ _ _ _ (by simp) | exact two_drew _ _ _ _ _ (by simp)) (by simp) hown hgrow hat; have HF := Lib.hid hf; clear hown hgrow hat hlt hf
          refine hK.out _ _ ?_ (fun hHeld2 => ?_)
          · ((try dsimp only); first | assumption | go_keep)
          clear hK K
          refine wpAnyH_take (i := 22) (oi := _) (v := ?_) rfl (by kernel_rfl) (by kernel_rfl) (by kernel_rfl) (fun _ _ _ h => h) (Or.inl ⟨by rfl, ?_⟩) (by assumption) ?_
          rotate_left 1
          · (intro w hSw; (try dsimp only at hSw); go_simp; try with_reducible rfl)
          try simp only [Act.put, List.setIfInBounds_toArray, List.set_cons_zero, List.set_cons_succ]
          refine wpAnyH_take (i := 23) (oi := _) (v := ?_) rfl (by kernel_rfl) (by kernel_rfl) (by kernel_rfl) (fun _ _ _ h => h) (Or.inl ⟨by rfl, ?_⟩) (by assumption) ?_
          rotate_left 1
          · (intro w hSw; (try dsimp only at hSw); go_simp; try with_reducible rfl)
          try simp only [Act.put, List.setIfInBounds_toArray, List.set_cons_zero, List.set_cons_succ]
          refine wpAnyH_ready (rs := [24]) (by kernel_rfl) (by simp) ?_
          refine AllReadyH.cons rfl (fun K hK => ?_) ?_
          · go_simp
            refine hK.out _ _ ?_ (fun hHeld3 => ?_)
            · ((try dsimp only); first | assumption | go_keep)
            clear hK K
            refine wpAnyH_done (by kernel_rfl) ?_ _
            go_wp2_with fail
            go_ret
            exact ⟨q7, P, rfl, by have h := HF.out; rw [HNN.out] at h; exact h⟩
          exact AllReadyH.nil
        exact AllReadyH.nil
      exact AllReadyH.nil
    exact AllReadyH.nil
  refine AllReadyH.cons rfl (fun K hK => ?_) ?_
  · go_simp
    refine hK.out _ _ ?_ (fun hHeld2 => ?_)
    · ((try dsimp only); first | assumption | go_keep)
    clear hK K
    refine wpAnyH_ready (rs := [10, 20]) (by kernel_rfl) (by simp) ?_
    refine AllReadyH.cons rfl (fun K hK => ?_) ?_
    · go_simp
      refine hK.out _ _ ?_ (fun hHeld2 => ?_)
      · ((try dsimp only); first | assumption | go_keep)
      clear hK K
      refine wpAnyH_ready (rs := [20]) (by kernel_rfl) (by simp) ?_
      refine AllReadyH.cons rfl (fun K hK => ?_) ?_
      · go_simp
        refine hK.out _ _ ?_ (fun hHeld2 => ?_)
        · ((try dsimp only); first | assumption | go_keep)
        clear hK K
        refine wpAnyH_ready (rs := [21]) (by kernel_rfl) (by simp) ?_
        refine AllReadyH.cons rfl (fun K hK => ?_) ?_
        · refine step_append_lies _ (by rfl) (.tmp 25) (.tmp 35) 112 (by rfl) base 37 j0 (.pointer none) 1 8 Try.underlying112 ji jz0 jz1 jz2 rfl (by decide) _ m (ptrs fs) (by rfl) (own_kept HR.out (S := fun _ => False) (by repeat (first | exact Upd.refl _ _ | apply Upd.drew | apply Upd.drewN | apply Upd.alloc)) (fun _ _ => id)) ⟨W2.heap.size + 1, 0, none⟩ 1 1 [.pointer (some ⟨W2.heap.size, 0, none⟩)] (by rfl) rfl (World.news_of_block (cs := #[.pointer (some ⟨W2.heap.size, 0, none⟩)]) (blk_at _ _ _ (by simp))) (by intro u hu; simp at hu; subst hu; rfl) (by decide) (by unfold maxLen; omega) (by omega) (by have := HW2B.out; simp; omega) (W2.heap.size + 1 + 1) (by simp) ?_; intro g2 cp2 w3 hown hgrow hat hlt; obtain ⟨xS, xS2, x0, x1, hf⟩ := HFIN.out _ _ _ _ (by repeat (first | exact Upd.refl _ _ | apply Upd.drew | apply Upd.drewN | apply Upd.alloc)) (by first | exact two_at _ _ _ _ _ (by simp) | exact two_drew _ _ _ _ _ (by simp)) (by simp) hown hgrow hat; have HF := Lib.hid hf; clear hown hgrow hat hlt hf
          refine hK.out _ _ ?_ (fun hHeld2 => ?_)
          · ((try dsimp only); first | assumption | go_keep)
          clear hK K
          refine wpAnyH_take (i := 22) (oi := _) (v := ?_) rfl (by kernel_rfl) (by kernel_rfl) (by kernel_rfl) (fun _ _ _ h => h) (Or.inl ⟨by rfl, ?_⟩) (by assumption) ?_
          rotate_left 1
          · (intro w hSw; (try dsimp only at hSw); go_simp; try with_reducible rfl)
          try simp only [Act.put, List.setIfInBounds_toArray, List.set_cons_zero, List.set_cons_succ]
          refine wpAnyH_take (i := 23) (oi := _) (v := ?_) rfl (by kernel_rfl) (by kernel_rfl) (by kernel_rfl) (fun _ _ _ h => h) (Or.inl ⟨by rfl, ?_⟩) (by assumption) ?_
          rotate_left 1
          · (intro w hSw; (try dsimp only at hSw); go_simp; try with_reducible rfl)
          try simp only [Act.put, List.setIfInBounds_toArray, List.set_cons_zero, List.set_cons_succ]
          refine wpAnyH_ready (rs := [24]) (by kernel_rfl) (by simp) ?_
          refine AllReadyH.cons rfl (fun K hK => ?_) ?_
          · go_simp
            refine hK.out _ _ ?_ (fun hHeld3 => ?_)
            · ((try dsimp only); first | assumption | go_keep)
            clear hK K
            refine wpAnyH_done (by kernel_rfl) ?_ _
            go_wp2_with fail
            go_ret
            exact ⟨q7, P, rfl, by have h := HF.out; rw [HNN.out] at h; exact h⟩
          exact AllReadyH.nil
        exact AllReadyH.nil
      exact AllReadyH.nil
    refine AllReadyH.cons rfl (fun K hK => ?_) ?_
    · go_simp
      refine hK.out _ _ ?_ (fun hHeld2 => ?_)
      · ((try dsimp only); first | assumption | go_keep)
      clear hK K
      refine wpAnyH_ready (rs := [10]) (by kernel_rfl) (by simp) ?_
      refine AllReadyH.cons rfl (fun K hK => ?_) ?_
      · go_simp
        refine hK.out _ _ ?_ (fun hHeld2 => ?_)
        · ((try dsimp only); first | assumption | go_keep)
        clear hK K
        refine wpAnyH_ready (rs := [21]) (by kernel_rfl) (by simp) ?_
        refine AllReadyH.cons rfl (fun K hK => ?_) ?_
        · refine step_append_lies _ (by rfl) (.tmp 25) (.tmp 35) 112 (by rfl) base 37 j0 (.pointer none) 1 8 Try.underlying112 ji jz0 jz1 jz2 rfl (by decide) _ m (ptrs fs) (by rfl) (own_kept HR.out (S := fun _ => False) (by repeat (first | exact Upd.refl _ _ | apply Upd.drew | apply Upd.drewN | apply Upd.alloc)) (fun _ _ => id)) ⟨W2.heap.size + 1, 0, none⟩ 1 1 [.pointer (some ⟨W2.heap.size, 0, none⟩)] (by rfl) rfl (World.news_of_block (cs := #[.pointer (some ⟨W2.heap.size, 0, none⟩)]) (blk_at _ _ _ (by simp))) (by intro u hu; simp at hu; subst hu; rfl) (by decide) (by unfold maxLen; omega) (by omega) (by have := HW2B.out; simp; omega) (W2.heap.size + 1 + 1) (by simp) ?_; intro g2 cp2 w3 hown hgrow hat hlt; obtain ⟨xS, xS2, x0, x1, hf⟩ := HFIN.out _ _ _ _ (by repeat (first | exact Upd.refl _ _ | apply Upd.drew | apply Upd.drewN | apply Upd.alloc)) (by first | exact two_at _ _ _ _ _ (by simp) | exact two_drew _ _ _ _ _ (by simp)) (by simp) hown hgrow hat; have HF := Lib.hid hf; clear hown hgrow hat hlt hf
          refine hK.out _ _ ?_ (fun hHeld2 => ?_)
          · ((try dsimp only); first | assumption | go_keep)
          clear hK K
          refine wpAnyH_take (i := 22) (oi := _) (v := ?_) rfl (by kernel_rfl) (by kernel_rfl) (by kernel_rfl) (fun _ _ _ h => h) (Or.inl ⟨by rfl, ?_⟩) (by assumption) ?_
          rotate_left 1
          · (intro w hSw; (try dsimp only at hSw); go_simp; try with_reducible rfl)
          try simp only [Act.put, List.setIfInBounds_toArray, List.set_cons_zero, List.set_cons_succ]
          refine wpAnyH_take (i := 23) (oi := _) (v := ?_) rfl (by kernel_rfl) (by kernel_rfl) (by kernel_rfl) (fun _ _ _ h => h) (Or.inl ⟨by rfl, ?_⟩) (by assumption) ?_
          rotate_left 1
          · (intro w hSw; (try dsimp only at hSw); go_simp; try with_reducible rfl)
          try simp only [Act.put, List.setIfInBounds_toArray, List.set_cons_zero, List.set_cons_succ]
          refine wpAnyH_ready (rs := [24]) (by kernel_rfl) (by simp) ?_
          refine AllReadyH.cons rfl (fun K hK => ?_) ?_
          · go_simp
            refine hK.out _ _ ?_ (fun hHeld3 => ?_)
            · ((try dsimp only); first | assumption | go_keep)
            clear hK K
            refine wpAnyH_done (by kernel_rfl) ?_ _
            go_wp2_with fail
            go_ret
            exact ⟨q7, P, rfl, by have h := HF.out; rw [HNN.out] at h; exact h⟩
          exact AllReadyH.nil
        exact AllReadyH.nil
      exact AllReadyH.nil
    exact AllReadyH.nil
  exact AllReadyH.nil
end Go.Proofs.Ytmfpmpbilekbgaa.bi45
