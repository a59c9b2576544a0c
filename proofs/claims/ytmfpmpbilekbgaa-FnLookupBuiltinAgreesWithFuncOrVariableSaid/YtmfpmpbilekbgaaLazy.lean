/- The calls that let the codes and the builtin scope grow: append (f46), lazy (f54), appendBuiltin (f45) and their closures. -/
import Derived.Test.YtmfpmpbilekbgaaCodes
set_option linter.unusedVariables false
namespace Go.Proofs.Ytmfpmpbilekbgaa.lazy
open Go.ChangeShapes Go.WideShapes Go.ChangeAt Go.RowKit
open upd comp grow add lookv var newc push wrap pushv lookf doors codes

theorem info99 : (Try.prog.info? 99).map (fun i => (i.zero, i.size, i.bytes)) = some (some (.pointer none), 1, 8) := by kernel_rfl
/-- the state behind a step -/
def After (base : Nat) (w : World) (col : Nat → Nat) (c bb : Nat) (sv : Value) (bs : List Nat) (B : Sc) (L : List Sc) (cnt : Int) (ps : List (Option Nat)) (cs : List (Int × Value)) (w' : World) : Prop :=
  ∃ col', NB base w col w' col' ∧ CB base w' col' c bb sv bs B L cnt ps cs

set_option maxHeartbeats 2000000 in
theorem addCode {base c bb p : Nat} {w : World} {col : Nat → Nat} {sv : Value} {bs : List Nat} {B : Sc} {L : List Sc} {cnt : Int} {ps : List (Option Nat)} {cs : List (Int × Value)} (h : CB base w col c bb sv bs B L cnt ps cs) (x : Int × Value) (hp : base ≤ p ∧ p < w.heap.size ∧ col p = 7) (hx : Blk w p (code x) 102) (hn : ps.length ≤ 2097152) (hbase : base ≤ w.heap.size) :
    Calls Try.prog 46 #[.pointer (some ⟨c, 0, none⟩), .pointer (some ⟨p, 0, none⟩)] w fun e w' => e = .returned (.tuple #[]) ∧ After base w col c bb sv bs B L cnt (ps ++ [some p]) (cs ++ [x]) w' := by
  obtain ⟨cv, hC, hD⟩ := h
  obtain ⟨ca, cc, rfl⟩ := slice_form hD.row
  obtain ⟨n, hnn⟩ : ∃ n, n = ps.length := ⟨_, rfl⟩
  have c5 : w.cell? ⟨c, 5, none⟩ = some (.slice ca n cc) := by rw [hC.blk.cell, hnn]; rfl
  have l0 := hC.blk.lt
  have HR : Hid (w.ownsRow base 99 1 (.slice ca n cc) n (optrs ps)) := by unfold Hid; rw [hnn]; exact hD.row
  obtain ⟨j0, ji, jz0, jz1, jz2⟩ := info_parts info99
  have HFIN : Hid (∀ (g2 cp2 : Nat) (w1 : World), w1.ownsRow base 99 1 (.slice (some ⟨g2, 0, none⟩) (n + 1) cp2) (n + 1) (optrs ps ++ [.pointer (some ⟨p, 0, none⟩)]) → (w.alloc (.cells #[.pointer (some ⟨p, 0, none⟩)] 99)).grownBy w1 (Value.slice ca n cc).ownBlock → ((Value.slice ca n cc).ownBlock = some g2 ∨ g2 = w.heap.size + 1) →
      w1.cell? ⟨c, 5, none⟩ = some (.slice ca n cc) ∧ w1.frozen? ⟨c, 5, none⟩ = false ∧ After base w col c bb sv bs B L cnt (ps ++ [some p]) (cs ++ [x]) (w1.setCell ⟨c, 5, none⟩ (.slice (some ⟨g2, 0, none⟩) (n + 1) cp2))) := by
    unfold Hid; subst hnn; intro g2 cp2 w1 k1 k2 k3
    exact fin_code hC hD (a := w.alloc (.cells #[.pointer (some ⟨p, 0, none⟩)] 99)) ((Upd.refl _ _).alloc _) (some p) x (fun q hq => by cases hq; exact ⟨hp, hx⟩) k1 k2 k3 (by simp) hbase
  rw [← hnn] at hn
  clear hC hD hp hx hnn
  go_enter Try.func46, Try.ntmps46
  go_wp2_with (at_builtin; refine wpList_append_lies _ rfl (.tmp 8) (.tmp 10) 69 rfl base 99 j0 (.pointer none) 1 8 Try.underlying69 ji jz0 jz1 jz2 rfl (by decide) _ n (optrs ps) rfl (own_kept HR.out (S := fun _ => False) (by repeat (first | exact Upd.refl _ _ | apply Upd.drew | apply Upd.drewN | apply Upd.alloc)) (fun _ _ => id)) ⟨w.heap.size, 0, none⟩ 1 1 [.pointer (some ⟨p, 0, none⟩)] rfl rfl (World.news_of_block (cs := #[.pointer (some ⟨p, 0, none⟩)]) (Blk.new _ _ _)) (by intro u hu; simp at hu; subst hu; rfl) (by decide) (by unfold maxLen; omega) (by omega) (by simp; omega) (w.heap.size + 1) (by simp) ?_; intro g2 cp2 w1 hown hgrow hat hlt; obtain ⟨k0, k1, hf⟩ := HFIN.out _ _ _ hown hgrow hat; have HF := Lib.hid hf; clear hown hgrow hat hlt hf)
  go_end0
  exact ⟨rfl, HF.out⟩

/-- a closure of appendBuiltin's: the code of its jump -/
def clos (q : Nat) : Value := .func (.func 55) #[] #[.pointer (some ⟨q, 0, none⟩)]
/-- the closure that lazy hands back, with its three variables' blocks -/
def Lazy (w : World) (col : Nat → Nat) (c q n P : Nat) : Prop :=
  (Blk w P #[.pointer (some ⟨c, 0, none⟩)] 29 ∧ col P = 0) ∧ (Blk w (P + 1) #[clos q] 116 ∧ col (P + 1) = 0) ∧ (Blk w (P + 1 + 1) #[.int .i64 n] 3 ∧ col (P + 1 + 1) = 0)
theorem Lazy.keep {base : Nat} {w w' : World} {col col' : Nat → Nat} {c q n P : Nat} (h : Lazy w col c q n P) (k : NB base w col w' col') : Lazy w' col' c q n P :=
  ⟨k.keep h.1.1 h.1.2, k.keep h.2.1.1 h.2.1.2, k.keep h.2.2.1 h.2.2.2⟩
def setj (P : Nat) : Value := .func (.func 58) #[] #[.pointer (some ⟨P + 1, 0, none⟩), .pointer (some ⟨P, 0, none⟩), .pointer (some ⟨P + 1 + 1, 0, none⟩)]

set_option maxHeartbeats 2000000 in
theorem lazy54 {base c bb q : Nat} {w : World} {col : Nat → Nat} {sv : Value} {bs : List Nat} {B : Sc} {L : List Sc} {cnt : Int} {ps : List (Option Nat)} {cs : List (Int × Value)} (h : CB base w col c bb sv bs B L cnt ps cs) (hn : ps.length ≤ 2097152) (hbase : base ≤ w.heap.size) :
    Calls Try.prog 54 #[.pointer (some ⟨c, 0, none⟩), clos q] w fun e w' => e = .returned (setj w.heap.size) ∧ ∃ col', NB base w col w' col' ∧ CB base w' col' c bb sv bs B L cnt (ps ++ [none]) (cs ++ [(0, .nilIface)]) ∧ Lazy w' col' c q ps.length w.heap.size := by
  obtain ⟨cv, hC, hD⟩ := h
  obtain ⟨ca, cc, rfl⟩ := slice_form hD.row
  obtain ⟨n, hnn⟩ : ∃ n, n = ps.length := ⟨_, rfl⟩
  have c5 : w.cell? ⟨c, 5, none⟩ = some (.slice ca n cc) := by rw [hC.blk.cell, hnn]; rfl
  have l0 := hC.blk.lt
  obtain ⟨j0, ji, jz0, jz1, jz2⟩ := info_parts info99
  obtain ⟨P, hP⟩ : ∃ P, P = w.heap.size := ⟨_, rfl⟩
  obtain ⟨W, hW⟩ : ∃ W, W = ((w.alloc (.cells #[.pointer (some ⟨c, 0, none⟩)] 29)).alloc (.cells #[clos q] 116)).alloc (.cells #[.int .i64 n] 3) := ⟨_, rfl⟩
  have hWs : W.heap.size = P + 1 + 1 + 1 := by rw [hW, hP]; simp
  have hu : Upd (fun _ => False) w W := by rw [hW]; exact (((Upd.refl _ _).alloc _).alloc _).alloc _
  have hk : ∀ k, k < w.heap.size → cut col w.heap.size k = col k := fun k hk => cut_old _ _ _ hk
  have hC1 := hC.step hu (fun _ h => h.elim) hk
  have hD1 := hD.step hu (fun _ h => h.elim) hk
  have hL1 : Lazy W (cut col w.heap.size) c q n P := by
    refine ⟨⟨?_, cut_new _ _ _ (by omega)⟩, ⟨?_, cut_new _ _ _ (by omega)⟩, ⟨?_, cut_new _ _ _ (by omega)⟩⟩
    · rw [hW, hP]; exact ((Blk.new _ _ _).alloc _).alloc _
    · have := (Blk.new (w.alloc (.cells #[.pointer (some ⟨c, 0, none⟩)] 29)) #[clos q] 116).alloc (.cells #[.int .i64 n] 3)
      rw [← hW] at this
      simpa [hP] using this
    · have := Blk.new ((w.alloc (.cells #[.pointer (some ⟨c, 0, none⟩)] 29)).alloc (.cells #[clos q] 116)) #[.int .i64 n] 3
      rw [← hW] at this
      simpa [hP] using this
  have HR : Hid (W.ownsRow base 99 1 (.slice ca n cc) n (optrs ps)) := by unfold Hid; rw [hnn]; exact hD1.row
  have d5 : W.cell? ⟨c, 5, none⟩ = some (.slice ca n cc) := by rw [hC1.blk.cell, hnn]; rfl
  have e2 : W.cell? ⟨P, 0, none⟩ = some (.pointer (some ⟨c, 0, none⟩)) := by rw [Blk.cell hL1.1.1]; rfl
  have l2 : P < W.heap.size := by omega
  have l1 := hC1.blk.lt
  have HFIN : Hid (∀ (g2 cp2 : Nat) (a w1 : World), Upd (fun _ => False) W a → a.heap.size ≤ W.heap.size + 1 → w1.ownsRow base 99 1 (.slice (some ⟨g2, 0, none⟩) (n + 1) cp2) (n + 1) (optrs ps ++ [.pointer none]) → a.grownBy w1 (Value.slice ca n cc).ownBlock → ((Value.slice ca n cc).ownBlock = some g2 ∨ g2 = W.heap.size + 1) →
      w1.cell? ⟨P, 0, none⟩ = some (.pointer (some ⟨c, 0, none⟩)) ∧ w1.cell? ⟨c, 5, none⟩ = some (.slice ca n cc) ∧ w1.frozen? ⟨c, 5, none⟩ = false ∧ ∃ col', NB base w col (w1.setCell ⟨c, 5, none⟩ (.slice (some ⟨g2, 0, none⟩) (n + 1) cp2)) col' ∧ CB base (w1.setCell ⟨c, 5, none⟩ (.slice (some ⟨g2, 0, none⟩) (n + 1) cp2)) col' c bb sv bs B L cnt (ps ++ [none]) (cs ++ [(0, .nilIface)]) ∧ Lazy (w1.setCell ⟨c, 5, none⟩ (.slice (some ⟨g2, 0, none⟩) (n + 1) cp2)) col' c q n P) := by
    unfold Hid; subst hnn; intro g2 cp2 a w1 ku ks k1 k2 k3
    obtain ⟨x1, x2, col', x3, x4⟩ := fin_code hC1 hD1 ku none (0, .nilIface) (fun q hq => by cases hq) k1 k2 k3 ks (by omega)
    have hb : Blk w1 P #[.pointer (some ⟨c, 0, none⟩)] 29 := (k2.block P (Nat.lt_of_lt_of_le l2 ku.size) (fun e => by have := hD1.clr P e.symm; have := hL1.1.2; omega)).trans ((ku.block P l2 id).trans hL1.1.1)
    exact ⟨by rw [hb.cell]; rfl, x1, x2, col', (NB.step hu _ hk).trans x3, x4, hL1.keep x3⟩
  have HWB : Hid (base ≤ W.heap.size) := by unfold Hid; omega
  rw [← hnn] at hn ⊢
  rw [← hP]
  clear hC hD hC1 hD1 hL1 hnn hk hu hWs
  unfold clos at hW ⊢
  unfold setj
  go_enter Try.func54, Try.ntmps54
  go_wp2_with fail
  rw [← hW, ← hP]
  clear hW c5 l0 hP
  go_region_law (refine step_append_lies _ rfl (.tmp 15) (.tmp 16) 69 rfl base 99 j0 (.pointer none) 1 8 Try.underlying69 ji jz0 jz1 jz2 rfl (by decide) _ n (optrs ps) rfl ?_ ⟨W.heap.size, 0, none⟩ 1 1 [.pointer none] rfl rfl ?_ ?_ (by decide) ?_ ?_ ?_ (W.heap.size + 1) ?_ ?_; (exact own_kept HR.out (S := fun _ => False) (by repeat (first | exact Upd.refl _ _ | apply Upd.drew | apply Upd.drewN | apply Upd.alloc)) (fun _ _ => id)); (exact World.news_of_block (cs := #[.pointer none]) (blk_at _ _ _ (by simp))); (intro u hu; simp at hu; subst hu; rfl); (unfold maxLen; omega); omega; (have := HWB.out; simp; omega); simp; intro g2 cp2 w1 hown hgrow hat hlt; obtain ⟨xP, x0, x1, hf⟩ := HFIN.out _ _ _ _ (by repeat (first | exact Upd.refl _ _ | apply Upd.drew | apply Upd.drewN | apply Upd.alloc)) (by simp) hown hgrow hat; have HF := Lib.hid hf; clear hown hgrow hat hlt hf)
  all_goals go_wp2_with fail
  all_goals go_ret
  all_goals exact ⟨rfl, HF.out⟩
end Go.Proofs.Ytmfpmpbilekbgaa.lazy
