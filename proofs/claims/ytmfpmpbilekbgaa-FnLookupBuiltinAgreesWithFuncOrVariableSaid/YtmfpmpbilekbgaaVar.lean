/- createVariable: the innermost scope has one variable more. -/
import Derived.Test.YtmfpmpbilekbgaaAdd
import Derived.Test.YtmfpmpbilekbgaaLook
set_option linter.unusedVariables false
namespace Go.Proofs.Ytmfpmpbilekbgaa.var
open Go.ChangeShapes Go.WideShapes Go.ChangeAt Go.RowKit
open upd comp grow add lookv

theorem new_block {a b w : World} {S : Nat → Prop} {M : Nat} (h : Upd S a b) (k : Upd (· = M) b w) (hM : a.heap.size ≤ M) : Upd S a w :=
  ⟨k.os.trans h.os, k.tape.trans h.tape, k.output.trans h.output, Nat.le_trans h.size k.size, fun i hi hs => (k.block i (Nat.lt_of_lt_of_le hi h.size) (fun e => by omega)).trans (h.block i hi hs)⟩
/-- behind the append: W3 is w but for the scope's block (its count is one more already), a is W3 and new blocks, w1 has the longer row; r is the result's block -/
theorem fin_var {base c bb b g2 cp2 p H : Nat} {w W3 a w1 : World} {col : Nat → Nat} {cv sv fv : Value} {va : Option Addr} {vc : Nat} {bs ps fs : List Nat} {B s : Sc} {L : List Sc} {cnt : Int} {nm : ByteArray} (h : CompAt base w col c cv bb sv bs B (L ++ [s]) cnt) (hb : bs[L.length]? = some b)
    (hS : ScAt base w col (10 + 3 * L.length) b s (.slice va ps.length vc) fv ps fs) (hbase : base ≤ w.heap.size) (hu3 : Upd (· = b) w W3) (hb3 : Blk W3 b #[.slice va ps.length vc, fv, .int .i64 s.id, .int .i64 0, .int .i64 ((s.vars.length + 1 : Nat) : Int)] 114) (hua : Upd (fun _ => False) W3 a) (hp : W3.heap.size ≤ p) (hpa : p < a.heap.size) (hv : VarAt a p nm s.id s.vars.length)
    (hown : w1.ownsRow base 47 1 (.slice (some ⟨g2, 0, none⟩) (ps.length + 1) cp2) (ps.length + 1) (ptrs ps ++ [ptr p]))
    (hgrow : a.grownBy w1 (Value.slice va ps.length vc).ownBlock) (hat : (Value.slice va ps.length vc).ownBlock = some g2 ∨ g2 = H) (hH : a.heap.size ≤ H) :
    w1.cell? ⟨b, 0, none⟩ = some (.slice va ps.length vc) ∧ w1.frozen? ⟨b, 0, none⟩ = false ∧
    (∀ (r : Nat) (cs : Array Value) (t : TypeId), w.heap.size ≤ r → Blk W3 r cs t → Blk (w1.setCell ⟨b, 0, none⟩ (.slice (some ⟨g2, 0, none⟩) (ps.length + 1) cp2)) r cs t) ∧
    (∀ (r : Nat) (W4 : World), w.heap.size ≤ r → r < W3.heap.size → Upd (· = r) (w1.setCell ⟨b, 0, none⟩ (.slice (some ⟨g2, 0, none⟩) (ps.length + 1) cp2)) W4 → Now base w col c cv bb B (L ++ [{ s with vars := s.vars ++ [nm] }]) cnt W4) := by
  have hbl := hS.blk.lt
  have h3l := hu3.size
  have hbf : some b ≠ (Value.slice va ps.length vc).ownBlock := fun e => by have := hS.vars.clr b e.symm; have := hS.clr; omega
  have hba := hb3.kept hua id
  have hb1 : Blk w1 b _ 114 := (hgrow.block b hba.lt hbf).trans hba
  refine ⟨by rw [hb1.cell]; rfl, hb1.free 0, fun r cs t hr hblk => ?_, fun r W4 hr hr3 hu4 => ?_⟩
  · have h1 := hblk.kept hua id
    have h2 : Blk w1 r cs t := (hgrow.block r h1.lt (fun e => by have := (hS.vars.row.lt r e.symm).2; omega)).trans h1
    exact h2.other (show r ≠ b by omega) _
  · obtain ⟨col', h0, h1, h2⟩ := add_var (nm := nm) (a := a) (w1 := w1) (g := g2) (cap := cp2) (p := p) (H := H) h hb hS ⟨hu3.trans (hua.mono (fun _ _ h => h.elim)), hgrow, hown, hat, hH, by omega, hpa, hbase⟩ hba hv
    have hra : r < a.heap.size := Nat.lt_of_lt_of_le hr3 hua.size
    have hz : col' r = 0 := h0 r hr hra (by omega)
    refine ⟨col', sv, bs, ⟨h1.old, new_block h1.upd hu4 hr⟩, h2.step hu4 (fun k hk _ => by rw [hk]; exact hz) (fun _ _ => rfl)⟩

theorem blk_at (W : World) (o : Obj) (n : Nat) (h : W.heap.size = n) : (W.alloc o).heap[n]? = some o := by subst h; exact heap_alloc_last _ _
theorem blk_drew (W : World) (o : Obj) (n : Nat) (h : W.heap.size = n) : (W.alloc o).drew.heap[n]? = some o := blk_at W o n h
theorem two_at (X : World) (cs : Array Value) (t : TypeId) (o2 : Obj) (n : Nat) (h : X.heap.size = n) : Blk ((X.alloc (.cells cs t)).alloc o2) n cs t := by subst h; exact (Blk.new X cs t).alloc _
theorem two_drew (X : World) (cs : Array Value) (t : TypeId) (o2 : Obj) (n : Nat) (h : X.heap.size = n) : Blk ((X.alloc (.cells cs t)).alloc o2).drew n cs t := two_at X cs t o2 n h
theorem two_mid (X : World) (cs : Array Value) (t : TypeId) (o2 : Obj) (n : Nat) (h : X.heap.size = n) : Blk ((X.alloc (.cells cs t)).drew.alloc o2) n cs t := two_at X cs t o2 n h

/-- ahead of the last region: the two results' blocks as they stand, the compiler's state but for them -/
structure Fin (base : Nat) (w : World) (col : Nat → Nat) (c : Nat) (cv : Value) (bb : Nat) (B : Sc) (L : List Sc) (cnt : Int) (r r2 : Nat) (i : Int) (m : Nat) (w' : World) : Prop where
  one : Blk w' r #[.int .i64 0, .int .i64 0] 50
  two : Blk w' r2 #[.int .i64 i, .int .i64 m] 50
  fin : ∀ W4, Upd (· = r) w' W4 → Now base w col c cv bb B L cnt W4

set_option maxRecDepth 100000 in
set_option maxHeartbeats 2000000 in
theorem create {base c bb : Nat} {w : World} {col : Nat → Nat} {cv sv : Value} {bs : List Nat} {B s : Sc} {L : List Sc} {cnt : Int} (h : CompAt base w col c cv bb sv bs B (L ++ [s]) cnt) (nm : ByteArray) (hn : L.length ≤ 2097152) (hf : s.vars.length ≤ 2097152) (hbase : base ≤ w.heap.size) :
    Calls Try.prog 52 #[.pointer (some ⟨c, 0, none⟩), .string nm] w fun e w' => e = .returned (two s.id s.vars.length) ∧ Now base w col c cv bb B (L ++ [{ s with vars := s.vars ++ [nm] }]) cnt w' := by
  obtain ⟨hbl, b, vv, fv, ps, fs, hb, hS⟩ := CompAt.last h
  obtain ⟨ao, cp, rfl⟩ := slice_form h.row
  obtain ⟨g, rfl, _, hcp, _, hgl, hc⟩ := row_at h.row hb
  obtain ⟨va, vc, rfl⟩ := slice_form hS.vars.row
  obtain ⟨q, hq⟩ : ∃ q, q = L.length := ⟨_, rfl⟩
  obtain ⟨n, hnn⟩ : ∃ n, n = bs.length := ⟨_, rfl⟩
  obtain ⟨m, hmm⟩ : ∃ m, m = ps.length := ⟨_, rfl⟩
  have c8 : w.cell? ⟨c, 8, none⟩ = some (.slice (some ⟨g, 0, none⟩) n cp) := by rw [h.blk.cell, hnn]; rfl
  have b0 : w.cell? ⟨b, 0, none⟩ = some (.slice va m vc) := by rw [hS.blk.cell, hmm]; rfl
  have b2 : w.cell? ⟨b, 2, none⟩ = some (.int .i64 s.id) := by rw [hS.blk.cell]; rfl
  have b3 : w.cell? ⟨b, 3, none⟩ = some (.int .i64 0) := by rw [hS.blk.cell]; rfl
  have b4 : w.cell? ⟨b, 4, none⟩ = some (.int .i64 m) := by rw [hS.blk.cell, hmm, hS.plen]; rfl
  have f4 : w.frozen? ⟨b, 4, none⟩ = false := hS.blk.free 4
  have l0 := h.blk.lt
  have lb := hS.blk.lt
  rw [← hq] at hc
  unfold ptr at hc
  have hw : IntKind.i64.wrap ((n : Int) - 1) = q := by rw [IntWalk.i64_in _ (by omega)]; omega
  have i0 : (0 : Int) ≤ q := by omega
  have i1 : (q : Int) < n := by omega
  have i2 : n ≤ cp := by omega
  have hmf : m ≤ 2097152 := by rw [hmm, hS.plen]; exact hf
  obtain ⟨j0, ji, jz0, jz1, jz2⟩ := info_parts info47
  have H := Lib.hid h
  have HS := Lib.hid hS
  have HB := Lib.hid hb
  have HM := Lib.hid hmm
  clear h hS hb hcp hq hnn hmm hbl hn hf
  go_enter Try.func52, Try.ntmps52
  go_wp2_with fail
  go_quiet (fail)
  go_wp2_with fail
  obtain ⟨W1, hW1⟩ : ∃ W1, W1 = (w.alloc (.cells #[.int .i64 0, .int .i64 0] 50)).drewN nq := ⟨_, rfl⟩
  rw [← hW1]
  obtain ⟨r, hr⟩ : ∃ r, r = w.heap.size := ⟨_, rfl⟩
  have hu1 : Upd (fun _ => False) w W1 := by rw [hW1]; exact ((Upd.refl _ _).alloc _).drewN _
  have hR1 : Blk W1 r #[.int .i64 0, .int .i64 0] 50 := by rw [hW1, hr]; exact (Blk.new w _ 50).drewN _
  have d0 := (hu1.cell (p := ⟨b, 0, none⟩) lb id).trans b0
  have d2 := (hu1.cell (p := ⟨b, 2, none⟩) lb id).trans b2
  have d3 := (hu1.cell (p := ⟨b, 3, none⟩) lb id).trans b3
  have d4 := (hu1.cell (p := ⟨b, 4, none⟩) lb id).trans b4
  have k4 : W1.frozen? ⟨b, 4, none⟩ = false := (HS.out.blk.kept hu1 id).free 4
  have lb1 : b < W1.heap.size := Nat.lt_of_lt_of_le lb hu1.size
  rw [← hr]
  have HR1 := Lib.hid hR1
  have HU1 := Lib.hid hu1
  have HRR := Lib.hid hr
  clear hW1 hu1 hR1 hr b0 b2 b3 b4 f4 c8 hc l0
  go_region
  obtain ⟨W2, hW2⟩ : ∃ W2, W2 = (W1.alloc (.cells #[.int .i64 s.id, .int .i64 m] 50)).drew := ⟨_, rfl⟩
  rw [← hW2]
  obtain ⟨r2, hr2⟩ : ∃ r2, r2 = W1.heap.size := ⟨_, rfl⟩
  rw [← hr2]
  have hu2 : Upd (fun _ => False) W1 W2 := by rw [hW2]; exact ((Upd.refl _ _).alloc _).drew
  have HR2 : Hid (Blk W2 r2 #[.int .i64 s.id, .int .i64 m] 50) := by unfold Hid; rw [hW2, hr2]; exact Blk.new _ _ _
  have d0 := (hu2.cell (p := ⟨b, 0, none⟩) lb1 id).trans d0
  have d3 := (hu2.cell (p := ⟨b, 3, none⟩) lb1 id).trans d3
  have d4 := (hu2.cell (p := ⟨b, 4, none⟩) lb1 id).trans d4
  have HU2 := Lib.hid (HU1.out.trans hu2)
  have k4 : W2.frozen? ⟨b, 4, none⟩ = false := (HS.out.blk.kept HU2.out id).free 4
  have HR0 := Lib.hid (HR1.out.kept hu2 id)
  have HRL : Hid (w.heap.size ≤ r2) := by unfold Hid; have := HU1.out.size; omega
  have hw2 : IntKind.i64.wrap ((m : Int) + 1) = ((m + 1 : Nat) : Int) := by rw [IntWalk.i64_in _ (by omega)]; omega
  clear hW2 hu2 hr2 d2 HR1 HU1 lb1
  go_wp2_with fail
  obtain ⟨W3, hW3⟩ : ∃ W3, W3 = W2.setCell ⟨b, 4, none⟩ (.int .i64 ((m : Int) + 1)) := ⟨_, rfl⟩
  rw [← hW3]
  have hrb : r ≠ b := by have := HRR.out; omega
  have hrb2 : r2 ≠ b := by have := HRL.out; omega
  have HU3 : Hid (Upd (· = b) w W3) := by unfold Hid; rw [hW3]; exact Upd.setCell (S := (· = b)) (HU2.out.mono (fun _ _ h => h.elim)) (p := ⟨b, 4, none⟩) (.inl rfl) _
  have HRA : Hid (Blk W3 r #[.int .i64 0, .int .i64 0] 50) := by unfold Hid; rw [hW3]; exact HR0.out.other (show r ≠ b from hrb) _
  have HRB : Hid (Blk W3 r2 #[.int .i64 s.id, .int .i64 m] 50) := by unfold Hid; rw [hW3]; exact HR2.out.other (show r2 ≠ b from hrb2) _
  have hb3 : Blk W3 b #[.slice va ps.length vc, fv, .int .i64 s.id, .int .i64 0, .int .i64 ((s.vars.length + 1 : Nat) : Int)] 114 := by
    have h := (HS.out.blk.kept HU2.out id).set 4 (.int .i64 ((m : Int) + 1))
    rw [← hW3, HM.out, HS.out.plen] at h
    rw [HS.out.plen]
    simpa using h
  have d0 : W3.cell? ⟨b, 0, none⟩ = some (.slice va m vc) := by rw [Blk.cell hb3, HM.out]; rfl
  have d3 : W3.cell? ⟨b, 3, none⟩ = some (.int .i64 0) := by rw [Blk.cell hb3]; rfl
  have e0 : W3.cell? ⟨r2, 0, none⟩ = some (.int .i64 s.id) := by rw [Blk.cell HRB.out]; rfl
  have e1 : W3.cell? ⟨r2, 1, none⟩ = some (.int .i64 m) := by rw [Blk.cell HRB.out]; rfl
  have le2 : r2 < W3.heap.size := Blk.lt HRB.out
  have lb3 : b < W3.heap.size := Blk.lt hb3
  have HL3 : Hid (r < W3.heap.size) := Blk.lt HRA.out
  have hz3 : base ≤ W3.heap.size := by have := HU3.out.size; omega
  have HR : Hid (W3.ownsRow base 47 1 (.slice va m vc) m (ptrs ps)) := by
    unfold Hid
    rw [HM.out]
    exact own_kept HS.out.vars.row HU3.out (fun g hg e => by have := HS.out.vars.clr g hg; have := HS.out.clr; rw [e] at *; omega)
  have HFIN : Hid (∀ (g2 cp2 : Nat) (a w1 : World), Upd (fun _ => False) W3 a → Blk a W3.heap.size #[.string nm, .int .i64 s.id, .int .i64 m, .int .i64 0] 109 → a.heap.size ≤ W3.heap.size + 1 + 1 → w1.ownsRow base 47 1 (.slice (some ⟨g2, 0, none⟩) (m + 1) cp2) (m + 1) (ptrs ps ++ [.pointer (some ⟨W3.heap.size, 0, none⟩)]) → a.grownBy w1 (Value.slice va m vc).ownBlock → ((Value.slice va m vc).ownBlock = some g2 ∨ g2 = W3.heap.size + 1 + 1) →
      w1.cell? ⟨b, 0, none⟩ = some (.slice va m vc) ∧ w1.frozen? ⟨b, 0, none⟩ = false ∧ Fin base w col c cv bb B (L ++ [{ s with vars := s.vars ++ [nm] }]) cnt r r2 s.id m (w1.setCell ⟨b, 0, none⟩ (.slice (some ⟨g2, 0, none⟩) (m + 1) cp2))) := by
    unfold Hid
    intro g2 cp2 a w1 k1 k2 k3 k4 k5 k6
    have hmm := HM.out
    have hvl : m = s.vars.length := by rw [hmm, HS.out.plen]
    have k7 : VarAt a W3.heap.size nm s.id s.vars.length := by unfold VarAt; rw [← hvl]; exact k2
    rw [hmm] at k4 k5 k6
    have e1 : Value.slice va m vc = Value.slice va ps.length vc := by rw [hmm]
    have e2 : m + 1 = ps.length + 1 := by rw [hmm]
    rw [e1, e2]
    obtain ⟨x1, x2, x3, x4⟩ := fin_var (nm := nm) H.out HB.out HS.out hbase HU3.out hb3 k1 (Nat.le_refl _) (Blk.lt k2) k7 k4 k5 k6 k3
    refine ⟨x1, x2, ⟨x3 r _ _ (by rw [HRR.out]; exact Nat.le_refl _) HRA.out, x3 r2 _ _ HRL.out HRB.out, fun W4 hu => x4 r W4 (by rw [HRR.out]; exact Nat.le_refl _) HL3.out hu⟩⟩
  have HVL : Hid (m = s.vars.length) := by unfold Hid; rw [HM.out, HS.out.plen]
  clear hW3 hb3 k4 d4 HU2 HR0 HR2 HRA HRB HRL HU3 HRR HS HB H HM hrb hrb2 hw hw2 hbase
  go_region_law (refine step_append_lies _ rfl (.tmp 39) (.tmp 48) 111 rfl base 47 j0 (.pointer none) 1 8 Try.underlying111 ji jz0 jz1 jz2 rfl (by decide) _ m (ptrs ps) rfl ?_ ⟨W3.heap.size + 1, 0, none⟩ 1 1 [.pointer (some ⟨W3.heap.size, 0, none⟩)] rfl rfl ?_ ?_ (by decide) ?_ ?_ ?_ (W3.heap.size + 1 + 1) ?_ ?_; (exact own_kept HR.out (S := fun _ => False) (by repeat (first | exact Upd.refl _ _ | apply Upd.drew | apply Upd.drewN | apply Upd.alloc)) (fun _ _ => id)); (first | exact World.news_of_block (cs := #[.pointer (some ⟨W3.heap.size, 0, none⟩)]) (blk_at _ _ _ (by simp)) | exact World.news_of_block (cs := #[.pointer (some ⟨W3.heap.size, 0, none⟩)]) (blk_drew _ _ _ (by simp))); (intro u hu; simp at hu; subst hu; rfl); (unfold maxLen; omega); omega; (simp; omega); simp; intro g2 cp2 w1 hown hgrow hat hlt; obtain ⟨x0, x1, hf⟩ := HFIN.out _ _ _ _ (by repeat (first | exact Upd.refl _ _ | apply Upd.drew | apply Upd.drewN | apply Upd.alloc)) (by first | exact two_at _ _ _ _ _ (by simp) | exact two_drew _ _ _ _ _ (by simp) | exact two_mid _ _ _ _ _ (by simp)) (by simp) hown hgrow hat; have HF := Lib.hid hf; clear hown hgrow hat hlt hf)
  all_goals
    generalize w1.setCell ⟨b, 0, none⟩ (.slice (some ⟨g2, 0, none⟩) (m + 1) cp2) = W4 at HF ⊢
    clear x0 x1 d0 d3 e0 e1 le2 lb3
    have y0 : W4.cell? ⟨r2, 0, none⟩ = some (.int .i64 s.id) := by rw [Blk.cell HF.out.two]; rfl
    have y1 : W4.cell? ⟨r2, 1, none⟩ = some (.int .i64 m) := by rw [Blk.cell HF.out.two]; rfl
    have u0 : W4.cell? ⟨r, 0, none⟩ = some (.int .i64 0) := by rw [Blk.cell HF.out.one]; rfl
    have u1 : W4.cell? ⟨r, 1, none⟩ = some (.int .i64 0) := by rw [Blk.cell HF.out.one]; rfl
    have f0 : W4.frozen? ⟨r, 0, none⟩ = false := Blk.free HF.out.one 0
    have f1 : W4.frozen? ⟨r, 1, none⟩ = false := Blk.free HF.out.one 1
    go_wp2_with fail
    have R2 := ((HF.out.one.set 0 (.int .i64 s.id)).set 1 (.int .i64 m))
    have z0 := R2.cell 0
    have z1 := R2.cell 1
    simp at z0 z1
    refine bodyPost_ret (v := lookv.two s.id m) (by simp [results, Try.results52, go_sem, z0, z1, lookv.two]) rfl ?_
    exact ⟨by rw [HVL.out], HF.out.fin _ (((Upd.refl (· = r) W4).setCell (.inl rfl) _).setCell (.inl rfl) _)⟩
end Go.Proofs.Ytmfpmpbilekbgaa.var
