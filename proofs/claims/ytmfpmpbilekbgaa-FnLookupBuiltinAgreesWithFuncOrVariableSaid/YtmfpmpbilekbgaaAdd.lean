/- The calls that let the innermost scope grow. -/
import Derived.Test.YtmfpmpbilekbgaaGrow
set_option linter.unusedVariables false
namespace Go.Proofs.Ytmfpmpbilekbgaa.add
open Go.ChangeShapes Go.WideShapes Go.ChangeAt Go.RowKit
open upd comp grow

theorem info37 : (Try.prog.info? 37).map (fun i => (i.zero, i.size, i.bytes)) = some (some (.pointer none), 1, 8) := by kernel_rfl
theorem info47 : (Try.prog.info? 47).map (fun i => (i.zero, i.size, i.bytes)) = some (some (.pointer none), 1, 8) := by kernel_rfl
theorem info71 : (Try.prog.info? 71).map (fun i => (i.zero, i.size, i.bytes)) = some (some (.pointer none), 1, 8) := by kernel_rfl
theorem info_parts {t : TypeId} {z : Value} {s b : Nat} (h : (Try.prog.info? t).map (fun i => (i.zero, i.size, i.bytes)) = some (some z, s, b)) : ∃ i, Try.prog.info? t = some i ∧ i.zero = some z ∧ i.size = s ∧ i.bytes = b := by
  cases hi : Try.prog.info? t with
  | none => rw [hi] at h; cases h
  | some i => rw [hi] at h; simp at h; exact ⟨i, rfl, h.1, h.2.1, h.2.2⟩

/-- the scopes now are L -/
def Now (base : Nat) (w : World) (col : Nat → Nat) (c : Nat) (cv : Value) (bb : Nat) (B : Sc) (L : List Sc) (cnt : Int) (w' : World) : Prop :=
  ∃ col' sv bs, Nx base w col w' col' ∧ CompAt base w' col' c cv bb sv bs B L cnt

theorem sz2 (w : World) (n : Nat) (o o2 : Obj) : (((w.drewN n).alloc o).alloc o2).heap.size = w.heap.size + 1 + 1 := by simp [World.drewN]
theorem sz1 (w : World) (n : Nat) (o : Obj) : ((w.drewN n).alloc o).heap.size = w.heap.size + 1 := by simp [World.drewN]
theorem new_one (w : World) (n : Nat) (cs : Array Value) (t : TypeId) (o2 : Obj) : Blk (((w.drewN n).alloc (.cells cs t)).alloc o2) w.heap.size cs t := (Blk.new (w.drewN n) cs t).alloc _
theorem new_two (w : World) (n : Nat) (o : Obj) (cs : Array Value) (t : TypeId) : Blk (((w.drewN n).alloc o).alloc (.cells cs t)) (w.heap.size + 1) cs t := by
  have := Blk.new ((w.drewN n).alloc o) cs t
  rwa [sz1] at this
theorem fin_func {base c bb b g2 cp2 nq : Nat} {w w1 : World} {col : Nat → Nat} {cv sv vv : Value} {fa : Option Addr} {fc : Nat} {bs ps fs : List Nat} {B s : Sc} {L : List Sc} {cnt : Int} {nm : ByteArray} {pc ac : Int} (h : CompAt base w col c cv bb sv bs B (L ++ [s]) cnt) (hb : bs[L.length]? = some b)
    (hS : ScAt base w col (10 + 3 * L.length) b s vv (.slice fa fs.length fc) ps fs) (hbase : base ≤ w.heap.size) (hown : w1.ownsRow base 37 1 (.slice (some ⟨g2, 0, none⟩) (fs.length + 1) cp2) (fs.length + 1) (ptrs fs ++ [.pointer (some ⟨w.heap.size, 0, none⟩)]))
    (hgrow : (((w.drewN nq).alloc (.cells #[.string nm, .int .i64 pc, .int .i64 ac] 105)).alloc (.cells #[.pointer (some ⟨w.heap.size, 0, none⟩)] 37)).grownBy w1 (Value.slice fa fs.length fc).ownBlock) (hat : (Value.slice fa fs.length fc).ownBlock = some g2 ∨ g2 = w.heap.size + 1 + 1) :
    w1.cell? ⟨b, 1, none⟩ = some (.slice fa fs.length fc) ∧ w1.frozen? ⟨b, 1, none⟩ = false ∧ Now base w col c cv bb B (L ++ [{ s with funcs := s.funcs ++ [(nm, pc, ac)] }]) cnt (w1.setCell ⟨b, 1, none⟩ (.slice (some ⟨g2, 0, none⟩) (fs.length + 1) cp2)) := by
  have hu : Upd (fun _ => False) w (((w.drewN nq).alloc (.cells #[.string nm, .int .i64 pc, .int .i64 ac] 105)).alloc (.cells #[.pointer (some ⟨w.heap.size, 0, none⟩)] 37)) := (((Upd.refl _ _).drewN _).alloc _).alloc _
  have hblk := hS.blk.kept hu id
  have hbf : some b ≠ (Value.slice fa fs.length fc).ownBlock := fun e => by have := hS.funcs.clr b e.symm; have := hS.clr; omega
  have hb1 : Blk w1 b _ 114 := (hgrow.block b hblk.lt hbf).trans hblk
  refine ⟨by rw [hb1.cell]; rfl, hb1.free 1, ?_⟩
  obtain ⟨col', _, h1, h2⟩ := add_func (f := (nm, pc, ac)) h hb hS ⟨hu.mono (fun _ _ h => h.elim), hgrow, hown, hat, by rw [sz2]; omega, Nat.le_refl _, by rw [sz2]; omega, hbase⟩ hblk (new_one _ _ _ _ _)
  exact ⟨col', _, _, h1, h2⟩

set_option maxRecDepth 100000 in
set_option maxHeartbeats 2000000 in
theorem addF {base c bb : Nat} {w : World} {col : Nat → Nat} {cv sv : Value} {bs : List Nat} {B s : Sc} {L : List Sc} {cnt : Int} (h : CompAt base w col c cv bb sv bs B (L ++ [s]) cnt) (nm : ByteArray) (pc ac : Int) (hn : L.length ≤ 2097152) (hf : s.funcs.length ≤ 2097152) (hbase : base ≤ w.heap.size) :
    Calls Try.prog 49 #[.pointer (some ⟨c, 0, none⟩), .string nm, .int .i64 pc, .int .i64 ac] w fun e w' => e = .returned (.tuple #[]) ∧ Now base w col c cv bb B (L ++ [{ s with funcs := s.funcs ++ [(nm, pc, ac)] }]) cnt w' := by
  obtain ⟨hbl, b, vv, fv, ps, fs, hb, hS⟩ := CompAt.last h
  obtain ⟨ao, cp, rfl⟩ := slice_form h.row
  obtain ⟨g, rfl, _, hcp, _, hgl, hc⟩ := row_at h.row hb
  obtain ⟨fa, fc, rfl⟩ := slice_form hS.funcs.row
  obtain ⟨q, hq⟩ : ∃ q, q = L.length := ⟨_, rfl⟩
  obtain ⟨n, hnn⟩ : ∃ n, n = bs.length := ⟨_, rfl⟩
  obtain ⟨m, hmm⟩ : ∃ m, m = fs.length := ⟨_, rfl⟩
  have c8 : w.cell? ⟨c, 8, none⟩ = some (.slice (some ⟨g, 0, none⟩) n cp) := by rw [h.blk.cell, hnn]; rfl
  have b1 : w.cell? ⟨b, 1, none⟩ = some (.slice fa m fc) := by rw [hS.blk.cell, hmm]; rfl
  have f1 : w.frozen? ⟨b, 1, none⟩ = false := hS.blk.free 1
  have l0 := h.blk.lt
  have lb := hS.blk.lt
  rw [← hq] at hc
  unfold ptr at hc
  have hw : IntKind.i64.wrap ((n : Int) - 1) = q := by rw [IntWalk.i64_in _ (by omega)]; omega
  have i0 : (0 : Int) ≤ q := by omega
  have i1 : (q : Int) < n := by omega
  have i2 : n ≤ cp := by omega
  have hmf : m ≤ 2097152 := by rw [hmm, hS.flen]; exact hf
  obtain ⟨j0, ji, jz0, jz1, jz2⟩ := info_parts info37
  have HR : Hid (w.ownsRow base 37 1 (.slice fa m fc) m (ptrs fs)) := by unfold Hid; rw [hmm]; exact hS.funcs.row
  have HFIN : Hid (∀ (g2 cp2 nq : Nat) (w1 : World), w1.ownsRow base 37 1 (.slice (some ⟨g2, 0, none⟩) (m + 1) cp2) (m + 1) (ptrs fs ++ [.pointer (some ⟨w.heap.size, 0, none⟩)]) → (((w.drewN nq).alloc (.cells #[.string nm, .int .i64 pc, .int .i64 ac] 105)).alloc (.cells #[.pointer (some ⟨w.heap.size, 0, none⟩)] 37)).grownBy w1 (Value.slice fa m fc).ownBlock → ((Value.slice fa m fc).ownBlock = some g2 ∨ g2 = w.heap.size + 1 + 1) →
      w1.cell? ⟨b, 1, none⟩ = some (.slice fa m fc) ∧ w1.frozen? ⟨b, 1, none⟩ = false ∧ Now base w col c cv bb B (L ++ [{ s with funcs := s.funcs ++ [(nm, pc, ac)] }]) cnt (w1.setCell ⟨b, 1, none⟩ (.slice (some ⟨g2, 0, none⟩) (m + 1) cp2))) := by
    unfold Hid; subst hmm; intro g2 cp2 nq w1 k1 k2 k3
    exact fin_func h hb hS hbase k1 k2 k3
  clear h hS hb hcp hq hnn hmm hbl hn hf
  go_enter Try.func49, Try.ntmps49
  go_wp2_with fail
  go_quiet (fail)
  go_wp2_with (at_builtin; refine wpList_append_lies _ rfl (.tmp 25) (.tmp 31) 112 rfl base 37 j0 (.pointer none) 1 8 Try.underlying112 ji jz0 jz1 jz2 rfl (by decide) _ m (ptrs fs) rfl (own_kept HR.out (S := fun _ => False) (by repeat (first | exact Upd.refl _ _ | apply Upd.drew | apply Upd.drewN | apply Upd.alloc)) (fun _ _ => id)) ⟨w.heap.size + 1, 0, none⟩ 1 1 [.pointer (some ⟨w.heap.size, 0, none⟩)] rfl rfl (World.news_of_block (cs := #[.pointer (some ⟨w.heap.size, 0, none⟩)]) (new_two _ _ _ _ _)) (by intro u hu; simp at hu; subst hu; rfl) (by decide) (by unfold maxLen; omega) (by omega) (by rw [sz2]; omega) (w.heap.size + 1 + 1) (sz2 _ _ _ _) ?_; intro g2 cp2 w1 hown hgrow hat hlt; obtain ⟨k0, k1, hf⟩ := HFIN.out _ _ _ _ hown hgrow hat; have HF := Lib.hid hf; clear hown hgrow hat hlt hf)
  go_end0
  exact ⟨rfl, HF.out⟩
end Go.Proofs.Ytmfpmpbilekbgaa.add
