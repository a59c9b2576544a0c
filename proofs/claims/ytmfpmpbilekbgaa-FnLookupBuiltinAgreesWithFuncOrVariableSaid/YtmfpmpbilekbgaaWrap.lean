/- The statements' own doors to the compiler: each lays a block for its result. -/
import Derived.Test.YtmfpmpbilekbgaaPush
set_option linter.unusedVariables false
namespace Go.Proofs.Ytmfpmpbilekbgaa.wrap
open Go.ChangeShapes Go.WideShapes Go.ChangeAt Go.RowKit
open upd comp grow add lookv var newc push

/-- colours of old blocks alone -/
def cut (col : Nat → Nat) (n : Nat) : Nat → Nat := fun k => if k < n then col k else 0
theorem cut_old (col : Nat → Nat) (n k : Nat) (h : k < n) : cut col n k = col k := if_pos h
theorem cut_new (col : Nat → Nat) (n k : Nat) (h : n ≤ k) : cut col n k = 0 := if_neg (by omega)
theorem enter {base c bb : Nat} {w : World} {col : Nat → Nat} {cv sv : Value} {bs : List Nat} {B : Sc} {L : List Sc} {cnt : Int} (h : CompAt base w col c cv bb sv bs B L cnt) (o : Obj) : CompAt base (w.alloc o) (cut col w.heap.size) c cv bb sv bs B L cnt :=
  h.step (S := fun _ => False) ((Upd.refl _ _).alloc _) (fun _ h => h.elim) (fun k hk => cut_old _ _ _ hk)
theorem keep {base c bb : Nat} {w w1 : World} {col : Nat → Nat} {cv : Value} {B : Sc} {L : List Sc} {cnt : Int} {o : Obj} {cs : Array Value} {t : TypeId} (h : Now base (w.alloc o) (cut col w.heap.size) c cv bb B L cnt w1) (hb : Blk (w.alloc o) w.heap.size cs t) : Blk w1 w.heap.size cs t := by
  obtain ⟨col', sv, bs, hN, _⟩ := h
  exact hb.kept hN.upd (fun s => by have := s.2; rw [cut_new _ _ _ (Nat.le_refl _)] at this; omega)
theorem leave {base c bb : Nat} {w w1 W4 : World} {col : Nat → Nat} {cv : Value} {B : Sc} {L : List Sc} {cnt : Int} {o : Obj} (h : Now base (w.alloc o) (cut col w.heap.size) c cv bb B L cnt w1) (hu : Upd (· = w.heap.size) w1 W4) : Now base w col c cv bb B L cnt W4 := by
  obtain ⟨col', sv, bs, hN, hC⟩ := h
  have hz : col' w.heap.size = 0 := by rw [hN.old _ (by simp)]; exact cut_new _ _ _ (Nat.le_refl _)
  refine ⟨col', sv, bs, ⟨fun k hk => (hN.old k (by simp; omega)).trans (cut_old _ _ _ hk), ?_⟩, hC.step hu (fun k e _ => by rw [e]; exact hz) (fun _ _ => rfl)⟩
  have h1 : Upd (fun k => base ≤ k ∧ 0 < col k) w (w.alloc o) := (Upd.refl _ _).alloc _
  have h2 : Upd (fun k => base ≤ k ∧ 0 < col k) (w.alloc o) w1 := hN.upd.mono (fun k hk s => ⟨s.1, by
    rcases Nat.lt_or_ge k w.heap.size with hlt | hge
    · have := s.2; rwa [cut_old _ _ _ hlt] at this
    · have := s.2; rw [cut_new _ _ _ hge] at this; omega⟩)
  exact new_block (h1.trans h2) hu (Nat.le_refl _)

set_option maxHeartbeats 1000000 in
theorem zcreate {base c bb : Nat} {w : World} {col : Nat → Nat} {cv sv : Value} {bs : List Nat} {B s : Sc} {L : List Sc} {cnt : Int} (h : CompAt base w col c cv bb sv bs B (L ++ [s]) cnt) (nm : ByteArray) (hn : L.length ≤ 2097152) (hf : s.vars.length ≤ 2097152) (hbase : base ≤ w.heap.size) :
    Calls Try.prog 40 #[.pointer (some ⟨c, 0, none⟩), .string nm] w fun e w' => e = .returned (lookv.two s.id s.vars.length) ∧ Now base w col c cv bb B (L ++ [{ s with vars := s.vars ++ [nm] }]) cnt w' := by
  have HC := Lib.hid (var.create (enter h (.cells #[.int .i64 0, .int .i64 0] 50)) nm hn hf (by simp; omega))
  clear h hn hf
  go_enter Try.func40, Try.ntmps40
  go_wp2_with (go_at_call 52; refine HC.out.mono ?_; rintro e w1 ⟨rfl, hN⟩; have HNN := Lib.hid hN; have hB := keep hN (Blk.new w _ _); have u0 : w1.cell? ⟨w.heap.size, 0, none⟩ = some (.int .i64 0) := (by (rw [Blk.cell hB]; rfl)); have u1 : w1.cell? ⟨w.heap.size, 1, none⟩ = some (.int .i64 0) := (by (rw [Blk.cell hB]; rfl)); have f0 := Blk.free hB 0; have f1 := Blk.free hB 1; have HB := Lib.hid hB; unfold lookv.two; clear hN hB)
  have R2 := ((HB.out.set 0 (.int .i64 s.id)).set 1 (.int .i64 s.vars.length))
  have z0 := R2.cell 0
  have z1 := R2.cell 1
  simp at z0 z1
  refine bodyPost_ret (v := lookv.two s.id s.vars.length) (by simp [results, Try.results40, go_sem, z0, z1, lookv.two]) rfl ?_
  exact ⟨rfl, leave HNN.out (((Upd.refl (· = w.heap.size) w1).setCell (.inl rfl) _).setCell (.inl rfl) _)⟩

set_option maxHeartbeats 1000000 in
theorem zlook {base c bb : Nat} {w : World} {col : Nat → Nat} {cv sv : Value} {bs : List Nat} {B : Sc} {L : List Sc} {cnt : Int} (h : CompAt base w col c cv bb sv bs B L cnt) (nm : ByteArray) (hn : L.length ≤ 2097152) (hv : ∀ (k : Nat) (s : Sc), L[k]? = some s → s.vars.length ≤ 2097152) :
    Calls Try.prog 32 #[.pointer (some ⟨c, 0, none⟩), .string nm] w fun e w' => LookV L nm e ∧ Below w.heap.size w w' := by
  have HC := Lib.hid (lookVar (enter h (.cells #[.int .i64 0, .int .i64 0] 50)) nm hn hv)
  clear h hn hv
  have fin : ∀ w1 : World, Below (w.alloc (.cells #[.int .i64 0, .int .i64 0] 50)).heap.size (w.alloc (.cells #[.int .i64 0, .int .i64 0] 50)) w1 → ∀ a b : Value, Below w.heap.size w ((w1.setCell ⟨w.heap.size, 0, none⟩ a).setCell ⟨w.heap.size, 1, none⟩ b) := fun w1 hb a b =>
    ((((Below.refl _ _).alloc (Nat.le_refl _) _).trans (hb.mono (by simp))).setCell (Nat.le_refl _) _).setCell (Nat.le_refl _) _
  have FIN := Lib.hid fin
  clear fin
  go_enter Try.func32, Try.ntmps32
  go_wp2_with fail
  go_at_call 51
  refine HC.out.mono ?_
  rintro e w1 ⟨hl, hb⟩
  have hB : Blk w1 w.heap.size #[.int .i64 0, .int .i64 0] 50 := (Blk.new w #[.int .i64 0, .int .i64 0] 50).kept (Upd.of_below (S := fun _ => False) hb) id
  have u0 : w1.cell? ⟨w.heap.size, 0, none⟩ = some (.int .i64 0) := by rw [Blk.cell hB]; rfl
  have u1 : w1.cell? ⟨w.heap.size, 1, none⟩ = some (.int .i64 0) := by rw [Blk.cell hB]; rfl
  have f0 := Blk.free hB 0
  have f1 := Blk.free hB 1
  have HB := Lib.hid hB
  have HBL := Lib.hid hb
  clear hB hb
  rcases hl with ⟨k, j, s, hF, rfl⟩ | ⟨hF, t, v, rfl⟩
  · have HF := Lib.hid hF
    clear hF
    unfold lookv.two
    go_wp2_with fail
    have R2 := ((HB.out.set 0 (.int .i64 s.id)).set 1 (.int .i64 j))
    have z0 := R2.cell 0
    have z1 := R2.cell 1
    simp at z0 z1
    refine bodyPost_ret (v := .tuple #[lookv.two s.id j, .nilIface]) (by simp [results, Try.results32, go_sem, z0, z1, lookv.two]) rfl ?_
    exact ⟨.inl ⟨k, j, s, HF.out, rfl⟩, FIN.out w1 HBL.out _ _⟩
  · have HF := Lib.hid hF
    clear hF
    unfold lookv.two
    go_wp2_with fail
    have R2 := ((HB.out.set 0 (.int .i64 0)).set 1 (.int .i64 0))
    have z0 := R2.cell 0
    have z1 := R2.cell 1
    simp at z0 z1
    refine bodyPost_ret (v := .tuple #[lookv.two 0 0, .iface t v]) (by simp [results, Try.results32, go_sem, z0, z1, lookv.two]) rfl ?_
    exact ⟨.inr ⟨HF.out, t, v, rfl⟩, FIN.out w1 HBL.out _ _⟩
end Go.Proofs.Ytmfpmpbilekbgaa.wrap
