/- More doors: pushVariable (f42), lookupFuncOrVariable (f31), a variable's name (f34). -/
import Derived.Test.YtmfpmpbilekbgaaPushV
import Derived.Test.YtmfpmpbilekbgaaLookF
set_option linter.unusedVariables false
namespace Go.Proofs.Ytmfpmpbilekbgaa.doors
open Go.ChangeShapes Go.WideShapes Go.ChangeAt Go.RowKit
open upd comp grow add lookv var newc push wrap pushv lookf

theorem varName (w : World) (p : Nat) (nm : ByteArray) (i : Int) (j : Nat) (h : VarAt w p nm i j) : Calls Try.prog 34 #[.pointer (some ⟨p, 0, none⟩)] w fun e w' => e = .returned (.string nm) ∧ w = w' := by
  have v0 : w.cell? ⟨p, 0, none⟩ = some (.string nm) := by rw [Blk.cell h]; rfl
  clear h
  go_enter Try.func34, Try.ntmps34
  go_wp2_with fail
  go_ret
  exact ⟨rfl, rfl⟩
set_option maxHeartbeats 1000000 in
theorem zlookF {base c bb : Nat} {w : World} {col : Nat → Nat} {cv sv : Value} {bs : List Nat} {B : Sc} {L : List Sc} {cnt : Int} (h : CompAt base w col c cv bb sv bs B L cnt) (nm : ByteArray) (hn : L.length ≤ 2097152) (hv : ∀ (k : Nat) (s : Sc), L[k]? = some s → s.vars.length ≤ 2097152 ∧ s.funcs.length ≤ 2097152) (h0 : 0 < nm.size) (isF : Bool) (hisF : (((nm[0]'h0).toNat : Int) != 36) = isF) :
    Calls Try.prog 31 #[.pointer (some ⟨c, 0, none⟩), .string nm] w fun e w' => (∃ n, w' = w.drewN n) ∧ LookF L nm isF w e := by
  have HC := Lib.hid (lookFV h nm hn hv h0 isF hisF)
  clear h hn hv hisF h0
  go_enter Try.func31, Try.ntmps31
  go_wp2_with fail
  go_at_call 50
  refine HC.out.mono ?_
  rintro e w1 ⟨⟨n, rfl⟩, hl⟩
  have HN : Hid (∃ n', w.drewN n = w.drewN n') := ⟨n, rfl⟩
  rcases hl with ⟨k, j, s, f, p, h1, h2, h3, h4, h5, h6, h7, h8, rfl⟩ | ⟨k, j, s, p, h1, h2, h3, h4, h5, rfl⟩ | ⟨h1, rfl⟩
  · have HF := Lib.hid (And.intro h1 (And.intro h2 (And.intro h3 (And.intro h4 (And.intro h5 (And.intro h6 (And.intro h7 h8)))))))
    clear h1 h2 h3 h4 h5 h6 h7 h8
    go_wp2_with fail
    go_ret2
    obtain ⟨h1, h2, h3, h4, h5, h6, h7, h8⟩ := HF.out
    exact ⟨HN.out, .inl ⟨k, j, s, f, p, h1, h2, h3, h4, h5, h6, h7, h8, rfl⟩⟩
  · have HF := Lib.hid (And.intro h1 (And.intro h2 (And.intro h3 (And.intro h4 h5))))
    clear h1 h2 h3 h4 h5
    go_wp2_with fail
    go_ret2
    obtain ⟨h1, h2, h3, h4, h5⟩ := HF.out
    exact ⟨HN.out, .inr (.inl ⟨k, j, s, p, h1, h2, h3, h4, h5, rfl⟩)⟩
  · have HF := Lib.hid h1
    clear h1
    go_wp2_with fail
    go_ret2
    exact ⟨HN.out, .inr (.inr ⟨HF.out, rfl⟩)⟩
theorem varIndex (w : World) (p : Nat) (nm : ByteArray) (i : Int) (j : Nat) (h : VarAt w p nm i j) : Calls Try.prog 33 #[.pointer (some ⟨p, 0, none⟩)] w fun e w' => e = .returned (lookv.two i j) ∧ Below w.heap.size w w' := by
  have v1 : w.cell? ⟨p, 1, none⟩ = some (.int .i64 i) := by rw [Blk.cell h]; rfl
  have v2 : w.cell? ⟨p, 2, none⟩ = some (.int .i64 j) := by rw [Blk.cell h]; rfl
  have lp := Blk.lt h
  clear h
  go_enter Try.func33, Try.ntmps33
  go_wp2_with fail
  have R2 := (((Blk.new w #[.int .i64 0, .int .i64 0] 50).set 0 (.int .i64 i)).set 1 (.int .i64 j))
  have z0 := R2.cell 0
  have z1 := R2.cell 1
  simp at z0 z1
  refine bodyPost_ret (v := lookv.two i j) (by simp [results, Try.results33, go_sem, lookv.two]) rfl ?_
  exact ⟨rfl, by first | exact ((((Below.refl _ _).alloc (Nat.le_refl _) _).setCell (Nat.le_refl _) _).setCell (Nat.le_refl _) _) | exact (Below.refl _ _).alloc (Nat.le_refl _) _⟩
set_option maxHeartbeats 1000000 in
theorem zpush {base c bb : Nat} {w : World} {col : Nat → Nat} {cv sv : Value} {bs : List Nat} {B s : Sc} {L : List Sc} {cnt : Int} (h : CompAt base w col c cv bb sv bs B (L ++ [s]) cnt) (nm : ByteArray) (hn : L.length ≤ 2097152) (hf : s.vars.length ≤ 2097152) (hbase : base ≤ w.heap.size) :
    Calls Try.prog 42 #[.pointer (some ⟨c, 0, none⟩), .string nm] w (PushV base w col c cv bb B L s cnt nm) := by
  have HC := Lib.hid (pushVar (enter h (.cells #[.int .i64 0, .int .i64 0] 50)) nm hn hf (by simp; omega))
  clear h hn hf
  go_enter Try.func42, Try.ntmps42
  go_wp2_with fail
  go_at_call 53
  refine HC.out.mono ?_
  rintro e w1 hp
  rcases hp with ⟨j, h1, h2, rfl, hN⟩ | ⟨h2, rfl, hN⟩
  · have HF := Lib.hid (And.intro h1 h2)
    have HNN := Lib.hid hN
    have hB := keep hN (Blk.new w _ _)
    have u0 : w1.cell? ⟨w.heap.size, 0, none⟩ = some (.int .i64 0) := by rw [Blk.cell hB]; rfl
    have u1 : w1.cell? ⟨w.heap.size, 1, none⟩ = some (.int .i64 0) := by rw [Blk.cell hB]; rfl
    have f0 := Blk.free hB 0
    have f1 := Blk.free hB 1
    have HB := Lib.hid hB
    clear hN hB h1 h2
    unfold lookv.two
    go_wp2_with fail
    have R2 := ((HB.out.set 0 (.int .i64 s.id)).set 1 (.int .i64 j))
    have z0 := R2.cell 0
    have z1 := R2.cell 1
    simp at z0 z1
    refine bodyPost_ret (v := lookv.two s.id j) (by simp [results, Try.results42, go_sem, z0, z1, lookv.two]) rfl ?_
    exact .inl ⟨j, HF.out.1, HF.out.2, rfl, leave HNN.out (((Upd.refl (· = w.heap.size) w1).setCell (.inl rfl) _).setCell (.inl rfl) _)⟩
  · have HF := Lib.hid h2
    have HNN := Lib.hid hN
    have hB := keep hN (Blk.new w _ _)
    have u0 : w1.cell? ⟨w.heap.size, 0, none⟩ = some (.int .i64 0) := by rw [Blk.cell hB]; rfl
    have u1 : w1.cell? ⟨w.heap.size, 1, none⟩ = some (.int .i64 0) := by rw [Blk.cell hB]; rfl
    have f0 := Blk.free hB 0
    have f1 := Blk.free hB 1
    have HB := Lib.hid hB
    clear hN hB h2
    unfold lookv.two
    go_wp2_with fail
    have R2 := ((HB.out.set 0 (.int .i64 s.id)).set 1 (.int .i64 s.vars.length))
    have z0 := R2.cell 0
    have z1 := R2.cell 1
    simp at z0 z1
    refine bodyPost_ret (v := lookv.two s.id s.vars.length) (by simp [results, Try.results42, go_sem, z0, z1, lookv.two]) rfl ?_
    exact .inr ⟨HF.out, rfl, leave HNN.out (((Upd.refl (· = w.heap.size) w1).setCell (.inl rfl) _).setCell (.inl rfl) _)⟩
end Go.Proofs.Ytmfpmpbilekbgaa.doors
