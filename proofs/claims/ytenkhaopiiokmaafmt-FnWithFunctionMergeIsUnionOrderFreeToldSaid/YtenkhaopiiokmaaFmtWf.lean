/- Registering a function: the option that withFunction makes, applied to a compiler; what the compiler then holds. -/
import Derived.Test.YtenkhaopiiokmaaFmtProg
import Derived.Test.YtenkhaopiiokmaaFmtUpd
import Derived.Test.YtenkhaopiiokmaaFmtMapR
import Derived.Test.YtenkhaopiiokmaaFmtMask
import Derived.WalkKit
import Derived.KernelRfl
import Derived.ProofKit
import Derived.OpenShut
import Derived.LoopTactic
import Derived.WalkLawsBesides
import Derived.WalkSpells
import Derived.Laws.EntriesVeiled
import Derived.Laws.Shifts
import Derived.Deep.QuietTactic
import Derived.BigQuiet
import Derived.Deep.RegionLaw
import Derived.StillTailTactics
import Derived.IntWalk
set_option linter.unusedVariables false
namespace Go.Proofs.YtenkhaopiiokmaaFmt.wf
open Go.ChangeShapes Go.WideShapes Go.ChangeAt Go.RowKit
open upd mapr mask

/-- a compiler's cells, but for its custom functions -/
def comp (v : Value) : Array Value := #[.nilIface, .nilFunc, .slice none 0 0, v, .nilIface, .slice none 0 0, .slice none 0 0, .pointer none, .slice none 0 0, .int .i64 0, .int .u32 0, .int .i32 0, .int .u32 0, .pointer none, .nilFunc, .nilFunc, .int .u64 0]
theorem newc (w : World) : Calls Tryf.prog 9 #[] w fun e w' => e = .returned (.pointer (some ⟨w.heap.size, 0, none⟩)) ∧ w' = w.alloc (.cells (comp (.map none)) 71) := by
  go_enter Tryf.func9, Tryf.ntmps9
  go_wp2_with fail
  go_ret
  exact ⟨rfl, rfl⟩

/-- an option: a closure over the name, the flag, the mask, the callback -/
def Opt (w : World) (lo hi : Nat) (f : Value) (nm : ByteArray) (it : Bool) (mk : Nat) (cb : Value) : Prop :=
  ∃ p1 p2 p3 p4 : Nat, f = .func (.func 23) #[] #[.pointer (some ⟨p1, 0, none⟩), .pointer (some ⟨p2, 0, none⟩), .pointer (some ⟨p3, 0, none⟩), .pointer (some ⟨p4, 0, none⟩)] ∧
    (lo ≤ p1 ∧ p1 < hi) ∧ (lo ≤ p2 ∧ p2 < hi) ∧ (lo ≤ p3 ∧ p3 < hi) ∧ (lo ≤ p4 ∧ p4 < hi) ∧ Blk w p1 #[.string nm] 9 ∧ Blk w p2 #[.bool it] 4 ∧ Blk w p3 #[.int .i64 mk] 3 ∧ Blk w p4 #[cb] 72
theorem Opt.kept {w w' : World} {lo hi : Nat} {f : Value} {nm : ByteArray} {it : Bool} {mk : Nat} {cb : Value} {S : Nat → Prop} (h : Opt w lo hi f nm it mk cb) (hu : Upd S w w') (hS : ∀ k, lo ≤ k → k < hi → ¬ S k) : Opt w' lo hi f nm it mk cb := by
  obtain ⟨p1, p2, p3, p4, rfl, h1, h2, h3, h4, b1, b2, b3, b4⟩ := h
  exact ⟨p1, p2, p3, p4, rfl, h1, h2, h3, h4, b1.kept hu (hS _ h1.1 h1.2), b2.kept hu (hS _ h2.1 h2.2), b3.kept hu (hS _ h3.1 h3.2), b4.kept hu (hS _ h4.1 h4.2)⟩

theorem valid (a b : Int) (w : World) (h0 : 0 ≤ a) (h1 : a ≤ b) (h2 : b ≤ 30) : Calls Tryf.prog 8 #[.int .i64 a, .int .i64 b] w fun e w' => e = .returned (.bool true) ∧ w = w' := by
  go_enter Tryf.func8, Tryf.ntmps8
  go_wp2_with fail
  go_ret
  exact ⟨rfl, rfl⟩
theorem invalid (a b : Int) (w : World) (h : ¬ (0 ≤ a ∧ a ≤ b ∧ b ≤ 30)) : Calls Tryf.prog 8 #[.int .i64 a, .int .i64 b] w fun e w' => e = .returned (.bool false) ∧ w = w' := by
  by_cases c0 : 0 ≤ a
  · by_cases c1 : a ≤ b
    · have c2 : ¬ b ≤ 30 := fun e => h ⟨c0, c1, e⟩
      clear h
      go_enter Tryf.func8, Tryf.ntmps8
      go_wp2_with fail
      go_ret
      exact ⟨rfl, rfl⟩
    · clear h
      go_enter Tryf.func8, Tryf.ntmps8
      go_wp2_with fail
      go_ret
      exact ⟨rfl, rfl⟩
  · clear h
    go_enter Tryf.func8, Tryf.ntmps8
    go_wp2_with fail
    go_ret
    exact ⟨rfl, rfl⟩

theorem sz (w : World) (o : Obj) : (w.alloc o).heap.size = w.heap.size + 1 := by simp
set_option maxHeartbeats 1000000 in
theorem with20 (nm : ByteArray) (a b : Nat) (it : Bool) (w : World) (h1 : a ≤ b) (h2 : b ≤ 30) :
    Calls Tryf.prog 20 #[.string nm, .int .i64 a, .int .i64 b, .bool it, .nilFunc] w fun e w' => ∃ f, e = .returned f ∧ Opt w' w.heap.size w'.heap.size f nm it (mask.mask a b) (.nilFunc) ∧ Below w.heap.size w w' := by
  have hb : (0 : Int) ≤ a := by omega
  have hc : (a : Int) ≤ b := by omega
  have hd : (b : Int) ≤ 30 := by omega
  have y1 : IntKind.i64.wrap ((b : Int) + 1) = (b : Int) + 1 := (IntWalk.i64_in _ (by omega))
  have HW := Lib.hid (wrap_mask a b h1 h2)
  go_enter Tryf.func20, Tryf.ntmps20
  go_wp2_with fail
  go_region
  go_wp2_with fail
  go_ret
  refine ⟨_, rfl, ?_, ((((Below.refl _ _).alloc (Nat.le_refl _) _).alloc (by simp) _).alloc (by simp; omega) _).alloc (by simp; omega) _ |>.drew⟩
  have b1 := Blk.new w #[.string nm] 9
  have b2 := Blk.new (w.alloc (.cells #[.string nm] 9)) #[.bool it] 4
  have b3 := Blk.new ((w.alloc (.cells #[.string nm] 9)).alloc (.cells #[.bool it] 4)) #[.nilFunc] 72
  have b4 := Blk.new (((w.alloc (.cells #[.string nm] 9)).alloc (.cells #[.bool it] 4)).alloc (.cells #[.nilFunc] 72)) #[.int .i64 (wrap64 (wrap64 (2 ^ (b + 1)) - wrap64 (2 ^ a)))] 3
  simp only [sz] at b2 b3 b4
  refine ⟨w.heap.size, w.heap.size + 1, w.heap.size + 1 + 1 + 1, w.heap.size + 1 + 1, rfl, ?_, ?_, ?_, ?_, ((b1.alloc _).alloc _).alloc _, (b2.alloc _).alloc _, ?_, b3.alloc _⟩
  · exact ⟨Nat.le_refl _, by simp [World.drew] <;> omega⟩
  · exact ⟨by omega, by simp [World.drew] <;> omega⟩
  · exact ⟨by omega, by simp [World.drew]⟩
  · exact ⟨by omega, by simp [World.drew] <;> omega⟩
  · rw [← HW.out]; exact b4
set_option maxHeartbeats 1000000 in
theorem with20f (nm : ByteArray) (a b : Nat) (it : Bool) (q : Nat) (w : World) (h1 : a ≤ b) (h2 : b ≤ 30) :
    Calls Tryf.prog 20 #[.string nm, .int .i64 a, .int .i64 b, .bool it, .func (.func 21) #[] #[.pointer (some ⟨q, 0, none⟩)]] w fun e w' => ∃ f, e = .returned f ∧ Opt w' w.heap.size w'.heap.size f nm it (mask.mask a b) (.func (.func 21) #[] #[.pointer (some ⟨q, 0, none⟩)]) ∧ Below w.heap.size w w' := by
  have hb : (0 : Int) ≤ a := by omega
  have hc : (a : Int) ≤ b := by omega
  have hd : (b : Int) ≤ 30 := by omega
  have y1 : IntKind.i64.wrap ((b : Int) + 1) = (b : Int) + 1 := (IntWalk.i64_in _ (by omega))
  have HW := Lib.hid (wrap_mask a b h1 h2)
  go_enter Tryf.func20, Tryf.ntmps20
  go_wp2_with fail
  go_region
  go_wp2_with fail
  go_ret
  refine ⟨_, rfl, ?_, ((((Below.refl _ _).alloc (Nat.le_refl _) _).alloc (by simp) _).alloc (by simp; omega) _).alloc (by simp; omega) _ |>.drew⟩
  have b1 := Blk.new w #[.string nm] 9
  have b2 := Blk.new (w.alloc (.cells #[.string nm] 9)) #[.bool it] 4
  have b3 := Blk.new ((w.alloc (.cells #[.string nm] 9)).alloc (.cells #[.bool it] 4)) #[.func (.func 21) #[] #[.pointer (some ⟨q, 0, none⟩)]] 72
  have b4 := Blk.new (((w.alloc (.cells #[.string nm] 9)).alloc (.cells #[.bool it] 4)).alloc (.cells #[.func (.func 21) #[] #[.pointer (some ⟨q, 0, none⟩)]] 72)) #[.int .i64 (wrap64 (wrap64 (2 ^ (b + 1)) - wrap64 (2 ^ a)))] 3
  simp only [sz] at b2 b3 b4
  refine ⟨w.heap.size, w.heap.size + 1, w.heap.size + 1 + 1 + 1, w.heap.size + 1 + 1, rfl, ?_, ?_, ?_, ?_, ((b1.alloc _).alloc _).alloc _, (b2.alloc _).alloc _, ?_, b3.alloc _⟩
  · exact ⟨Nat.le_refl _, by simp [World.drew] <;> omega⟩
  · exact ⟨by omega, by simp [World.drew] <;> omega⟩
  · exact ⟨by omega, by simp [World.drew]⟩
  · exact ⟨by omega, by simp [World.drew] <;> omega⟩
  · rw [← HW.out]; exact b4
end Go.Proofs.YtenkhaopiiokmaaFmt.wf
