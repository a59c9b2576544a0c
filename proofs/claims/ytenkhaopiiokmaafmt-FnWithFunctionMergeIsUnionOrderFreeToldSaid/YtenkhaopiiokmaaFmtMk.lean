/- The makers of options; the bounds of the statements. -/
import Derived.Test.YtenkhaopiiokmaaFmtMsk
set_option linter.unusedVariables false
namespace Go.Proofs.YtenkhaopiiokmaaFmt.mk
open Go.ChangeShapes Go.WideShapes Go.ChangeAt Go.RowKit
open upd mapr mask wf ap msk

def SomeBool (w : World) (e : Ending) (w' : World) : Prop := ∃ b, e = .returned (.bool b) ∧ w = w'
theorem zb7 (nm : ByteArray) (a b : Int) (it : Bool) (w : World) (h : nm.size ≤ 9223372036854775807) : Calls Tryf.prog 7 #[.string nm, .int .i64 a, .int .i64 b, .bool it] w (SomeBool w) := by
  go_enter Tryf.func7, Tryf.ntmps7
  go_wp2_with fail
  all_goals (go_ret; exact ⟨_, rfl, rfl⟩)
theorem zb15 (nm : ByteArray) (a b : Int) (w : World) (h : nm.size ≤ 9223372036854775807) : Calls Tryf.prog 15 #[.string nm, .int .i64 a, .int .i64 b] w (SomeBool w) := by
  go_enter Tryf.func15, Tryf.ntmps15
  go_wp2_with fail
  all_goals (go_ret; exact ⟨_, rfl, rfl⟩)
theorem zb18 (nm ot : ByteArray) (a b a2 b2 : Int) (w : World) (h : nm.size ≤ 9223372036854775807) (h2 : ot.size ≤ 9223372036854775807) : Calls Tryf.prog 18 #[.string nm, .string ot, .int .i64 a, .int .i64 b, .int .i64 a2, .int .i64 b2] w (SomeBool w) := by
  go_enter Tryf.func18, Tryf.ntmps18
  go_wp2_with fail
  all_goals (go_ret; exact ⟨_, rfl, rfl⟩)
theorem zb19 (nm ot : ByteArray) (a b a2 b2 : Int) (it : Bool) (w : World) (h : nm.size ≤ 9223372036854775807) (h2 : ot.size ≤ 9223372036854775807) : Calls Tryf.prog 19 #[.string nm, .string ot, .int .i64 a, .int .i64 b, .int .i64 a2, .int .i64 b2, .bool it] w (SomeBool w) := by
  go_enter Tryf.func19, Tryf.ntmps19
  go_wp2_with fail
  all_goals (go_ret; exact ⟨_, rfl, rfl⟩)

/-- an option is made -/
def Made (nm : ByteArray) (it : Bool) (mk : Nat) (cb : Value) (w : World) (e : Ending) (w' : World) : Prop := ∃ f, e = .returned f ∧ Opt w' w.heap.size w'.heap.size f nm it mk cb ∧ Below w.heap.size w w'
theorem zz11 (nm : ByteArray) (a b : Nat) (it : Bool) (w : World) (h1 : a ≤ b) (h2 : b ≤ 30) :
    Calls Tryf.prog 11 #[.string nm, .int .i64 a, .int .i64 b, .bool it, .nilFunc] w (Made nm it (mask.mask a b) .nilFunc w) := by
  have HC := Lib.hid (with20 nm a b it w h1 h2)
  go_enter Tryf.func11, Tryf.ntmps11
  go_wp2_with (go_at_call 20; refine HC.out.mono ?_; rintro e w1 ⟨f, rfl, hO, hb⟩)
  go_ret
  exact ⟨f, rfl, hO, hb⟩
theorem wf17 (nm : ByteArray) (a b : Nat) (w : World) (h1 : a ≤ b) (h2 : b ≤ 30) :
    Calls Tryf.prog 17 #[.string nm, .int .i64 a, .int .i64 b, .nilFunc] w (Made nm false (mask.mask a b) .nilFunc w) := by
  have HC := Lib.hid (with20 nm a b false w h1 h2)
  go_enter Tryf.func17, Tryf.ntmps17
  go_wp2_with (go_at_call 20; refine HC.out.mono ?_; rintro e w1 ⟨f, rfl, hO, hb⟩)
  go_ret
  exact ⟨f, rfl, hO, hb⟩
theorem Opt.wider {w : World} {lo lo' hi : Nat} {f : Value} {nm : ByteArray} {it : Bool} {mk : Nat} {cb : Value} (h : Opt w lo hi f nm it mk cb) (hl : lo' ≤ lo) : Opt w lo' hi f nm it mk cb := by
  obtain ⟨p1, p2, p3, p4, rfl, h1, h2, h3, h4, b1, b2, b3, b4⟩ := h
  exact ⟨p1, p2, p3, p4, rfl, ⟨by omega, h1.2⟩, ⟨by omega, h2.2⟩, ⟨by omega, h3.2⟩, ⟨by omega, h4.2⟩, b1, b2, b3, b4⟩
theorem wi16 (nm : ByteArray) (a b : Nat) (w : World) (h1 : a ≤ b) (h2 : b ≤ 30) :
    Calls Tryf.prog 16 #[.string nm, .int .i64 a, .int .i64 b, .nilFunc] w (fun e w' => ∃ q, Made nm true (mask.mask a b) (.func (.func 21) #[] #[.pointer (some ⟨q, 0, none⟩)]) w e w') := by
  have HC := Lib.hid (fun q (w : World) => with20f nm a b true q w h1 h2)
  go_enter Tryf.func16, Tryf.ntmps16
  go_wp2_with (go_at_call 20; refine (HC.out _ _).mono ?_; rintro e w1 ⟨f, rfl, hO, hb⟩)
  go_ret
  simp only [sz] at hO hb
  exact ⟨w.heap.size, f, rfl, Opt.wider hO (by omega), ((Below.refl _ _).alloc (Nat.le_refl _) _).trans (hb.mono (by omega))⟩
theorem put_at (m : mapr.M) (k : List UInt8) (v : Value) : (m.put k v) k = some v := by simp [M.put]
theorem put_ne (m : mapr.M) (k k' : List UInt8) (v : Value) (h : k' ≠ k) : (m.put k v) k' = m k' := by simp [M.put, h]
/-- what is written lies above -/
theorem up_below {S : Nat → Prop} {a b w : World} (h : Below w.heap.size w a) (hu : Upd S a b) (hS : ∀ k, S k → w.heap.size ≤ k) : Below w.heap.size w b := h.trans (hu.below h.size hS)
end Go.Proofs.YtenkhaopiiokmaaFmt.mk
