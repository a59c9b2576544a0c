/- What the makers argFunc0(utf8bytelength) and argFunc1(ltrimstr) return: a function value of that argument count, no iterator, whose callback holds the named function in a variable of its own. -/
import Derived.Test.YtbfnbcjinnomlaaAccept
namespace Go.Proofs.Ytbfnbcjinnomlaa.argfunc
open Go.ChangeShapes Go.WideShapes Go.ChangeAt Go.RowKit
open accept

/-- the callback's own variable holds function number g -/
def Holds (w w' : World) (b g : Nat) : Prop := Below w.heap.size w w' ∧ w'.cell? ⟨b, 0, none⟩ = some (.func (.func g) #[] #[]) ∧ b < w'.heap.size

theorem arg0 (w : World) :
    Calls Try.prog 26 #[.func (.func 27) #[] #[]] w fun e w' => e = .returned (.agg #[.int .i64 1, .bool false, .func (.func 30) #[] #[.pointer (some ⟨w.heap.size, 0, none⟩)]]) ∧ w' = (w.alloc (.cells #[.func (.func 27) #[] #[]] 44)).alloc (.cells #[.int .i64 1, .bool false, .func (.func 30) #[] #[.pointer (some ⟨w.heap.size, 0, none⟩)]] 25) := by
  go_enter Try.func26, Try.ntmps26
  go_wp2
  exact bodyPost_ret (v := .agg #[.int .i64 1, .bool false, .func (.func 30) #[] #[.pointer (some ⟨w.heap.size, 0, none⟩)]]) (by simp [results, Try.results26, go_sem]) rfl ⟨rfl, rfl⟩

theorem zarg0 (w : World) :
    Calls Try.prog 15 #[] w fun e w' => e = .returned (.agg #[.int .i64 1, .bool false, .func (.func 30) #[] #[.pointer (some ⟨w.heap.size + 1, 0, none⟩)]]) ∧ Holds w w' (w.heap.size + 1) 27 := by
  go_enter Try.func15, Try.ntmps15
  go_wp2_with (go_at_call 26; refine (arg0 _).mono ?_; rintro e w' ⟨rfl, rfl⟩)
  refine bodyPost_ret (v := .agg #[.int .i64 1, .bool false, .func (.func 30) #[] #[.pointer (some ⟨w.heap.size + 1, 0, none⟩)]]) (by simp [results, Try.results15, go_sem]) rfl ⟨rfl, ?_, ?_, ?_⟩
  · exact ((((Below.refl _ _).alloc (Nat.le_refl _) _).alloc (by simp) _).alloc (by simp; omega) _)
  · simp [go_sem]
  · simp

theorem arg1 (w : World) :
    Calls Try.prog 28 #[.func (.func 29) #[] #[]] w fun e w' => e = .returned (.agg #[.int .i64 2, .bool false, .func (.func 31) #[] #[.pointer (some ⟨w.heap.size, 0, none⟩)]]) ∧ w' = (w.alloc (.cells #[.func (.func 29) #[] #[]] 46)).alloc (.cells #[.int .i64 2, .bool false, .func (.func 31) #[] #[.pointer (some ⟨w.heap.size, 0, none⟩)]] 25) := by
  go_enter Try.func28, Try.ntmps28
  go_wp2
  exact bodyPost_ret (v := .agg #[.int .i64 2, .bool false, .func (.func 31) #[] #[.pointer (some ⟨w.heap.size, 0, none⟩)]]) (by simp [results, Try.results28, go_sem]) rfl ⟨rfl, rfl⟩

theorem zarg1 (w : World) :
    Calls Try.prog 17 #[] w fun e w' => e = .returned (.agg #[.int .i64 2, .bool false, .func (.func 31) #[] #[.pointer (some ⟨w.heap.size + 1, 0, none⟩)]]) ∧ Holds w w' (w.heap.size + 1) 29 := by
  go_enter Try.func17, Try.ntmps17
  go_wp2_with (go_at_call 28; refine (arg1 _).mono ?_; rintro e w' ⟨rfl, rfl⟩)
  refine bodyPost_ret (v := .agg #[.int .i64 2, .bool false, .func (.func 31) #[] #[.pointer (some ⟨w.heap.size + 1, 0, none⟩)]]) (by simp [results, Try.results17, go_sem]) rfl ⟨rfl, ?_, ?_, ?_⟩
  · exact ((((Below.refl _ _).alloc (Nat.le_refl _) _).alloc (by simp) _).alloc (by simp; omega) _)
  · simp [go_sem]
  · simp

theorem ziter (i : Int) (b : Bool) (f : Value) (w : World) :
    Calls Try.prog 16 #[.agg #[.int .i64 i, .bool b, f]] w fun e w' => e = .returned (.bool b) ∧ Below w.heap.size w w' := by
  go_enter Try.func16, Try.ntmps16
  go_wp2
  go_ret
  exact ⟨rfl, (Below.refl _ _).alloc (Nat.le_refl _) _⟩
end Go.Proofs.Ytbfnbcjinnomlaa.argfunc
