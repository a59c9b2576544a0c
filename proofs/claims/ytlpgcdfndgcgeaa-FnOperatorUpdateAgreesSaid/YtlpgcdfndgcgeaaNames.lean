/- What GoString of operators and term types and getFunc return, at each declared value: the tables opB, ttB, gfB. -/
import Derived.Test.YtlpgcdfndgcgeaaProg
import Derived.WalkKit
import Derived.ProofKit
import Derived.OpenShut
import Derived.Defers
import Derived.Recover
import Derived.Below
namespace Go.Proofs.Ytlpgcdfndgcgeaa.names
open Go.ChangeShapes Go.WideShapes Go.ChangeAt Go.RowKit

def opB : Nat → List UInt8
  | 0 => [103, 111, 106, 113, 46, 79, 112, 101, 114, 97, 116, 111, 114, 40, 48, 41]
  | 1 => [103, 111, 106, 113, 46, 79, 112, 80, 105, 112, 101]
  | 2 => [103, 111, 106, 113, 46, 79, 112, 67, 111, 109, 109, 97]
  | 3 => [103, 111, 106, 113, 46, 79, 112, 65, 100, 100]
  | 4 => [103, 111, 106, 113, 46, 79, 112, 83, 117, 98]
  | 5 => [103, 111, 106, 113, 46, 79, 112, 77, 117, 108]
  | 6 => [103, 111, 106, 113, 46, 79, 112, 68, 105, 118]
  | 7 => [103, 111, 106, 113, 46, 79, 112, 77, 111, 100]
  | 8 => [103, 111, 106, 113, 46, 79, 112, 69, 113]
  | 9 => [103, 111, 106, 113, 46, 79, 112, 78, 101]
  | 10 => [103, 111, 106, 113, 46, 79, 112, 71, 116]
  | 11 => [103, 111, 106, 113, 46, 79, 112, 76, 116]
  | 12 => [103, 111, 106, 113, 46, 79, 112, 71, 101]
  | 13 => [103, 111, 106, 113, 46, 79, 112, 76, 101]
  | 14 => [103, 111, 106, 113, 46, 79, 112, 65, 110, 100]
  | 15 => [103, 111, 106, 113, 46, 79, 112, 79, 114]
  | 16 => [103, 111, 106, 113, 46, 79, 112, 65, 108, 116]
  | 17 => [103, 111, 106, 113, 46, 79, 112, 65, 115, 115, 105, 103, 110]
  | 18 => [103, 111, 106, 113, 46, 79, 112, 77, 111, 100, 105, 102, 121]
  | 19 => [103, 111, 106, 113, 46, 79, 112, 85, 112, 100, 97, 116, 101, 65, 100, 100]
  | 20 => [103, 111, 106, 113, 46, 79, 112, 85, 112, 100, 97, 116, 101, 83, 117, 98]
  | 21 => [103, 111, 106, 113, 46, 79, 112, 85, 112, 100, 97, 116, 101, 77, 117, 108]
  | 22 => [103, 111, 106, 113, 46, 79, 112, 85, 112, 100, 97, 116, 101, 68, 105, 118]
  | 23 => [103, 111, 106, 113, 46, 79, 112, 85, 112, 100, 97, 116, 101, 77, 111, 100]
  | 24 => [103, 111, 106, 113, 46, 79, 112, 85, 112, 100, 97, 116, 101, 65, 108, 116]
  | _ => []

def ttB : Nat → List UInt8
  | 1 => [103, 111, 106, 113, 46, 84, 101, 114, 109, 84, 121, 112, 101, 73, 100, 101, 110, 116, 105, 116, 121]
  | 2 => [103, 111, 106, 113, 46, 84, 101, 114, 109, 84, 121, 112, 101, 82, 101, 99, 117, 114, 115, 101]
  | 3 => [103, 111, 106, 113, 46, 84, 101, 114, 109, 84, 121, 112, 101, 78, 117, 108, 108]
  | 4 => [103, 111, 106, 113, 46, 84, 101, 114, 109, 84, 121, 112, 101, 84, 114, 117, 101]
  | 5 => [103, 111, 106, 113, 46, 84, 101, 114, 109, 84, 121, 112, 101, 70, 97, 108, 115, 101]
  | 6 => [103, 111, 106, 113, 46, 84, 101, 114, 109, 84, 121, 112, 101, 73, 110, 100, 101, 120]
  | 7 => [103, 111, 106, 113, 46, 84, 101, 114, 109, 84, 121, 112, 101, 70, 117, 110, 99]
  | 8 => [103, 111, 106, 113, 46, 84, 101, 114, 109, 84, 121, 112, 101, 79, 98, 106, 101, 99, 116]
  | 9 => [103, 111, 106, 113, 46, 84, 101, 114, 109, 84, 121, 112, 101, 65, 114, 114, 97, 121]
  | 10 => [103, 111, 106, 113, 46, 84, 101, 114, 109, 84, 121, 112, 101, 78, 117, 109, 98, 101, 114]
  | 11 => [103, 111, 106, 113, 46, 84, 101, 114, 109, 84, 121, 112, 101, 85, 110, 97, 114, 121]
  | 12 => [103, 111, 106, 113, 46, 84, 101, 114, 109, 84, 121, 112, 101, 70, 111, 114, 109, 97, 116]
  | 13 => [103, 111, 106, 113, 46, 84, 101, 114, 109, 84, 121, 112, 101, 83, 116, 114, 105, 110, 103]
  | 14 => [103, 111, 106, 113, 46, 84, 101, 114, 109, 84, 121, 112, 101, 73, 102]
  | 15 => [103, 111, 106, 113, 46, 84, 101, 114, 109, 84, 121, 112, 101, 84, 114, 121]
  | 16 => [103, 111, 106, 113, 46, 84, 101, 114, 109, 84, 121, 112, 101, 82, 101, 100, 117, 99, 101]
  | 17 => [103, 111, 106, 113, 46, 84, 101, 114, 109, 84, 121, 112, 101, 70, 111, 114, 101, 97, 99, 104]
  | 18 => [103, 111, 106, 113, 46, 84, 101, 114, 109, 84, 121, 112, 101, 76, 97, 98, 101, 108]
  | 19 => [103, 111, 106, 113, 46, 84, 101, 114, 109, 84, 121, 112, 101, 66, 114, 101, 97, 107]
  | 20 => [103, 111, 106, 113, 46, 84, 101, 114, 109, 84, 121, 112, 101, 81, 117, 101, 114, 121]
  | _ => []

def gfB : Nat → List UInt8
  | 3 => [95, 97, 100, 100]
  | 4 => [95, 115, 117, 98, 116, 114, 97, 99, 116]
  | 5 => [95, 109, 117, 108, 116, 105, 112, 108, 121]
  | 6 => [95, 100, 105, 118, 105, 100, 101]
  | 7 => [95, 109, 111, 100, 117, 108, 111]
  | 8 => [95, 101, 113, 117, 97, 108]
  | 9 => [95, 110, 111, 116, 101, 113, 117, 97, 108]
  | 10 => [95, 103, 114, 101, 97, 116, 101, 114]
  | 11 => [95, 108, 101, 115, 115]
  | 12 => [95, 103, 114, 101, 97, 116, 101, 114, 101, 113]
  | 13 => [95, 108, 101, 115, 115, 101, 113]
  | 17 => [95, 97, 115, 115, 105, 103, 110]
  | 18 => [95, 109, 111, 100, 105, 102, 121]
  | 19 => [95, 97, 100, 100]
  | 20 => [95, 115, 117, 98, 116, 114, 97, 99, 116]
  | 21 => [95, 109, 117, 108, 116, 105, 112, 108, 121]
  | 22 => [95, 100, 105, 118, 105, 100, 101]
  | 23 => [95, 109, 111, 100, 117, 108, 111]
  | 24 => [95, 97, 108, 116, 101, 114, 110, 97, 116, 105, 118, 101]
  | _ => []

def opStr (a : Int) : ByteArray := ⟨(opB a.toNat).toArray⟩
def ttStr (a : Int) : ByteArray := ⟨(ttB a.toNat).toArray⟩
def gfStr (a : Int) : ByteArray := ⟨(gfB a.toNat).toArray⟩
theorem ret_str {a b : ByteArray} (h : a = b) : Ending.returned (.string a) = .returned (.string b) := by rw [h]

theorem op_clos (p : Addr) (x : ByteArray) (u : FrameMode) (w : World) (hc : w.cell? p = some (.string x)) (hz : w.frozen? p = false) (hx : x.size ≤ 100) :
    CallsD Try.prog 26 #[.pointer (some p)] u w fun e u' w' => u' = u ∧ (e = .returned (.tuple #[]) ∧ w' = w.setCell p (.string (⟨#[103, 111, 106, 113, 46]⟩ ++ x))) := by
  go_enter_d Try.func26, Try.ntmps26
  go_wp2
  go_end0
  exact ⟨rfl, rfl⟩

theorem tt_clos (p : Addr) (x : ByteArray) (u : FrameMode) (w : World) (hc : w.cell? p = some (.string x)) (hz : w.frozen? p = false) (hx : x.size ≤ 100) :
    CallsD Try.prog 27 #[.pointer (some p)] u w fun e u' w' => u' = u ∧ (e = .returned (.tuple #[]) ∧ w' = w.setCell p (.string (⟨#[103, 111, 106, 113, 46]⟩ ++ x))) := by
  go_enter_d Try.func27, Try.ntmps27
  go_wp2
  go_end0
  exact ⟨rfl, rfl⟩

theorem op_0 (w : World) : Calls Try.prog 14 #[.int .i64 0] w fun e w' => e = .returned (.string (opStr 0)) ∧ Below w.heap.size w w' := by
  go_enter_defers Try.func14, Try.ntmps14
  go_wp2
  refine leaves_cons (f := 26) (args := #[.pointer (some ⟨w.heap.size, 0, none⟩)]) (by simp) (by simp [go_sem]) ?_
  refine (op_clos ⟨w.heap.size, 0, none⟩ ⟨#[79, 112, 101, 114, 97, 116, 111, 114, 40, 48, 41]⟩ .returning _ ?_ ?_ (by decide)).mono ?_
  · simp [go_sem]
  · simp [go_sem]
  rintro e u' w'' ⟨rfl, rfl, rfl⟩
  simp only [Leaves, settle]
  refine ⟨.string (⟨#[103, 111, 106, 113, 46]⟩ ++ ⟨#[79, 112, 101, 114, 97, 116, 111, 114, 40, 48, 41]⟩), by simp [results, Try.results14, go_sem], ret_str (by decide), ?_⟩
  exact ((Below.refl _ _).alloc (Nat.le_refl _) _).setCell (Nat.le_refl _) _

theorem op_1 (w : World) : Calls Try.prog 14 #[.int .i64 1] w fun e w' => e = .returned (.string (opStr 1)) ∧ Below w.heap.size w w' := by
  go_enter_defers Try.func14, Try.ntmps14
  go_wp2
  refine leaves_cons (f := 26) (args := #[.pointer (some ⟨w.heap.size, 0, none⟩)]) (by simp) (by simp [go_sem]) ?_
  refine (op_clos ⟨w.heap.size, 0, none⟩ ⟨#[79, 112, 80, 105, 112, 101]⟩ .returning _ ?_ ?_ (by decide)).mono ?_
  · simp [go_sem]
  · simp [go_sem]
  rintro e u' w'' ⟨rfl, rfl, rfl⟩
  simp only [Leaves, settle]
  refine ⟨.string (⟨#[103, 111, 106, 113, 46]⟩ ++ ⟨#[79, 112, 80, 105, 112, 101]⟩), by simp [results, Try.results14, go_sem], ret_str (by decide), ?_⟩
  exact ((Below.refl _ _).alloc (Nat.le_refl _) _).setCell (Nat.le_refl _) _

theorem op_2 (w : World) : Calls Try.prog 14 #[.int .i64 2] w fun e w' => e = .returned (.string (opStr 2)) ∧ Below w.heap.size w w' := by
  go_enter_defers Try.func14, Try.ntmps14
  go_wp2
  refine leaves_cons (f := 26) (args := #[.pointer (some ⟨w.heap.size, 0, none⟩)]) (by simp) (by simp [go_sem]) ?_
  refine (op_clos ⟨w.heap.size, 0, none⟩ ⟨#[79, 112, 67, 111, 109, 109, 97]⟩ .returning _ ?_ ?_ (by decide)).mono ?_
  · simp [go_sem]
  · simp [go_sem]
  rintro e u' w'' ⟨rfl, rfl, rfl⟩
  simp only [Leaves, settle]
  refine ⟨.string (⟨#[103, 111, 106, 113, 46]⟩ ++ ⟨#[79, 112, 67, 111, 109, 109, 97]⟩), by simp [results, Try.results14, go_sem], ret_str (by decide), ?_⟩
  exact ((Below.refl _ _).alloc (Nat.le_refl _) _).setCell (Nat.le_refl _) _

theorem op_3 (w : World) : Calls Try.prog 14 #[.int .i64 3] w fun e w' => e = .returned (.string (opStr 3)) ∧ Below w.heap.size w w' := by
  go_enter_defers Try.func14, Try.ntmps14
  go_wp2
  refine leaves_cons (f := 26) (args := #[.pointer (some ⟨w.heap.size, 0, none⟩)]) (by simp) (by simp [go_sem]) ?_
  refine (op_clos ⟨w.heap.size, 0, none⟩ ⟨#[79, 112, 65, 100, 100]⟩ .returning _ ?_ ?_ (by decide)).mono ?_
  · simp [go_sem]
  · simp [go_sem]
  rintro e u' w'' ⟨rfl, rfl, rfl⟩
  simp only [Leaves, settle]
  refine ⟨.string (⟨#[103, 111, 106, 113, 46]⟩ ++ ⟨#[79, 112, 65, 100, 100]⟩), by simp [results, Try.results14, go_sem], ret_str (by decide), ?_⟩
  exact ((Below.refl _ _).alloc (Nat.le_refl _) _).setCell (Nat.le_refl _) _

theorem op_4 (w : World) : Calls Try.prog 14 #[.int .i64 4] w fun e w' => e = .returned (.string (opStr 4)) ∧ Below w.heap.size w w' := by
  go_enter_defers Try.func14, Try.ntmps14
  go_wp2
  refine leaves_cons (f := 26) (args := #[.pointer (some ⟨w.heap.size, 0, none⟩)]) (by simp) (by simp [go_sem]) ?_
  refine (op_clos ⟨w.heap.size, 0, none⟩ ⟨#[79, 112, 83, 117, 98]⟩ .returning _ ?_ ?_ (by decide)).mono ?_
  · simp [go_sem]
  · simp [go_sem]
  rintro e u' w'' ⟨rfl, rfl, rfl⟩
  simp only [Leaves, settle]
  refine ⟨.string (⟨#[103, 111, 106, 113, 46]⟩ ++ ⟨#[79, 112, 83, 117, 98]⟩), by simp [results, Try.results14, go_sem], ret_str (by decide), ?_⟩
  exact ((Below.refl _ _).alloc (Nat.le_refl _) _).setCell (Nat.le_refl _) _

theorem op_5 (w : World) : Calls Try.prog 14 #[.int .i64 5] w fun e w' => e = .returned (.string (opStr 5)) ∧ Below w.heap.size w w' := by
  go_enter_defers Try.func14, Try.ntmps14
  go_wp2
  refine leaves_cons (f := 26) (args := #[.pointer (some ⟨w.heap.size, 0, none⟩)]) (by simp) (by simp [go_sem]) ?_
  refine (op_clos ⟨w.heap.size, 0, none⟩ ⟨#[79, 112, 77, 117, 108]⟩ .returning _ ?_ ?_ (by decide)).mono ?_
  · simp [go_sem]
  · simp [go_sem]
  rintro e u' w'' ⟨rfl, rfl, rfl⟩
  simp only [Leaves, settle]
  refine ⟨.string (⟨#[103, 111, 106, 113, 46]⟩ ++ ⟨#[79, 112, 77, 117, 108]⟩), by simp [results, Try.results14, go_sem], ret_str (by decide), ?_⟩
  exact ((Below.refl _ _).alloc (Nat.le_refl _) _).setCell (Nat.le_refl _) _

theorem op_6 (w : World) : Calls Try.prog 14 #[.int .i64 6] w fun e w' => e = .returned (.string (opStr 6)) ∧ Below w.heap.size w w' := by
  go_enter_defers Try.func14, Try.ntmps14
  go_wp2
  refine leaves_cons (f := 26) (args := #[.pointer (some ⟨w.heap.size, 0, none⟩)]) (by simp) (by simp [go_sem]) ?_
  refine (op_clos ⟨w.heap.size, 0, none⟩ ⟨#[79, 112, 68, 105, 118]⟩ .returning _ ?_ ?_ (by decide)).mono ?_
  · simp [go_sem]
  · simp [go_sem]
  rintro e u' w'' ⟨rfl, rfl, rfl⟩
  simp only [Leaves, settle]
  refine ⟨.string (⟨#[103, 111, 106, 113, 46]⟩ ++ ⟨#[79, 112, 68, 105, 118]⟩), by simp [results, Try.results14, go_sem], ret_str (by decide), ?_⟩
  exact ((Below.refl _ _).alloc (Nat.le_refl _) _).setCell (Nat.le_refl _) _

theorem op_7 (w : World) : Calls Try.prog 14 #[.int .i64 7] w fun e w' => e = .returned (.string (opStr 7)) ∧ Below w.heap.size w w' := by
  go_enter_defers Try.func14, Try.ntmps14
  go_wp2
  refine leaves_cons (f := 26) (args := #[.pointer (some ⟨w.heap.size, 0, none⟩)]) (by simp) (by simp [go_sem]) ?_
  refine (op_clos ⟨w.heap.size, 0, none⟩ ⟨#[79, 112, 77, 111, 100]⟩ .returning _ ?_ ?_ (by decide)).mono ?_
  · simp [go_sem]
  · simp [go_sem]
  rintro e u' w'' ⟨rfl, rfl, rfl⟩
  simp only [Leaves, settle]
  refine ⟨.string (⟨#[103, 111, 106, 113, 46]⟩ ++ ⟨#[79, 112, 77, 111, 100]⟩), by simp [results, Try.results14, go_sem], ret_str (by decide), ?_⟩
  exact ((Below.refl _ _).alloc (Nat.le_refl _) _).setCell (Nat.le_refl _) _

theorem op_8 (w : World) : Calls Try.prog 14 #[.int .i64 8] w fun e w' => e = .returned (.string (opStr 8)) ∧ Below w.heap.size w w' := by
  go_enter_defers Try.func14, Try.ntmps14
  go_wp2
  refine leaves_cons (f := 26) (args := #[.pointer (some ⟨w.heap.size, 0, none⟩)]) (by simp) (by simp [go_sem]) ?_
  refine (op_clos ⟨w.heap.size, 0, none⟩ ⟨#[79, 112, 69, 113]⟩ .returning _ ?_ ?_ (by decide)).mono ?_
  · simp [go_sem]
  · simp [go_sem]
  rintro e u' w'' ⟨rfl, rfl, rfl⟩
  simp only [Leaves, settle]
  refine ⟨.string (⟨#[103, 111, 106, 113, 46]⟩ ++ ⟨#[79, 112, 69, 113]⟩), by simp [results, Try.results14, go_sem], ret_str (by decide), ?_⟩
  exact ((Below.refl _ _).alloc (Nat.le_refl _) _).setCell (Nat.le_refl _) _

theorem op_9 (w : World) : Calls Try.prog 14 #[.int .i64 9] w fun e w' => e = .returned (.string (opStr 9)) ∧ Below w.heap.size w w' := by
  go_enter_defers Try.func14, Try.ntmps14
  go_wp2
  refine leaves_cons (f := 26) (args := #[.pointer (some ⟨w.heap.size, 0, none⟩)]) (by simp) (by simp [go_sem]) ?_
  refine (op_clos ⟨w.heap.size, 0, none⟩ ⟨#[79, 112, 78, 101]⟩ .returning _ ?_ ?_ (by decide)).mono ?_
  · simp [go_sem]
  · simp [go_sem]
  rintro e u' w'' ⟨rfl, rfl, rfl⟩
  simp only [Leaves, settle]
  refine ⟨.string (⟨#[103, 111, 106, 113, 46]⟩ ++ ⟨#[79, 112, 78, 101]⟩), by simp [results, Try.results14, go_sem], ret_str (by decide), ?_⟩
  exact ((Below.refl _ _).alloc (Nat.le_refl _) _).setCell (Nat.le_refl _) _

theorem op_10 (w : World) : Calls Try.prog 14 #[.int .i64 10] w fun e w' => e = .returned (.string (opStr 10)) ∧ Below w.heap.size w w' := by
  go_enter_defers Try.func14, Try.ntmps14
  go_wp2
  refine leaves_cons (f := 26) (args := #[.pointer (some ⟨w.heap.size, 0, none⟩)]) (by simp) (by simp [go_sem]) ?_
  refine (op_clos ⟨w.heap.size, 0, none⟩ ⟨#[79, 112, 71, 116]⟩ .returning _ ?_ ?_ (by decide)).mono ?_
  · simp [go_sem]
  · simp [go_sem]
  rintro e u' w'' ⟨rfl, rfl, rfl⟩
  simp only [Leaves, settle]
  refine ⟨.string (⟨#[103, 111, 106, 113, 46]⟩ ++ ⟨#[79, 112, 71, 116]⟩), by simp [results, Try.results14, go_sem], ret_str (by decide), ?_⟩
  exact ((Below.refl _ _).alloc (Nat.le_refl _) _).setCell (Nat.le_refl _) _

theorem op_11 (w : World) : Calls Try.prog 14 #[.int .i64 11] w fun e w' => e = .returned (.string (opStr 11)) ∧ Below w.heap.size w w' := by
  go_enter_defers Try.func14, Try.ntmps14
  go_wp2
  refine leaves_cons (f := 26) (args := #[.pointer (some ⟨w.heap.size, 0, none⟩)]) (by simp) (by simp [go_sem]) ?_
  refine (op_clos ⟨w.heap.size, 0, none⟩ ⟨#[79, 112, 76, 116]⟩ .returning _ ?_ ?_ (by decide)).mono ?_
  · simp [go_sem]
  · simp [go_sem]
  rintro e u' w'' ⟨rfl, rfl, rfl⟩
  simp only [Leaves, settle]
  refine ⟨.string (⟨#[103, 111, 106, 113, 46]⟩ ++ ⟨#[79, 112, 76, 116]⟩), by simp [results, Try.results14, go_sem], ret_str (by decide), ?_⟩
  exact ((Below.refl _ _).alloc (Nat.le_refl _) _).setCell (Nat.le_refl _) _

theorem op_12 (w : World) : Calls Try.prog 14 #[.int .i64 12] w fun e w' => e = .returned (.string (opStr 12)) ∧ Below w.heap.size w w' := by
  go_enter_defers Try.func14, Try.ntmps14
  go_wp2
  refine leaves_cons (f := 26) (args := #[.pointer (some ⟨w.heap.size, 0, none⟩)]) (by simp) (by simp [go_sem]) ?_
  refine (op_clos ⟨w.heap.size, 0, none⟩ ⟨#[79, 112, 71, 101]⟩ .returning _ ?_ ?_ (by decide)).mono ?_
  · simp [go_sem]
  · simp [go_sem]
  rintro e u' w'' ⟨rfl, rfl, rfl⟩
  simp only [Leaves, settle]
  refine ⟨.string (⟨#[103, 111, 106, 113, 46]⟩ ++ ⟨#[79, 112, 71, 101]⟩), by simp [results, Try.results14, go_sem], ret_str (by decide), ?_⟩
  exact ((Below.refl _ _).alloc (Nat.le_refl _) _).setCell (Nat.le_refl _) _

theorem op_13 (w : World) : Calls Try.prog 14 #[.int .i64 13] w fun e w' => e = .returned (.string (opStr 13)) ∧ Below w.heap.size w w' := by
  go_enter_defers Try.func14, Try.ntmps14
  go_wp2
  refine leaves_cons (f := 26) (args := #[.pointer (some ⟨w.heap.size, 0, none⟩)]) (by simp) (by simp [go_sem]) ?_
  refine (op_clos ⟨w.heap.size, 0, none⟩ ⟨#[79, 112, 76, 101]⟩ .returning _ ?_ ?_ (by decide)).mono ?_
  · simp [go_sem]
  · simp [go_sem]
  rintro e u' w'' ⟨rfl, rfl, rfl⟩
  simp only [Leaves, settle]
  refine ⟨.string (⟨#[103, 111, 106, 113, 46]⟩ ++ ⟨#[79, 112, 76, 101]⟩), by simp [results, Try.results14, go_sem], ret_str (by decide), ?_⟩
  exact ((Below.refl _ _).alloc (Nat.le_refl _) _).setCell (Nat.le_refl _) _

theorem op_14 (w : World) : Calls Try.prog 14 #[.int .i64 14] w fun e w' => e = .returned (.string (opStr 14)) ∧ Below w.heap.size w w' := by
  go_enter_defers Try.func14, Try.ntmps14
  go_wp2
  refine leaves_cons (f := 26) (args := #[.pointer (some ⟨w.heap.size, 0, none⟩)]) (by simp) (by simp [go_sem]) ?_
  refine (op_clos ⟨w.heap.size, 0, none⟩ ⟨#[79, 112, 65, 110, 100]⟩ .returning _ ?_ ?_ (by decide)).mono ?_
  · simp [go_sem]
  · simp [go_sem]
  rintro e u' w'' ⟨rfl, rfl, rfl⟩
  simp only [Leaves, settle]
  refine ⟨.string (⟨#[103, 111, 106, 113, 46]⟩ ++ ⟨#[79, 112, 65, 110, 100]⟩), by simp [results, Try.results14, go_sem], ret_str (by decide), ?_⟩
  exact ((Below.refl _ _).alloc (Nat.le_refl _) _).setCell (Nat.le_refl _) _

theorem op_15 (w : World) : Calls Try.prog 14 #[.int .i64 15] w fun e w' => e = .returned (.string (opStr 15)) ∧ Below w.heap.size w w' := by
  go_enter_defers Try.func14, Try.ntmps14
  go_wp2
  refine leaves_cons (f := 26) (args := #[.pointer (some ⟨w.heap.size, 0, none⟩)]) (by simp) (by simp [go_sem]) ?_
  refine (op_clos ⟨w.heap.size, 0, none⟩ ⟨#[79, 112, 79, 114]⟩ .returning _ ?_ ?_ (by decide)).mono ?_
  · simp [go_sem]
  · simp [go_sem]
  rintro e u' w'' ⟨rfl, rfl, rfl⟩
  simp only [Leaves, settle]
  refine ⟨.string (⟨#[103, 111, 106, 113, 46]⟩ ++ ⟨#[79, 112, 79, 114]⟩), by simp [results, Try.results14, go_sem], ret_str (by decide), ?_⟩
  exact ((Below.refl _ _).alloc (Nat.le_refl _) _).setCell (Nat.le_refl _) _

theorem op_16 (w : World) : Calls Try.prog 14 #[.int .i64 16] w fun e w' => e = .returned (.string (opStr 16)) ∧ Below w.heap.size w w' := by
  go_enter_defers Try.func14, Try.ntmps14
  go_wp2
  refine leaves_cons (f := 26) (args := #[.pointer (some ⟨w.heap.size, 0, none⟩)]) (by simp) (by simp [go_sem]) ?_
  refine (op_clos ⟨w.heap.size, 0, none⟩ ⟨#[79, 112, 65, 108, 116]⟩ .returning _ ?_ ?_ (by decide)).mono ?_
  · simp [go_sem]
  · simp [go_sem]
  rintro e u' w'' ⟨rfl, rfl, rfl⟩
  simp only [Leaves, settle]
  refine ⟨.string (⟨#[103, 111, 106, 113, 46]⟩ ++ ⟨#[79, 112, 65, 108, 116]⟩), by simp [results, Try.results14, go_sem], ret_str (by decide), ?_⟩
  exact ((Below.refl _ _).alloc (Nat.le_refl _) _).setCell (Nat.le_refl _) _

theorem op_17 (w : World) : Calls Try.prog 14 #[.int .i64 17] w fun e w' => e = .returned (.string (opStr 17)) ∧ Below w.heap.size w w' := by
  go_enter_defers Try.func14, Try.ntmps14
  go_wp2
  refine leaves_cons (f := 26) (args := #[.pointer (some ⟨w.heap.size, 0, none⟩)]) (by simp) (by simp [go_sem]) ?_
  refine (op_clos ⟨w.heap.size, 0, none⟩ ⟨#[79, 112, 65, 115, 115, 105, 103, 110]⟩ .returning _ ?_ ?_ (by decide)).mono ?_
  · simp [go_sem]
  · simp [go_sem]
  rintro e u' w'' ⟨rfl, rfl, rfl⟩
  simp only [Leaves, settle]
  refine ⟨.string (⟨#[103, 111, 106, 113, 46]⟩ ++ ⟨#[79, 112, 65, 115, 115, 105, 103, 110]⟩), by simp [results, Try.results14, go_sem], ret_str (by decide), ?_⟩
  exact ((Below.refl _ _).alloc (Nat.le_refl _) _).setCell (Nat.le_refl _) _

theorem op_18 (w : World) : Calls Try.prog 14 #[.int .i64 18] w fun e w' => e = .returned (.string (opStr 18)) ∧ Below w.heap.size w w' := by
  go_enter_defers Try.func14, Try.ntmps14
  go_wp2
  refine leaves_cons (f := 26) (args := #[.pointer (some ⟨w.heap.size, 0, none⟩)]) (by simp) (by simp [go_sem]) ?_
  refine (op_clos ⟨w.heap.size, 0, none⟩ ⟨#[79, 112, 77, 111, 100, 105, 102, 121]⟩ .returning _ ?_ ?_ (by decide)).mono ?_
  · simp [go_sem]
  · simp [go_sem]
  rintro e u' w'' ⟨rfl, rfl, rfl⟩
  simp only [Leaves, settle]
  refine ⟨.string (⟨#[103, 111, 106, 113, 46]⟩ ++ ⟨#[79, 112, 77, 111, 100, 105, 102, 121]⟩), by simp [results, Try.results14, go_sem], ret_str (by decide), ?_⟩
  exact ((Below.refl _ _).alloc (Nat.le_refl _) _).setCell (Nat.le_refl _) _

theorem op_19 (w : World) : Calls Try.prog 14 #[.int .i64 19] w fun e w' => e = .returned (.string (opStr 19)) ∧ Below w.heap.size w w' := by
  go_enter_defers Try.func14, Try.ntmps14
  go_wp2
  refine leaves_cons (f := 26) (args := #[.pointer (some ⟨w.heap.size, 0, none⟩)]) (by simp) (by simp [go_sem]) ?_
  refine (op_clos ⟨w.heap.size, 0, none⟩ ⟨#[79, 112, 85, 112, 100, 97, 116, 101, 65, 100, 100]⟩ .returning _ ?_ ?_ (by decide)).mono ?_
  · simp [go_sem]
  · simp [go_sem]
  rintro e u' w'' ⟨rfl, rfl, rfl⟩
  simp only [Leaves, settle]
  refine ⟨.string (⟨#[103, 111, 106, 113, 46]⟩ ++ ⟨#[79, 112, 85, 112, 100, 97, 116, 101, 65, 100, 100]⟩), by simp [results, Try.results14, go_sem], ret_str (by decide), ?_⟩
  exact ((Below.refl _ _).alloc (Nat.le_refl _) _).setCell (Nat.le_refl _) _

theorem op_20 (w : World) : Calls Try.prog 14 #[.int .i64 20] w fun e w' => e = .returned (.string (opStr 20)) ∧ Below w.heap.size w w' := by
  go_enter_defers Try.func14, Try.ntmps14
  go_wp2
  refine leaves_cons (f := 26) (args := #[.pointer (some ⟨w.heap.size, 0, none⟩)]) (by simp) (by simp [go_sem]) ?_
  refine (op_clos ⟨w.heap.size, 0, none⟩ ⟨#[79, 112, 85, 112, 100, 97, 116, 101, 83, 117, 98]⟩ .returning _ ?_ ?_ (by decide)).mono ?_
  · simp [go_sem]
  · simp [go_sem]
  rintro e u' w'' ⟨rfl, rfl, rfl⟩
  simp only [Leaves, settle]
  refine ⟨.string (⟨#[103, 111, 106, 113, 46]⟩ ++ ⟨#[79, 112, 85, 112, 100, 97, 116, 101, 83, 117, 98]⟩), by simp [results, Try.results14, go_sem], ret_str (by decide), ?_⟩
  exact ((Below.refl _ _).alloc (Nat.le_refl _) _).setCell (Nat.le_refl _) _

theorem op_21 (w : World) : Calls Try.prog 14 #[.int .i64 21] w fun e w' => e = .returned (.string (opStr 21)) ∧ Below w.heap.size w w' := by
  go_enter_defers Try.func14, Try.ntmps14
  go_wp2
  refine leaves_cons (f := 26) (args := #[.pointer (some ⟨w.heap.size, 0, none⟩)]) (by simp) (by simp [go_sem]) ?_
  refine (op_clos ⟨w.heap.size, 0, none⟩ ⟨#[79, 112, 85, 112, 100, 97, 116, 101, 77, 117, 108]⟩ .returning _ ?_ ?_ (by decide)).mono ?_
  · simp [go_sem]
  · simp [go_sem]
  rintro e u' w'' ⟨rfl, rfl, rfl⟩
  simp only [Leaves, settle]
  refine ⟨.string (⟨#[103, 111, 106, 113, 46]⟩ ++ ⟨#[79, 112, 85, 112, 100, 97, 116, 101, 77, 117, 108]⟩), by simp [results, Try.results14, go_sem], ret_str (by decide), ?_⟩
  exact ((Below.refl _ _).alloc (Nat.le_refl _) _).setCell (Nat.le_refl _) _

theorem op_22 (w : World) : Calls Try.prog 14 #[.int .i64 22] w fun e w' => e = .returned (.string (opStr 22)) ∧ Below w.heap.size w w' := by
  go_enter_defers Try.func14, Try.ntmps14
  go_wp2
  refine leaves_cons (f := 26) (args := #[.pointer (some ⟨w.heap.size, 0, none⟩)]) (by simp) (by simp [go_sem]) ?_
  refine (op_clos ⟨w.heap.size, 0, none⟩ ⟨#[79, 112, 85, 112, 100, 97, 116, 101, 68, 105, 118]⟩ .returning _ ?_ ?_ (by decide)).mono ?_
  · simp [go_sem]
  · simp [go_sem]
  rintro e u' w'' ⟨rfl, rfl, rfl⟩
  simp only [Leaves, settle]
  refine ⟨.string (⟨#[103, 111, 106, 113, 46]⟩ ++ ⟨#[79, 112, 85, 112, 100, 97, 116, 101, 68, 105, 118]⟩), by simp [results, Try.results14, go_sem], ret_str (by decide), ?_⟩
  exact ((Below.refl _ _).alloc (Nat.le_refl _) _).setCell (Nat.le_refl _) _

theorem op_23 (w : World) : Calls Try.prog 14 #[.int .i64 23] w fun e w' => e = .returned (.string (opStr 23)) ∧ Below w.heap.size w w' := by
  go_enter_defers Try.func14, Try.ntmps14
  go_wp2
  refine leaves_cons (f := 26) (args := #[.pointer (some ⟨w.heap.size, 0, none⟩)]) (by simp) (by simp [go_sem]) ?_
  refine (op_clos ⟨w.heap.size, 0, none⟩ ⟨#[79, 112, 85, 112, 100, 97, 116, 101, 77, 111, 100]⟩ .returning _ ?_ ?_ (by decide)).mono ?_
  · simp [go_sem]
  · simp [go_sem]
  rintro e u' w'' ⟨rfl, rfl, rfl⟩
  simp only [Leaves, settle]
  refine ⟨.string (⟨#[103, 111, 106, 113, 46]⟩ ++ ⟨#[79, 112, 85, 112, 100, 97, 116, 101, 77, 111, 100]⟩), by simp [results, Try.results14, go_sem], ret_str (by decide), ?_⟩
  exact ((Below.refl _ _).alloc (Nat.le_refl _) _).setCell (Nat.le_refl _) _

theorem op_24 (w : World) : Calls Try.prog 14 #[.int .i64 24] w fun e w' => e = .returned (.string (opStr 24)) ∧ Below w.heap.size w w' := by
  go_enter_defers Try.func14, Try.ntmps14
  go_wp2
  refine leaves_cons (f := 26) (args := #[.pointer (some ⟨w.heap.size, 0, none⟩)]) (by simp) (by simp [go_sem]) ?_
  refine (op_clos ⟨w.heap.size, 0, none⟩ ⟨#[79, 112, 85, 112, 100, 97, 116, 101, 65, 108, 116]⟩ .returning _ ?_ ?_ (by decide)).mono ?_
  · simp [go_sem]
  · simp [go_sem]
  rintro e u' w'' ⟨rfl, rfl, rfl⟩
  simp only [Leaves, settle]
  refine ⟨.string (⟨#[103, 111, 106, 113, 46]⟩ ++ ⟨#[79, 112, 85, 112, 100, 97, 116, 101, 65, 108, 116]⟩), by simp [results, Try.results14, go_sem], ret_str (by decide), ?_⟩
  exact ((Below.refl _ _).alloc (Nat.le_refl _) _).setCell (Nat.le_refl _) _

theorem tt_1 (w : World) : Calls Try.prog 15 #[.int .i64 1] w fun e w' => e = .returned (.string (ttStr 1)) ∧ Below w.heap.size w w' := by
  go_enter_defers Try.func15, Try.ntmps15
  go_wp2
  refine leaves_cons (f := 27) (args := #[.pointer (some ⟨w.heap.size, 0, none⟩)]) (by simp) (by simp [go_sem]) ?_
  refine (tt_clos ⟨w.heap.size, 0, none⟩ ⟨#[84, 101, 114, 109, 84, 121, 112, 101, 73, 100, 101, 110, 116, 105, 116, 121]⟩ .returning _ ?_ ?_ (by decide)).mono ?_
  · simp [go_sem]
  · simp [go_sem]
  rintro e u' w'' ⟨rfl, rfl, rfl⟩
  simp only [Leaves, settle]
  refine ⟨.string (⟨#[103, 111, 106, 113, 46]⟩ ++ ⟨#[84, 101, 114, 109, 84, 121, 112, 101, 73, 100, 101, 110, 116, 105, 116, 121]⟩), by simp [results, Try.results15, go_sem], ret_str (by decide), ?_⟩
  exact ((Below.refl _ _).alloc (Nat.le_refl _) _).setCell (Nat.le_refl _) _

theorem tt_2 (w : World) : Calls Try.prog 15 #[.int .i64 2] w fun e w' => e = .returned (.string (ttStr 2)) ∧ Below w.heap.size w w' := by
  go_enter_defers Try.func15, Try.ntmps15
  go_wp2
  refine leaves_cons (f := 27) (args := #[.pointer (some ⟨w.heap.size, 0, none⟩)]) (by simp) (by simp [go_sem]) ?_
  refine (tt_clos ⟨w.heap.size, 0, none⟩ ⟨#[84, 101, 114, 109, 84, 121, 112, 101, 82, 101, 99, 117, 114, 115, 101]⟩ .returning _ ?_ ?_ (by decide)).mono ?_
  · simp [go_sem]
  · simp [go_sem]
  rintro e u' w'' ⟨rfl, rfl, rfl⟩
  simp only [Leaves, settle]
  refine ⟨.string (⟨#[103, 111, 106, 113, 46]⟩ ++ ⟨#[84, 101, 114, 109, 84, 121, 112, 101, 82, 101, 99, 117, 114, 115, 101]⟩), by simp [results, Try.results15, go_sem], ret_str (by decide), ?_⟩
  exact ((Below.refl _ _).alloc (Nat.le_refl _) _).setCell (Nat.le_refl _) _

theorem tt_3 (w : World) : Calls Try.prog 15 #[.int .i64 3] w fun e w' => e = .returned (.string (ttStr 3)) ∧ Below w.heap.size w w' := by
  go_enter_defers Try.func15, Try.ntmps15
  go_wp2
  refine leaves_cons (f := 27) (args := #[.pointer (some ⟨w.heap.size, 0, none⟩)]) (by simp) (by simp [go_sem]) ?_
  refine (tt_clos ⟨w.heap.size, 0, none⟩ ⟨#[84, 101, 114, 109, 84, 121, 112, 101, 78, 117, 108, 108]⟩ .returning _ ?_ ?_ (by decide)).mono ?_
  · simp [go_sem]
  · simp [go_sem]
  rintro e u' w'' ⟨rfl, rfl, rfl⟩
  simp only [Leaves, settle]
  refine ⟨.string (⟨#[103, 111, 106, 113, 46]⟩ ++ ⟨#[84, 101, 114, 109, 84, 121, 112, 101, 78, 117, 108, 108]⟩), by simp [results, Try.results15, go_sem], ret_str (by decide), ?_⟩
  exact ((Below.refl _ _).alloc (Nat.le_refl _) _).setCell (Nat.le_refl _) _

theorem tt_4 (w : World) : Calls Try.prog 15 #[.int .i64 4] w fun e w' => e = .returned (.string (ttStr 4)) ∧ Below w.heap.size w w' := by
  go_enter_defers Try.func15, Try.ntmps15
  go_wp2
  refine leaves_cons (f := 27) (args := #[.pointer (some ⟨w.heap.size, 0, none⟩)]) (by simp) (by simp [go_sem]) ?_
  refine (tt_clos ⟨w.heap.size, 0, none⟩ ⟨#[84, 101, 114, 109, 84, 121, 112, 101, 84, 114, 117, 101]⟩ .returning _ ?_ ?_ (by decide)).mono ?_
  · simp [go_sem]
  · simp [go_sem]
  rintro e u' w'' ⟨rfl, rfl, rfl⟩
  simp only [Leaves, settle]
  refine ⟨.string (⟨#[103, 111, 106, 113, 46]⟩ ++ ⟨#[84, 101, 114, 109, 84, 121, 112, 101, 84, 114, 117, 101]⟩), by simp [results, Try.results15, go_sem], ret_str (by decide), ?_⟩
  exact ((Below.refl _ _).alloc (Nat.le_refl _) _).setCell (Nat.le_refl _) _

theorem tt_5 (w : World) : Calls Try.prog 15 #[.int .i64 5] w fun e w' => e = .returned (.string (ttStr 5)) ∧ Below w.heap.size w w' := by
  go_enter_defers Try.func15, Try.ntmps15
  go_wp2
  refine leaves_cons (f := 27) (args := #[.pointer (some ⟨w.heap.size, 0, none⟩)]) (by simp) (by simp [go_sem]) ?_
  refine (tt_clos ⟨w.heap.size, 0, none⟩ ⟨#[84, 101, 114, 109, 84, 121, 112, 101, 70, 97, 108, 115, 101]⟩ .returning _ ?_ ?_ (by decide)).mono ?_
  · simp [go_sem]
  · simp [go_sem]
  rintro e u' w'' ⟨rfl, rfl, rfl⟩
  simp only [Leaves, settle]
  refine ⟨.string (⟨#[103, 111, 106, 113, 46]⟩ ++ ⟨#[84, 101, 114, 109, 84, 121, 112, 101, 70, 97, 108, 115, 101]⟩), by simp [results, Try.results15, go_sem], ret_str (by decide), ?_⟩
  exact ((Below.refl _ _).alloc (Nat.le_refl _) _).setCell (Nat.le_refl _) _

theorem tt_6 (w : World) : Calls Try.prog 15 #[.int .i64 6] w fun e w' => e = .returned (.string (ttStr 6)) ∧ Below w.heap.size w w' := by
  go_enter_defers Try.func15, Try.ntmps15
  go_wp2
  refine leaves_cons (f := 27) (args := #[.pointer (some ⟨w.heap.size, 0, none⟩)]) (by simp) (by simp [go_sem]) ?_
  refine (tt_clos ⟨w.heap.size, 0, none⟩ ⟨#[84, 101, 114, 109, 84, 121, 112, 101, 73, 110, 100, 101, 120]⟩ .returning _ ?_ ?_ (by decide)).mono ?_
  · simp [go_sem]
  · simp [go_sem]
  rintro e u' w'' ⟨rfl, rfl, rfl⟩
  simp only [Leaves, settle]
  refine ⟨.string (⟨#[103, 111, 106, 113, 46]⟩ ++ ⟨#[84, 101, 114, 109, 84, 121, 112, 101, 73, 110, 100, 101, 120]⟩), by simp [results, Try.results15, go_sem], ret_str (by decide), ?_⟩
  exact ((Below.refl _ _).alloc (Nat.le_refl _) _).setCell (Nat.le_refl _) _

theorem tt_7 (w : World) : Calls Try.prog 15 #[.int .i64 7] w fun e w' => e = .returned (.string (ttStr 7)) ∧ Below w.heap.size w w' := by
  go_enter_defers Try.func15, Try.ntmps15
  go_wp2
  refine leaves_cons (f := 27) (args := #[.pointer (some ⟨w.heap.size, 0, none⟩)]) (by simp) (by simp [go_sem]) ?_
  refine (tt_clos ⟨w.heap.size, 0, none⟩ ⟨#[84, 101, 114, 109, 84, 121, 112, 101, 70, 117, 110, 99]⟩ .returning _ ?_ ?_ (by decide)).mono ?_
  · simp [go_sem]
  · simp [go_sem]
  rintro e u' w'' ⟨rfl, rfl, rfl⟩
  simp only [Leaves, settle]
  refine ⟨.string (⟨#[103, 111, 106, 113, 46]⟩ ++ ⟨#[84, 101, 114, 109, 84, 121, 112, 101, 70, 117, 110, 99]⟩), by simp [results, Try.results15, go_sem], ret_str (by decide), ?_⟩
  exact ((Below.refl _ _).alloc (Nat.le_refl _) _).setCell (Nat.le_refl _) _

theorem tt_8 (w : World) : Calls Try.prog 15 #[.int .i64 8] w fun e w' => e = .returned (.string (ttStr 8)) ∧ Below w.heap.size w w' := by
  go_enter_defers Try.func15, Try.ntmps15
  go_wp2
  refine leaves_cons (f := 27) (args := #[.pointer (some ⟨w.heap.size, 0, none⟩)]) (by simp) (by simp [go_sem]) ?_
  refine (tt_clos ⟨w.heap.size, 0, none⟩ ⟨#[84, 101, 114, 109, 84, 121, 112, 101, 79, 98, 106, 101, 99, 116]⟩ .returning _ ?_ ?_ (by decide)).mono ?_
  · simp [go_sem]
  · simp [go_sem]
  rintro e u' w'' ⟨rfl, rfl, rfl⟩
  simp only [Leaves, settle]
  refine ⟨.string (⟨#[103, 111, 106, 113, 46]⟩ ++ ⟨#[84, 101, 114, 109, 84, 121, 112, 101, 79, 98, 106, 101, 99, 116]⟩), by simp [results, Try.results15, go_sem], ret_str (by decide), ?_⟩
  exact ((Below.refl _ _).alloc (Nat.le_refl _) _).setCell (Nat.le_refl _) _

theorem tt_9 (w : World) : Calls Try.prog 15 #[.int .i64 9] w fun e w' => e = .returned (.string (ttStr 9)) ∧ Below w.heap.size w w' := by
  go_enter_defers Try.func15, Try.ntmps15
  go_wp2
  refine leaves_cons (f := 27) (args := #[.pointer (some ⟨w.heap.size, 0, none⟩)]) (by simp) (by simp [go_sem]) ?_
  refine (tt_clos ⟨w.heap.size, 0, none⟩ ⟨#[84, 101, 114, 109, 84, 121, 112, 101, 65, 114, 114, 97, 121]⟩ .returning _ ?_ ?_ (by decide)).mono ?_
  · simp [go_sem]
  · simp [go_sem]
  rintro e u' w'' ⟨rfl, rfl, rfl⟩
  simp only [Leaves, settle]
  refine ⟨.string (⟨#[103, 111, 106, 113, 46]⟩ ++ ⟨#[84, 101, 114, 109, 84, 121, 112, 101, 65, 114, 114, 97, 121]⟩), by simp [results, Try.results15, go_sem], ret_str (by decide), ?_⟩
  exact ((Below.refl _ _).alloc (Nat.le_refl _) _).setCell (Nat.le_refl _) _

theorem tt_10 (w : World) : Calls Try.prog 15 #[.int .i64 10] w fun e w' => e = .returned (.string (ttStr 10)) ∧ Below w.heap.size w w' := by
  go_enter_defers Try.func15, Try.ntmps15
  go_wp2
  refine leaves_cons (f := 27) (args := #[.pointer (some ⟨w.heap.size, 0, none⟩)]) (by simp) (by simp [go_sem]) ?_
  refine (tt_clos ⟨w.heap.size, 0, none⟩ ⟨#[84, 101, 114, 109, 84, 121, 112, 101, 78, 117, 109, 98, 101, 114]⟩ .returning _ ?_ ?_ (by decide)).mono ?_
  · simp [go_sem]
  · simp [go_sem]
  rintro e u' w'' ⟨rfl, rfl, rfl⟩
  simp only [Leaves, settle]
  refine ⟨.string (⟨#[103, 111, 106, 113, 46]⟩ ++ ⟨#[84, 101, 114, 109, 84, 121, 112, 101, 78, 117, 109, 98, 101, 114]⟩), by simp [results, Try.results15, go_sem], ret_str (by decide), ?_⟩
  exact ((Below.refl _ _).alloc (Nat.le_refl _) _).setCell (Nat.le_refl _) _

theorem tt_11 (w : World) : Calls Try.prog 15 #[.int .i64 11] w fun e w' => e = .returned (.string (ttStr 11)) ∧ Below w.heap.size w w' := by
  go_enter_defers Try.func15, Try.ntmps15
  go_wp2
  refine leaves_cons (f := 27) (args := #[.pointer (some ⟨w.heap.size, 0, none⟩)]) (by simp) (by simp [go_sem]) ?_
  refine (tt_clos ⟨w.heap.size, 0, none⟩ ⟨#[84, 101, 114, 109, 84, 121, 112, 101, 85, 110, 97, 114, 121]⟩ .returning _ ?_ ?_ (by decide)).mono ?_
  · simp [go_sem]
  · simp [go_sem]
  rintro e u' w'' ⟨rfl, rfl, rfl⟩
  simp only [Leaves, settle]
  refine ⟨.string (⟨#[103, 111, 106, 113, 46]⟩ ++ ⟨#[84, 101, 114, 109, 84, 121, 112, 101, 85, 110, 97, 114, 121]⟩), by simp [results, Try.results15, go_sem], ret_str (by decide), ?_⟩
  exact ((Below.refl _ _).alloc (Nat.le_refl _) _).setCell (Nat.le_refl _) _

theorem tt_12 (w : World) : Calls Try.prog 15 #[.int .i64 12] w fun e w' => e = .returned (.string (ttStr 12)) ∧ Below w.heap.size w w' := by
  go_enter_defers Try.func15, Try.ntmps15
  go_wp2
  refine leaves_cons (f := 27) (args := #[.pointer (some ⟨w.heap.size, 0, none⟩)]) (by simp) (by simp [go_sem]) ?_
  refine (tt_clos ⟨w.heap.size, 0, none⟩ ⟨#[84, 101, 114, 109, 84, 121, 112, 101, 70, 111, 114, 109, 97, 116]⟩ .returning _ ?_ ?_ (by decide)).mono ?_
  · simp [go_sem]
  · simp [go_sem]
  rintro e u' w'' ⟨rfl, rfl, rfl⟩
  simp only [Leaves, settle]
  refine ⟨.string (⟨#[103, 111, 106, 113, 46]⟩ ++ ⟨#[84, 101, 114, 109, 84, 121, 112, 101, 70, 111, 114, 109, 97, 116]⟩), by simp [results, Try.results15, go_sem], ret_str (by decide), ?_⟩
  exact ((Below.refl _ _).alloc (Nat.le_refl _) _).setCell (Nat.le_refl _) _

theorem tt_13 (w : World) : Calls Try.prog 15 #[.int .i64 13] w fun e w' => e = .returned (.string (ttStr 13)) ∧ Below w.heap.size w w' := by
  go_enter_defers Try.func15, Try.ntmps15
  go_wp2
  refine leaves_cons (f := 27) (args := #[.pointer (some ⟨w.heap.size, 0, none⟩)]) (by simp) (by simp [go_sem]) ?_
  refine (tt_clos ⟨w.heap.size, 0, none⟩ ⟨#[84, 101, 114, 109, 84, 121, 112, 101, 83, 116, 114, 105, 110, 103]⟩ .returning _ ?_ ?_ (by decide)).mono ?_
  · simp [go_sem]
  · simp [go_sem]
  rintro e u' w'' ⟨rfl, rfl, rfl⟩
  simp only [Leaves, settle]
  refine ⟨.string (⟨#[103, 111, 106, 113, 46]⟩ ++ ⟨#[84, 101, 114, 109, 84, 121, 112, 101, 83, 116, 114, 105, 110, 103]⟩), by simp [results, Try.results15, go_sem], ret_str (by decide), ?_⟩
  exact ((Below.refl _ _).alloc (Nat.le_refl _) _).setCell (Nat.le_refl _) _

theorem tt_14 (w : World) : Calls Try.prog 15 #[.int .i64 14] w fun e w' => e = .returned (.string (ttStr 14)) ∧ Below w.heap.size w w' := by
  go_enter_defers Try.func15, Try.ntmps15
  go_wp2
  refine leaves_cons (f := 27) (args := #[.pointer (some ⟨w.heap.size, 0, none⟩)]) (by simp) (by simp [go_sem]) ?_
  refine (tt_clos ⟨w.heap.size, 0, none⟩ ⟨#[84, 101, 114, 109, 84, 121, 112, 101, 73, 102]⟩ .returning _ ?_ ?_ (by decide)).mono ?_
  · simp [go_sem]
  · simp [go_sem]
  rintro e u' w'' ⟨rfl, rfl, rfl⟩
  simp only [Leaves, settle]
  refine ⟨.string (⟨#[103, 111, 106, 113, 46]⟩ ++ ⟨#[84, 101, 114, 109, 84, 121, 112, 101, 73, 102]⟩), by simp [results, Try.results15, go_sem], ret_str (by decide), ?_⟩
  exact ((Below.refl _ _).alloc (Nat.le_refl _) _).setCell (Nat.le_refl _) _

theorem tt_15 (w : World) : Calls Try.prog 15 #[.int .i64 15] w fun e w' => e = .returned (.string (ttStr 15)) ∧ Below w.heap.size w w' := by
  go_enter_defers Try.func15, Try.ntmps15
  go_wp2
  refine leaves_cons (f := 27) (args := #[.pointer (some ⟨w.heap.size, 0, none⟩)]) (by simp) (by simp [go_sem]) ?_
  refine (tt_clos ⟨w.heap.size, 0, none⟩ ⟨#[84, 101, 114, 109, 84, 121, 112, 101, 84, 114, 121]⟩ .returning _ ?_ ?_ (by decide)).mono ?_
  · simp [go_sem]
  · simp [go_sem]
  rintro e u' w'' ⟨rfl, rfl, rfl⟩
  simp only [Leaves, settle]
  refine ⟨.string (⟨#[103, 111, 106, 113, 46]⟩ ++ ⟨#[84, 101, 114, 109, 84, 121, 112, 101, 84, 114, 121]⟩), by simp [results, Try.results15, go_sem], ret_str (by decide), ?_⟩
  exact ((Below.refl _ _).alloc (Nat.le_refl _) _).setCell (Nat.le_refl _) _

theorem tt_16 (w : World) : Calls Try.prog 15 #[.int .i64 16] w fun e w' => e = .returned (.string (ttStr 16)) ∧ Below w.heap.size w w' := by
  go_enter_defers Try.func15, Try.ntmps15
  go_wp2
  refine leaves_cons (f := 27) (args := #[.pointer (some ⟨w.heap.size, 0, none⟩)]) (by simp) (by simp [go_sem]) ?_
  refine (tt_clos ⟨w.heap.size, 0, none⟩ ⟨#[84, 101, 114, 109, 84, 121, 112, 101, 82, 101, 100, 117, 99, 101]⟩ .returning _ ?_ ?_ (by decide)).mono ?_
  · simp [go_sem]
  · simp [go_sem]
  rintro e u' w'' ⟨rfl, rfl, rfl⟩
  simp only [Leaves, settle]
  refine ⟨.string (⟨#[103, 111, 106, 113, 46]⟩ ++ ⟨#[84, 101, 114, 109, 84, 121, 112, 101, 82, 101, 100, 117, 99, 101]⟩), by simp [results, Try.results15, go_sem], ret_str (by decide), ?_⟩
  exact ((Below.refl _ _).alloc (Nat.le_refl _) _).setCell (Nat.le_refl _) _

theorem tt_17 (w : World) : Calls Try.prog 15 #[.int .i64 17] w fun e w' => e = .returned (.string (ttStr 17)) ∧ Below w.heap.size w w' := by
  go_enter_defers Try.func15, Try.ntmps15
  go_wp2
  refine leaves_cons (f := 27) (args := #[.pointer (some ⟨w.heap.size, 0, none⟩)]) (by simp) (by simp [go_sem]) ?_
  refine (tt_clos ⟨w.heap.size, 0, none⟩ ⟨#[84, 101, 114, 109, 84, 121, 112, 101, 70, 111, 114, 101, 97, 99, 104]⟩ .returning _ ?_ ?_ (by decide)).mono ?_
  · simp [go_sem]
  · simp [go_sem]
  rintro e u' w'' ⟨rfl, rfl, rfl⟩
  simp only [Leaves, settle]
  refine ⟨.string (⟨#[103, 111, 106, 113, 46]⟩ ++ ⟨#[84, 101, 114, 109, 84, 121, 112, 101, 70, 111, 114, 101, 97, 99, 104]⟩), by simp [results, Try.results15, go_sem], ret_str (by decide), ?_⟩
  exact ((Below.refl _ _).alloc (Nat.le_refl _) _).setCell (Nat.le_refl _) _

theorem tt_18 (w : World) : Calls Try.prog 15 #[.int .i64 18] w fun e w' => e = .returned (.string (ttStr 18)) ∧ Below w.heap.size w w' := by
  go_enter_defers Try.func15, Try.ntmps15
  go_wp2
  refine leaves_cons (f := 27) (args := #[.pointer (some ⟨w.heap.size, 0, none⟩)]) (by simp) (by simp [go_sem]) ?_
  refine (tt_clos ⟨w.heap.size, 0, none⟩ ⟨#[84, 101, 114, 109, 84, 121, 112, 101, 76, 97, 98, 101, 108]⟩ .returning _ ?_ ?_ (by decide)).mono ?_
  · simp [go_sem]
  · simp [go_sem]
  rintro e u' w'' ⟨rfl, rfl, rfl⟩
  simp only [Leaves, settle]
  refine ⟨.string (⟨#[103, 111, 106, 113, 46]⟩ ++ ⟨#[84, 101, 114, 109, 84, 121, 112, 101, 76, 97, 98, 101, 108]⟩), by simp [results, Try.results15, go_sem], ret_str (by decide), ?_⟩
  exact ((Below.refl _ _).alloc (Nat.le_refl _) _).setCell (Nat.le_refl _) _

theorem tt_19 (w : World) : Calls Try.prog 15 #[.int .i64 19] w fun e w' => e = .returned (.string (ttStr 19)) ∧ Below w.heap.size w w' := by
  go_enter_defers Try.func15, Try.ntmps15
  go_wp2
  refine leaves_cons (f := 27) (args := #[.pointer (some ⟨w.heap.size, 0, none⟩)]) (by simp) (by simp [go_sem]) ?_
  refine (tt_clos ⟨w.heap.size, 0, none⟩ ⟨#[84, 101, 114, 109, 84, 121, 112, 101, 66, 114, 101, 97, 107]⟩ .returning _ ?_ ?_ (by decide)).mono ?_
  · simp [go_sem]
  · simp [go_sem]
  rintro e u' w'' ⟨rfl, rfl, rfl⟩
  simp only [Leaves, settle]
  refine ⟨.string (⟨#[103, 111, 106, 113, 46]⟩ ++ ⟨#[84, 101, 114, 109, 84, 121, 112, 101, 66, 114, 101, 97, 107]⟩), by simp [results, Try.results15, go_sem], ret_str (by decide), ?_⟩
  exact ((Below.refl _ _).alloc (Nat.le_refl _) _).setCell (Nat.le_refl _) _

theorem tt_20 (w : World) : Calls Try.prog 15 #[.int .i64 20] w fun e w' => e = .returned (.string (ttStr 20)) ∧ Below w.heap.size w w' := by
  go_enter_defers Try.func15, Try.ntmps15
  go_wp2
  refine leaves_cons (f := 27) (args := #[.pointer (some ⟨w.heap.size, 0, none⟩)]) (by simp) (by simp [go_sem]) ?_
  refine (tt_clos ⟨w.heap.size, 0, none⟩ ⟨#[84, 101, 114, 109, 84, 121, 112, 101, 81, 117, 101, 114, 121]⟩ .returning _ ?_ ?_ (by decide)).mono ?_
  · simp [go_sem]
  · simp [go_sem]
  rintro e u' w'' ⟨rfl, rfl, rfl⟩
  simp only [Leaves, settle]
  refine ⟨.string (⟨#[103, 111, 106, 113, 46]⟩ ++ ⟨#[84, 101, 114, 109, 84, 121, 112, 101, 81, 117, 101, 114, 121]⟩), by simp [results, Try.results15, go_sem], ret_str (by decide), ?_⟩
  exact ((Below.refl _ _).alloc (Nat.le_refl _) _).setCell (Nat.le_refl _) _

theorem gf_3 (w : World) : Calls Try.prog 25 #[.int .i64 3] w fun e w' => e = .returned (.string (gfStr 3)) ∧ w = w' := by
  go_enter Try.func25, Try.ntmps25
  go_wp2
  go_ret
  exact ⟨rfl, rfl⟩

theorem gf_4 (w : World) : Calls Try.prog 25 #[.int .i64 4] w fun e w' => e = .returned (.string (gfStr 4)) ∧ w = w' := by
  go_enter Try.func25, Try.ntmps25
  go_wp2
  go_ret
  exact ⟨rfl, rfl⟩

theorem gf_5 (w : World) : Calls Try.prog 25 #[.int .i64 5] w fun e w' => e = .returned (.string (gfStr 5)) ∧ w = w' := by
  go_enter Try.func25, Try.ntmps25
  go_wp2
  go_ret
  exact ⟨rfl, rfl⟩

theorem gf_6 (w : World) : Calls Try.prog 25 #[.int .i64 6] w fun e w' => e = .returned (.string (gfStr 6)) ∧ w = w' := by
  go_enter Try.func25, Try.ntmps25
  go_wp2
  go_ret
  exact ⟨rfl, rfl⟩

theorem gf_7 (w : World) : Calls Try.prog 25 #[.int .i64 7] w fun e w' => e = .returned (.string (gfStr 7)) ∧ w = w' := by
  go_enter Try.func25, Try.ntmps25
  go_wp2
  go_ret
  exact ⟨rfl, rfl⟩

theorem gf_8 (w : World) : Calls Try.prog 25 #[.int .i64 8] w fun e w' => e = .returned (.string (gfStr 8)) ∧ w = w' := by
  go_enter Try.func25, Try.ntmps25
  go_wp2
  go_ret
  exact ⟨rfl, rfl⟩

theorem gf_9 (w : World) : Calls Try.prog 25 #[.int .i64 9] w fun e w' => e = .returned (.string (gfStr 9)) ∧ w = w' := by
  go_enter Try.func25, Try.ntmps25
  go_wp2
  go_ret
  exact ⟨rfl, rfl⟩

theorem gf_10 (w : World) : Calls Try.prog 25 #[.int .i64 10] w fun e w' => e = .returned (.string (gfStr 10)) ∧ w = w' := by
  go_enter Try.func25, Try.ntmps25
  go_wp2
  go_ret
  exact ⟨rfl, rfl⟩

theorem gf_11 (w : World) : Calls Try.prog 25 #[.int .i64 11] w fun e w' => e = .returned (.string (gfStr 11)) ∧ w = w' := by
  go_enter Try.func25, Try.ntmps25
  go_wp2
  go_ret
  exact ⟨rfl, rfl⟩

theorem gf_12 (w : World) : Calls Try.prog 25 #[.int .i64 12] w fun e w' => e = .returned (.string (gfStr 12)) ∧ w = w' := by
  go_enter Try.func25, Try.ntmps25
  go_wp2
  go_ret
  exact ⟨rfl, rfl⟩

theorem gf_13 (w : World) : Calls Try.prog 25 #[.int .i64 13] w fun e w' => e = .returned (.string (gfStr 13)) ∧ w = w' := by
  go_enter Try.func25, Try.ntmps25
  go_wp2
  go_ret
  exact ⟨rfl, rfl⟩

theorem gf_17 (w : World) : Calls Try.prog 25 #[.int .i64 17] w fun e w' => e = .returned (.string (gfStr 17)) ∧ w = w' := by
  go_enter Try.func25, Try.ntmps25
  go_wp2
  go_ret
  exact ⟨rfl, rfl⟩

theorem gf_18 (w : World) : Calls Try.prog 25 #[.int .i64 18] w fun e w' => e = .returned (.string (gfStr 18)) ∧ w = w' := by
  go_enter Try.func25, Try.ntmps25
  go_wp2
  go_ret
  exact ⟨rfl, rfl⟩

theorem gf_19 (w : World) : Calls Try.prog 25 #[.int .i64 19] w fun e w' => e = .returned (.string (gfStr 19)) ∧ w = w' := by
  go_enter Try.func25, Try.ntmps25
  go_wp2
  go_ret
  exact ⟨rfl, rfl⟩

theorem gf_20 (w : World) : Calls Try.prog 25 #[.int .i64 20] w fun e w' => e = .returned (.string (gfStr 20)) ∧ w = w' := by
  go_enter Try.func25, Try.ntmps25
  go_wp2
  go_ret
  exact ⟨rfl, rfl⟩

theorem gf_21 (w : World) : Calls Try.prog 25 #[.int .i64 21] w fun e w' => e = .returned (.string (gfStr 21)) ∧ w = w' := by
  go_enter Try.func25, Try.ntmps25
  go_wp2
  go_ret
  exact ⟨rfl, rfl⟩

theorem gf_22 (w : World) : Calls Try.prog 25 #[.int .i64 22] w fun e w' => e = .returned (.string (gfStr 22)) ∧ w = w' := by
  go_enter Try.func25, Try.ntmps25
  go_wp2
  go_ret
  exact ⟨rfl, rfl⟩

theorem gf_23 (w : World) : Calls Try.prog 25 #[.int .i64 23] w fun e w' => e = .returned (.string (gfStr 23)) ∧ w = w' := by
  go_enter Try.func25, Try.ntmps25
  go_wp2
  go_ret
  exact ⟨rfl, rfl⟩

theorem gf_24 (w : World) : Calls Try.prog 25 #[.int .i64 24] w fun e w' => e = .returned (.string (gfStr 24)) ∧ w = w' := by
  go_enter Try.func25, Try.ntmps25
  go_wp2
  go_ret
  exact ⟨rfl, rfl⟩

theorem op_any (a : Int) (w : World) (h : 0 ≤ a ∧ a ≤ 24) : Calls Try.prog 14 #[.int .i64 a] w fun e w' => e = .returned (.string (opStr a)) ∧ Below w.heap.size w w' := by
  have hc : a = 0 ∨ a = 1 ∨ a = 2 ∨ a = 3 ∨ a = 4 ∨ a = 5 ∨ a = 6 ∨ a = 7 ∨ a = 8 ∨ a = 9 ∨ a = 10 ∨ a = 11 ∨ a = 12 ∨ a = 13 ∨ a = 14 ∨ a = 15 ∨ a = 16 ∨ a = 17 ∨ a = 18 ∨ a = 19 ∨ a = 20 ∨ a = 21 ∨ a = 22 ∨ a = 23 ∨ a = 24 := by omega
  rcases hc with rfl | rfl | rfl | rfl | rfl | rfl | rfl | rfl | rfl | rfl | rfl | rfl | rfl | rfl | rfl | rfl | rfl | rfl | rfl | rfl | rfl | rfl | rfl | rfl | rfl
  · exact op_0 w
  · exact op_1 w
  · exact op_2 w
  · exact op_3 w
  · exact op_4 w
  · exact op_5 w
  · exact op_6 w
  · exact op_7 w
  · exact op_8 w
  · exact op_9 w
  · exact op_10 w
  · exact op_11 w
  · exact op_12 w
  · exact op_13 w
  · exact op_14 w
  · exact op_15 w
  · exact op_16 w
  · exact op_17 w
  · exact op_18 w
  · exact op_19 w
  · exact op_20 w
  · exact op_21 w
  · exact op_22 w
  · exact op_23 w
  · exact op_24 w

theorem tt_any (a : Int) (w : World) (h : 1 ≤ a ∧ a ≤ 20) : Calls Try.prog 15 #[.int .i64 a] w fun e w' => e = .returned (.string (ttStr a)) ∧ Below w.heap.size w w' := by
  have hc : a = 1 ∨ a = 2 ∨ a = 3 ∨ a = 4 ∨ a = 5 ∨ a = 6 ∨ a = 7 ∨ a = 8 ∨ a = 9 ∨ a = 10 ∨ a = 11 ∨ a = 12 ∨ a = 13 ∨ a = 14 ∨ a = 15 ∨ a = 16 ∨ a = 17 ∨ a = 18 ∨ a = 19 ∨ a = 20 := by omega
  rcases hc with rfl | rfl | rfl | rfl | rfl | rfl | rfl | rfl | rfl | rfl | rfl | rfl | rfl | rfl | rfl | rfl | rfl | rfl | rfl | rfl
  · exact tt_1 w
  · exact tt_2 w
  · exact tt_3 w
  · exact tt_4 w
  · exact tt_5 w
  · exact tt_6 w
  · exact tt_7 w
  · exact tt_8 w
  · exact tt_9 w
  · exact tt_10 w
  · exact tt_11 w
  · exact tt_12 w
  · exact tt_13 w
  · exact tt_14 w
  · exact tt_15 w
  · exact tt_16 w
  · exact tt_17 w
  · exact tt_18 w
  · exact tt_19 w
  · exact tt_20 w

theorem gf_any (a : Int) (w : World) (h : (3 ≤ a ∧ a ≤ 13) ∨ (17 ≤ a ∧ a ≤ 24)) : Calls Try.prog 25 #[.int .i64 a] w fun e w' => e = .returned (.string (gfStr a)) ∧ w = w' := by
  have hc : a = 3 ∨ a = 4 ∨ a = 5 ∨ a = 6 ∨ a = 7 ∨ a = 8 ∨ a = 9 ∨ a = 10 ∨ a = 11 ∨ a = 12 ∨ a = 13 ∨ a = 17 ∨ a = 18 ∨ a = 19 ∨ a = 20 ∨ a = 21 ∨ a = 22 ∨ a = 23 ∨ a = 24 := by omega
  rcases hc with rfl | rfl | rfl | rfl | rfl | rfl | rfl | rfl | rfl | rfl | rfl | rfl | rfl | rfl | rfl | rfl | rfl | rfl | rfl
  · exact gf_3 w
  · exact gf_4 w
  · exact gf_5 w
  · exact gf_6 w
  · exact gf_7 w
  · exact gf_8 w
  · exact gf_9 w
  · exact gf_10 w
  · exact gf_11 w
  · exact gf_12 w
  · exact gf_13 w
  · exact gf_17 w
  · exact gf_18 w
  · exact gf_19 w
  · exact gf_20 w
  · exact gf_21 w
  · exact gf_22 w
  · exact gf_23 w
  · exact gf_24 w

theorem zgf_any (a : Int) (w : World) (h : (3 ≤ a ∧ a ≤ 13) ∨ (17 ≤ a ∧ a ≤ 24)) : Calls Try.prog 12 #[.int .i64 a] w fun e w' => e = .returned (.string (gfStr a)) ∧ w = w' := by
  go_enter Try.func12, Try.ntmps12
  go_wp2_with (go_at_call 25; refine (gf_any _ _ h).mono ?_; rintro e w' ⟨rfl, rfl⟩)
  go_ret
  exact ⟨rfl, rfl⟩
end Go.Proofs.Ytlpgcdfndgcgeaa.names
