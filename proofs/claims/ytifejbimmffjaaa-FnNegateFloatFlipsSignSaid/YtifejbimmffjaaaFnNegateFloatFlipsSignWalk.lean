/- The walk of the law FnNegateFloatFlipsSign: it returns true at every float64. -/
import Derived.Test.YtifejbimmffjaaaFloats
import Derived.Test.YtifejbimmffjaaaBase
import Derived.ProofKit
import Derived.OpenShut
import Derived.Lib.Hide
import Derived.WalkLawsBesides
import Derived.WalkSpells
namespace Go.Proofs.Ytifejbimmffjaaa.fnNegateFloatFlipsSign
open Go.ChangeShapes Go.WideShapes Go.ChangeAt Go.RowKit
open types floats

theorem opneg (v : Nat) (w : World) : Calls Try.prog 14 #[.iface 31 (.float .f64 v)] w fun e w' => e = .returned (.iface 31 (.float .f64 (flip v))) ∧ w = w' := by
  have t1 := f_i; have t2 := f_f; have t3 := run_neg
  go_enter Try.func14, Try.ntmps14
  go_wp2_with fail
  go_ret
  exact ⟨rfl, rfl⟩

theorem kind (v : Nat) (w : World) : Calls Try.prog 13 #[.iface 31 (.float .f64 v)] w fun e w' => e = .returned (.tuple #[.int .i64 2, .int .i64 0, .float .f64 v, .string ⟨#[]⟩, .bool false, .slice none 0 0]) ∧ w = w' := by
  have t1 := f_i; have t2 := f_f
  go_enter Try.func13, Try.ntmps13
  go_wp2_with fail
  exact bodyPost_ret (v := .tuple #[.int .i64 2, .int .i64 0, .float .f64 v, .string ⟨#[]⟩, .bool false, .slice none 0 0]) (by simp [results, Try.results13, go_sem]) rfl ⟨rfl, rfl⟩

theorem zneg (v : Nat) (w : World) : Calls Try.prog 10 #[.float .f64 v] w fun e w' => e = .returned (.tuple #[.int .i64 2, .float .f64 (flip v)]) ∧ w = w' := by
  go_enter Try.func10, Try.ntmps10
  go_wp2_with (first | (go_at_call 14; refine (opneg _ _).mono ?_; rintro e w1 ⟨rfl, rfl⟩) | (go_at_call 13; refine (kind _ _).mono ?_; rintro e w1 ⟨rfl, rfl⟩))
  go_ret2
  exact ⟨rfl, rfl⟩

theorem walk (a0 : Nat) (w : World) (w0 : (Lit.float .f64 a0).wf = true) :
    Calls Try.prog 4 #[.float .f64 a0] w fun e w' => e = .returned (.bool true) ∧ Below w.heap.size w w' := by
  have hlt : a0 < 18446744073709551616 := by simpa [Lit.wf] using w0
  have hx := bits_flip a0 hlt
  have hb := run_bits
  have hf := order_flip a0
  cases hn : nanB a0
  · have ho : FloatKind.f64.format.order a0 a0 = some .eq := by rw [order_self, hn]; rfl
    rw [ho] at hf
    clear hn w0
    go_enter Try.func4, Try.ntmps4
    go_wp2_with (go_at_call 10; refine (zneg _ _).mono ?_; rintro e w1 ⟨rfl, rfl⟩)
    go_ret
    exact ⟨by simp, Below.refl _ _⟩
  · have ho : FloatKind.f64.format.order a0 a0 = none := by rw [order_self, hn]; rfl
    rw [ho] at hf
    clear hn w0
    go_enter Try.func4, Try.ntmps4
    go_wp2_with (go_at_call 10; refine (zneg _ _).mono ?_; rintro e w1 ⟨rfl, rfl⟩)
    go_ret
    exact ⟨by simp, Below.refl _ _⟩
end Go.Proofs.Ytifejbimmffjaaa.fnNegateFloatFlipsSign
