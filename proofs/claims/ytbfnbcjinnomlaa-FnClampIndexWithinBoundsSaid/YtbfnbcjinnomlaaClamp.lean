/- What the program's clampIndex and its export return, for every three integers: the plain function clampZ. -/
import Derived.Test.YtbfnbcjinnomlaaProg
import Derived.WalkKit
import Derived.ProofKit
import Derived.OpenShut
namespace Go.Proofs.Ytbfnbcjinnomlaa.clamp
open Go.ChangeShapes Go.WideShapes Go.ChangeAt Go.RowKit

def clampJ (i mx : Int) : Int := if i < 0 then wrap64 (i + mx) else i
def clampZ (i mn mx : Int) : Int := if clampJ i mx < mn then mn else if clampJ i mx < mx then clampJ i mx else mx

theorem clamp_any (i mn mx : Int) (w : World) :
    Calls Try.prog 25 #[.int .i64 i, .int .i64 mn, .int .i64 mx] w fun e w' => e = .returned (.int .i64 (clampZ i mn mx)) ∧ w = w' := by
  by_cases h0 : i < 0
  · have e0 : clampJ i mx = wrap64 (i + mx) := by simp [clampJ, h0]
    generalize hj : wrap64 (i + mx) = j
    rw [hj] at e0
    have H : clampZ i mn mx = if j < mn then mn else if j < mx then j else mx := by simp [clampZ, e0]
    rw [H]; clear H e0
    by_cases h1 : j < mn
    · go_enter Try.func25, Try.ntmps25
      go_wp2
      go_ret
      simp
    · by_cases h2 : j < mx
      · go_enter Try.func25, Try.ntmps25
        go_wp2
        go_ret
        simp
      · go_enter Try.func25, Try.ntmps25
        go_wp2
        go_ret
        simp
  · have e0 : clampJ i mx = i := by simp [clampJ, h0]
    have H : clampZ i mn mx = if i < mn then mn else if i < mx then i else mx := by simp [clampZ, e0]
    rw [H]; clear H e0
    by_cases h1 : i < mn
    · go_enter Try.func25, Try.ntmps25
      go_wp2
      go_ret
      simp
    · by_cases h2 : i < mx
      · go_enter Try.func25, Try.ntmps25
        go_wp2
        go_ret
        simp
      · go_enter Try.func25, Try.ntmps25
        go_wp2
        go_ret
        simp

theorem zclamp_any (i mn mx : Int) (w : World) :
    Calls Try.prog 14 #[.int .i64 i, .int .i64 mn, .int .i64 mx] w fun e w' => e = .returned (.int .i64 (clampZ i mn mx)) ∧ w = w' := by
  go_enter Try.func14, Try.ntmps14
  go_wp2_with (go_at_call 25; refine (clamp_any _ _ _ _).mono ?_; rintro e w' ⟨rfl, rfl⟩)
  go_ret
  exact ⟨rfl, rfl⟩

/-! ### the plain laws -/
theorem clamp_in {i mn mx : Int} (h : mn ≤ mx) : mn ≤ clampZ i mn mx ∧ clampZ i mn mx ≤ mx := by
  unfold clampZ; split
  · omega
  · split <;> omega

theorem clamp_same {i mn mx : Int} (h0 : 0 ≤ i) (h1 : mn ≤ i) (h2 : i ≤ mx) : clampZ i mn mx = i := by
  have e : clampJ i mx = i := by simp [clampJ]; omega
  unfold clampZ; rw [e]; split
  · omega
  · split <;> omega

theorem clamp_twice {i mn mx : Int} (h0 : 0 ≤ mn) (h : mn ≤ mx) : clampZ (clampZ i mn mx) mn mx = clampZ i mn mx := by
  have := clamp_in (i := i) h
  exact clamp_same (by omega) (by omega) (by omega)
end Go.Proofs.Ytbfnbcjinnomlaa.clamp
