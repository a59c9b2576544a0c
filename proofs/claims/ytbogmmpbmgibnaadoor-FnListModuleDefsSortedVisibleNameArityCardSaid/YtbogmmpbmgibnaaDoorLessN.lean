/- zzNameArityLess (f11). -/
import Derived.Test.YtbogmmpbmgibnaaDoorAsk
set_option linter.unusedVariables false
namespace Go.Proofs.YtbogmmpbmgibnaaDoor.lessn
open Go.ChangeShapes Go.WideShapes Go.ChangeAt Go.RowKit
open upd zs less

set_option maxRecDepth 100000 in
set_option maxHeartbeats 4000000 in
theorem less11 (W : World) (a b : ByteArray) (x y : Int) : Calls Tryd.prog 11 #[.string a, .int .i64 x, .string b, .int .i64 y] W fun e w' => e = .returned (.bool (keyLt (a, x) (b, y))) ∧ w' = W := by
  obtain ⟨r, hr⟩ : ∃ r, r = keyLt (a, x) (b, y) := ⟨_, rfl⟩
  have HR := Lib.hid hr
  rw [← hr]
  clear hr
  cases h1 : Op.bytesLess a.toList b.toList with
  | true =>
    obtain rfl : r = true := by rw [HR.out]; simp [keyLt, h1]
    clear HR
    go_enter Tryd.func11, Tryd.ntmps11
    go_wp2_with fail
    go_ret
    exact ⟨rfl, rfl⟩
  | false =>
    cases h2 : (a.toList == b.toList) with
    | false =>
      obtain rfl : r = false := by rw [HR.out]; simp [keyLt, h1, h2]
      clear HR
      go_enter Tryd.func11, Tryd.ntmps11
      go_wp2_with fail
      go_ret
      exact ⟨rfl, rfl⟩
    | true =>
      obtain rfl : r = decide (x < y) := by rw [HR.out]; simp [keyLt, h1, h2]
      clear HR
      go_enter Tryd.func11, Tryd.ntmps11
      go_wp2_with fail
      go_ret
      exact ⟨by first | rfl | simp, rfl⟩
end Go.Proofs.YtbogmmpbmgibnaaDoor.lessn
