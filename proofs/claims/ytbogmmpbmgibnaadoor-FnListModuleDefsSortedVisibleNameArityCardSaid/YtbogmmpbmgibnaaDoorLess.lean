/- The order of names and arities, and the closure that compares (f15). -/
import Derived.Test.YtbogmmpbmgibnaaDoorDefsG
set_option linter.unusedVariables false
namespace Go.Proofs.YtbogmmpbmgibnaaDoor.less
open Go.ChangeShapes Go.WideShapes Go.ChangeAt Go.RowKit
open upd zs

/-- by name, then by arity -/
def keyLt (k l : ByteArray × Int) : Bool := Op.bytesLess k.1.toList l.1.toList || (k.1.toList == l.1.toList && decide (k.2 < l.2))
set_option maxRecDepth 100000 in
set_option maxHeartbeats 4000000 in
theorem less15 (W : World) (X g n c i j pi pj : Nat) (a b : ByteArray) (x y : Int) (hX : W.cell? ⟨X, 0, none⟩ = some (.slice (some ⟨g, 0, none⟩) n c)) (hi : i < n) (hj : j < n) (hc : n ≤ c)
    (ci : W.cell? ⟨g, i, none⟩ = some (.pointer (some ⟨pi, 0, none⟩))) (cj : W.cell? ⟨g, j, none⟩ = some (.pointer (some ⟨pj, 0, none⟩)))
    (a0 : W.cell? ⟨pi, 0, none⟩ = some (.string a)) (a1 : W.cell? ⟨pi, 1, none⟩ = some (.int .i64 x)) (b0 : W.cell? ⟨pj, 0, none⟩ = some (.string b)) (b1 : W.cell? ⟨pj, 1, none⟩ = some (.int .i64 y)) :
    Calls Tryd.prog 15 #[.int .i64 i, .int .i64 j, .pointer (some ⟨X, 0, none⟩)] W fun e w' => e = .returned (.bool (keyLt (a, x) (b, y))) ∧ ∃ q, w' = W.drewN q := by
  have i0 : (0 : Int) ≤ i := by omega
  have j0 : (0 : Int) ≤ j := by omega
  have i1 : (i : Int) < n := by omega
  have j1 : (j : Int) < n := by omega
  obtain ⟨r, hr⟩ : ∃ r, r = keyLt (a, x) (b, y) := ⟨_, rfl⟩
  have HR := Lib.hid hr
  rw [← hr]
  clear hr
  cases h1 : Op.bytesLess a.toList b.toList with
  | true =>
    obtain rfl : r = true := by rw [HR.out]; simp [keyLt, h1]
    clear HR
    go_enter Tryd.func15, Tryd.ntmps15
    go_wp2_with fail
    go_quiet (fail)
    go_wp2_with fail
    go_ret
    exact ⟨rfl, nq, rfl⟩
  | false =>
    cases h2 : (a.toList == b.toList) with
    | false =>
      obtain rfl : r = false := by rw [HR.out]; simp [keyLt, h1, h2]
      clear HR
      go_enter Tryd.func15, Tryd.ntmps15
      go_wp2_with fail
      go_quiet (fail)
      go_wp2_with fail
      go_ret
      exact ⟨rfl, nq, rfl⟩
    | true =>
      obtain rfl : r = decide (x < y) := by rw [HR.out]; simp [keyLt, h1, h2]
      clear HR
      go_enter Tryd.func15, Tryd.ntmps15
      go_wp2_with fail
      go_quiet (fail)
      go_wp2_with fail
      go_ret
      exact ⟨by first | rfl | simp, nq, rfl⟩
end Go.Proofs.YtbogmmpbmgibnaaDoor.less
