/- Two pairs of numbers compared. -/
import Derived.Test.YtmfpmpbilekbgaaComp
import Derived.ChangeKeysEq
import Derived.Laws.StructEq
set_option linter.unusedVariables false
namespace Go.Proofs.Ytmfpmpbilekbgaa.eq'
open Go.ChangeShapes Go.WideShapes Go.ChangeAt Go.RowKit

theorem info3' : ∃ i, Try.prog.info? 3 = some i := by
  cases h : Try.prog.info? 3 with
  | none => have : (Try.prog.info? 3).isSome = true := by kernel_rfl
            rw [h] at this; cases this
  | some i => exact ⟨i, rfl⟩
set_option maxRecDepth 100000 in
theorem eq50 (w : World) (a b c d : Int) : (Op.equalIn 10000 50 (.agg #[.int .i64 a, .int .i64 b]) (.agg #[.int .i64 c, .int .i64 d])).run Try.prog w = .ok (a == c && b == d) w := by
  obtain ⟨i, hi⟩ := info3'
  have e3 : Try.prog.cellsOf 3 = 1 := by kernel_rfl
  rw [run_equalIn_array (P := Try.prog) w 9999 _ _ Try.underlying50 hi, e3]
  simp [Op.eqItems, List.range_succ, go_sem, Try.underlying3]
  by_cases h1 : a = c <;> by_cases h2 : b = d <;> simp [h1, h2]
end Go.Proofs.Ytmfpmpbilekbgaa.eq'
