/-
  No cell of these rows narrows 'for every input' (looked for: loops, veiled, ifaces, maps, wideKeys, modest, calm, conditions, laid).
  DERIVED. THE GIVEN ROWS OF THIS SEAT. 10 by the template 'for every input the law returns true; each argument reads behind the call as it read before'; 0 by the template 'total and deterministic' (their statements: YtiegckcmgdfjeaaTotals.lean).
  GIVEN WITH THE SEED: the statements are not yours to turn. If you find one false, say at which input.
  Laid BY PROGRAM, IN A SANDBOX (cutbox-rows.mjs): the forced cells as the released guide's own fill.sh prints them over the translation 68677ec70d5c24ff… (all of the seat's roots in one cut). By AI agents, Wed Nov 11 2026. No macro, syntax, notation, axiom, sorry.
-/
import Derived.Test.YtiegckcmgdfjeaaChecked
import GoSem.Claim
import GoSem.ClaimJoined
import GoSem.ClaimMapViews
import Derived.JoinedTies
import Derived.KernelRfl
namespace Go.Proofs.Ytiegckcmgdfjeaa
/- THE CELL 'sum', in the pinned program and in every row, IS THE sha256 OF THE DUMP (.gsa) THAT YtiegckcmgdfjeaaProg.lean LOADS. Nothing in Lean hashes anything: it is a label: what it is worth is what the hold of that sum in a sandbox is worth. -/
noncomputable def Try.pinned : Pinned := { name := "ytiegckcmgdfjeaa", sum := "68677ec70d5c24ff726c72a1ebb8734b3e1b52cc05ffc96c9e3de8964949ed3b", checked := Try.checked }
namespace Rows
def none {H : Type} : Left H := { results := [], args := [] }

/-- 'n001_27.FnAbsIntExact': WHATEVER THE INPUT: true; the input reads as it did. -/
def fnAbsIntExactSpec : ChangeSpec := { name := "fnAbsIntExact", fn := fun _ => fun
  | [d] => { results := [.lit (.bool true)], args := [d] }
  | _ => none }
def fnAbsIntExactRow : OpenClaim := { program := "ytiegckcmgdfjeaa", sum := "68677ec70d5c24ff726c72a1ebb8734b3e1b52cc05ffc96c9e3de8964949ed3b", func := "github.com/itchyny/gojq/n001_27.FnAbsIntExact", spec := "fnAbsIntExact", inPlace := ["math.Float64bits", "math.Float64frombits"], apart := false }
def FnAbsIntExactSaid : Prop := fnAbsIntExactRow.holds Try.pinned (OpenSpec.ofChange fnAbsIntExactSpec)

/-- ITS FALSE NEIGHBOUR: 'it returns false'. Refute it at one input. -/
def fnAbsIntExactWrong : ChangeSpec := { name := "fnAbsIntExact", fn := fun _ => fun
  | [d] => { results := [.lit (.bool false)], args := [d] }
  | _ => none }
def FnAbsIntExactWrongFalsely : Prop := fnAbsIntExactRow.holds Try.pinned (OpenSpec.ofChange fnAbsIntExactWrong)

/-- 'n001_27.FnLengthStringRunes': WHATEVER THE INPUT: true; the input reads as it did. -/
def fnLengthStringRunesSpec : ChangeSpec := { name := "fnLengthStringRunes", fn := fun _ => fun
  | [d] => { results := [.lit (.bool true)], args := [d] }
  | _ => none }
def fnLengthStringRunesRow : OpenClaim := { program := "ytiegckcmgdfjeaa", sum := "68677ec70d5c24ff726c72a1ebb8734b3e1b52cc05ffc96c9e3de8964949ed3b", func := "github.com/itchyny/gojq/n001_27.FnLengthStringRunes", spec := "fnLengthStringRunes", inPlace := ["math.Float64bits", "math.Float64frombits"], apart := false }
def FnLengthStringRunesSaid : Prop := fnLengthStringRunesRow.holds Try.pinned (OpenSpec.ofChange fnLengthStringRunesSpec)

/-- ITS FALSE NEIGHBOUR: 'it returns false'. Refute it at one input. -/
def fnLengthStringRunesWrong : ChangeSpec := { name := "fnLengthStringRunes", fn := fun _ => fun
  | [d] => { results := [.lit (.bool false)], args := [d] }
  | _ => none }
def FnLengthStringRunesWrongFalsely : Prop := fnLengthStringRunesRow.holds Try.pinned (OpenSpec.ofChange fnLengthStringRunesWrong)

/-- 'n001_27.FnAbsRefusesNonNumbers': WHATEVER THE INPUT: true; the input reads as it did. -/
def fnAbsRefusesNonNumbersSpec : ChangeSpec := { name := "fnAbsRefusesNonNumbers", fn := fun _ => fun
  | [d1, d2] => { results := [.lit (.bool true)], args := [d1, d2] }
  | _ => none }
def fnAbsRefusesNonNumbersRow : OpenClaim := { program := "ytiegckcmgdfjeaa", sum := "68677ec70d5c24ff726c72a1ebb8734b3e1b52cc05ffc96c9e3de8964949ed3b", func := "github.com/itchyny/gojq/n001_27.FnAbsRefusesNonNumbers", spec := "fnAbsRefusesNonNumbers", inPlace := ["math.Float64bits", "math.Float64frombits"], apart := false }
def FnAbsRefusesNonNumbersSaid : Prop := fnAbsRefusesNonNumbersRow.holds Try.pinned (OpenSpec.ofChange fnAbsRefusesNonNumbersSpec)

/-- ITS FALSE NEIGHBOUR: 'it returns false'. Refute it at one input. -/
def fnAbsRefusesNonNumbersWrong : ChangeSpec := { name := "fnAbsRefusesNonNumbers", fn := fun _ => fun
  | [d1, d2] => { results := [.lit (.bool false)], args := [d1, d2] }
  | _ => none }
def FnAbsRefusesNonNumbersWrongFalsely : Prop := fnAbsRefusesNonNumbersRow.holds Try.pinned (OpenSpec.ofChange fnAbsRefusesNonNumbersWrong)

/-- 'n001_27.FnKeysArrayIndices': WHATEVER THE INPUT: true; the input reads as it did. -/
def fnKeysArrayIndicesSpec : ChangeSpec := { name := "fnKeysArrayIndices", fn := fun _ => fun
  | [d1, d2] => { results := [.lit (.bool true)], args := [d1, d2] }
  | _ => none }
def fnKeysArrayIndicesRow : OpenClaim := { program := "ytiegckcmgdfjeaa", sum := "68677ec70d5c24ff726c72a1ebb8734b3e1b52cc05ffc96c9e3de8964949ed3b", func := "github.com/itchyny/gojq/n001_27.FnKeysArrayIndices", spec := "fnKeysArrayIndices", recurses := true, apart := false }
def FnKeysArrayIndicesSaid : Prop := fnKeysArrayIndicesRow.holds Try.pinned (OpenSpec.ofChange fnKeysArrayIndicesSpec)

/-- ITS FALSE NEIGHBOUR: 'it returns false'. Refute it at one input. -/
def fnKeysArrayIndicesWrong : ChangeSpec := { name := "fnKeysArrayIndices", fn := fun _ => fun
  | [d1, d2] => { results := [.lit (.bool false)], args := [d1, d2] }
  | _ => none }
def FnKeysArrayIndicesWrongFalsely : Prop := fnKeysArrayIndicesRow.holds Try.pinned (OpenSpec.ofChange fnKeysArrayIndicesWrong)

/-- 'n001_27.FnAbsFloatExact': WHATEVER THE INPUT: true; the input reads as it did. -/
def fnAbsFloatExactSpec : ChangeSpec := { name := "fnAbsFloatExact", fn := fun _ => fun
  | [d] => { results := [.lit (.bool true)], args := [d] }
  | _ => none }
def fnAbsFloatExactRow : OpenClaim := { program := "ytiegckcmgdfjeaa", sum := "68677ec70d5c24ff726c72a1ebb8734b3e1b52cc05ffc96c9e3de8964949ed3b", func := "github.com/itchyny/gojq/n001_27.FnAbsFloatExact", spec := "fnAbsFloatExact", inPlace := ["math.Float64bits", "math.Float64frombits"], apart := false }
def FnAbsFloatExactSaid : Prop := fnAbsFloatExactRow.holds Try.pinned (OpenSpec.ofChange fnAbsFloatExactSpec)

/-- ITS FALSE NEIGHBOUR: 'it returns false'. Refute it at one input. -/
def fnAbsFloatExactWrong : ChangeSpec := { name := "fnAbsFloatExact", fn := fun _ => fun
  | [d] => { results := [.lit (.bool false)], args := [d] }
  | _ => none }
def FnAbsFloatExactWrongFalsely : Prop := fnAbsFloatExactRow.holds Try.pinned (OpenSpec.ofChange fnAbsFloatExactWrong)

/-- 'n001_27.FnLengthCountsElements': WHATEVER THE INPUT: true; the input reads as it did. -/
def fnLengthCountsElementsSpec : ChangeSpec := { name := "fnLengthCountsElements", fn := fun _ => fun
  | [d1, d2] => { results := [.lit (.bool true)], args := [d1, d2] }
  | _ => none }
def fnLengthCountsElementsRow : OpenClaim := { program := "ytiegckcmgdfjeaa", sum := "68677ec70d5c24ff726c72a1ebb8734b3e1b52cc05ffc96c9e3de8964949ed3b", func := "github.com/itchyny/gojq/n001_27.FnLengthCountsElements", spec := "fnLengthCountsElements", inPlace := ["math.Float64bits", "math.Float64frombits"], apart := false }
def FnLengthCountsElementsSaid : Prop := fnLengthCountsElementsRow.holds Try.pinned (OpenSpec.ofChange fnLengthCountsElementsSpec)

/-- ITS FALSE NEIGHBOUR: 'it returns false'. Refute it at one input. -/
def fnLengthCountsElementsWrong : ChangeSpec := { name := "fnLengthCountsElements", fn := fun _ => fun
  | [d1, d2] => { results := [.lit (.bool false)], args := [d1, d2] }
  | _ => none }
def FnLengthCountsElementsWrongFalsely : Prop := fnLengthCountsElementsRow.holds Try.pinned (OpenSpec.ofChange fnLengthCountsElementsWrong)

/-- 'n001_27.FnUtf8ByteLengthBetweenRunesAndFour': WHATEVER THE INPUT: true; the input reads as it did. -/
def fnUtf8ByteLengthBetweenRunesAndFourSpec : ChangeSpec := { name := "fnUtf8ByteLengthBetweenRunesAndFour", fn := fun _ => fun
  | [d] => { results := [.lit (.bool true)], args := [d] }
  | _ => none }
def fnUtf8ByteLengthBetweenRunesAndFourRow : OpenClaim := { program := "ytiegckcmgdfjeaa", sum := "68677ec70d5c24ff726c72a1ebb8734b3e1b52cc05ffc96c9e3de8964949ed3b", func := "github.com/itchyny/gojq/n001_27.FnUtf8ByteLengthBetweenRunesAndFour", spec := "fnUtf8ByteLengthBetweenRunesAndFour", inPlace := ["math.Float64bits", "math.Float64frombits"], apart := false }
def FnUtf8ByteLengthBetweenRunesAndFourSaid : Prop := fnUtf8ByteLengthBetweenRunesAndFourRow.holds Try.pinned (OpenSpec.ofChange fnUtf8ByteLengthBetweenRunesAndFourSpec)

/-- ITS FALSE NEIGHBOUR: 'it returns false'. Refute it at one input. -/
def fnUtf8ByteLengthBetweenRunesAndFourWrong : ChangeSpec := { name := "fnUtf8ByteLengthBetweenRunesAndFour", fn := fun _ => fun
  | [d] => { results := [.lit (.bool false)], args := [d] }
  | _ => none }
def FnUtf8ByteLengthBetweenRunesAndFourWrongFalsely : Prop := fnUtf8ByteLengthBetweenRunesAndFourRow.holds Try.pinned (OpenSpec.ofChange fnUtf8ByteLengthBetweenRunesAndFourWrong)

/-- 'n001_27.FnLengthAgreesWithAbs': WHATEVER THE INPUT: true; the input reads as it did. -/
def fnLengthAgreesWithAbsSpec : ChangeSpec := { name := "fnLengthAgreesWithAbs", fn := fun _ => fun
  | [d1, d2] => { results := [.lit (.bool true)], args := [d1, d2] }
  | _ => none }
def fnLengthAgreesWithAbsRow : OpenClaim := { program := "ytiegckcmgdfjeaa", sum := "68677ec70d5c24ff726c72a1ebb8734b3e1b52cc05ffc96c9e3de8964949ed3b", func := "github.com/itchyny/gojq/n001_27.FnLengthAgreesWithAbs", spec := "fnLengthAgreesWithAbs", inPlace := ["math.Float64bits", "math.Float64frombits"], apart := false }
def FnLengthAgreesWithAbsSaid : Prop := fnLengthAgreesWithAbsRow.holds Try.pinned (OpenSpec.ofChange fnLengthAgreesWithAbsSpec)

/-- ITS FALSE NEIGHBOUR: 'it returns false'. Refute it at one input. -/
def fnLengthAgreesWithAbsWrong : ChangeSpec := { name := "fnLengthAgreesWithAbs", fn := fun _ => fun
  | [d1, d2] => { results := [.lit (.bool false)], args := [d1, d2] }
  | _ => none }
def FnLengthAgreesWithAbsWrongFalsely : Prop := fnLengthAgreesWithAbsRow.holds Try.pinned (OpenSpec.ofChange fnLengthAgreesWithAbsWrong)

/-- 'n001_27.FnUtf8ByteLengthAdditive': WHATEVER THE INPUT: true; the input reads as it did. -/
def fnUtf8ByteLengthAdditiveSpec : ChangeSpec := { name := "fnUtf8ByteLengthAdditive", fn := fun _ => fun
  | [d1, d2, d3] => { results := [.lit (.bool true)], args := [d1, d2, d3] }
  | _ => none }
def fnUtf8ByteLengthAdditiveRow : OpenClaim := { program := "ytiegckcmgdfjeaa", sum := "68677ec70d5c24ff726c72a1ebb8734b3e1b52cc05ffc96c9e3de8964949ed3b", func := "github.com/itchyny/gojq/n001_27.FnUtf8ByteLengthAdditive", spec := "fnUtf8ByteLengthAdditive", apart := false }
def FnUtf8ByteLengthAdditiveSaid : Prop := fnUtf8ByteLengthAdditiveRow.holds Try.pinned (OpenSpec.ofChange fnUtf8ByteLengthAdditiveSpec)

/-- ITS FALSE NEIGHBOUR: 'it returns false'. Refute it at one input. -/
def fnUtf8ByteLengthAdditiveWrong : ChangeSpec := { name := "fnUtf8ByteLengthAdditive", fn := fun _ => fun
  | [d1, d2, d3] => { results := [.lit (.bool false)], args := [d1, d2, d3] }
  | _ => none }
def FnUtf8ByteLengthAdditiveWrongFalsely : Prop := fnUtf8ByteLengthAdditiveRow.holds Try.pinned (OpenSpec.ofChange fnUtf8ByteLengthAdditiveWrong)

/-- 'n001_27.FnKeysObjectSortedDistinct': WHATEVER THE INPUT: true; the input reads as it did. -/
def fnKeysObjectSortedDistinctSpec : ChangeSpec := { name := "fnKeysObjectSortedDistinct", fn := fun _ => fun
  | [d] => { results := [.lit (.bool true)], args := [d] }
  | _ => none }
def fnKeysObjectSortedDistinctRow : OpenClaim := { program := "ytiegckcmgdfjeaa", sum := "68677ec70d5c24ff726c72a1ebb8734b3e1b52cc05ffc96c9e3de8964949ed3b", func := "github.com/itchyny/gojq/n001_27.FnKeysObjectSortedDistinct", spec := "fnKeysObjectSortedDistinct", inPlace := ["math.Float64bits", "math.Float64frombits"], recurses := true, apart := false }
def FnKeysObjectSortedDistinctSaid : Prop := fnKeysObjectSortedDistinctRow.holds Try.pinned (OpenSpec.ofChange fnKeysObjectSortedDistinctSpec)

/-- ITS FALSE NEIGHBOUR: 'it returns false'. Refute it at one input. -/
def fnKeysObjectSortedDistinctWrong : ChangeSpec := { name := "fnKeysObjectSortedDistinct", fn := fun _ => fun
  | [d] => { results := [.lit (.bool false)], args := [d] }
  | _ => none }
def FnKeysObjectSortedDistinctWrongFalsely : Prop := fnKeysObjectSortedDistinctRow.holds Try.pinned (OpenSpec.ofChange fnKeysObjectSortedDistinctWrong)

/- THE SECOND FORM. 'bulk': how many values and letters a reading holds, each counted each time it is reached (what is shared counts as often as it is met; a slice's spare places count too). A statement '..UptoSaid' is the law's where the arguments, and the package variables that the reading takes, are together of bulk at most 1048576: NARROWER than '..Said'. Prove '..Said' where nothing that the law and all that it calls make is longer than what came in: it says more and counts as full. Else prove '..UptoSaid'. A law counts once. -/
mutual
def uptoBulk {H : Type} : DataW H → Nat
  | .lit (.string bytes) => bytes.length + 1
  | .lit _ => 1
  | .nil => 1
  | .ptr d => uptoBulk d + 1
  | .slice elems spare => uptoBulkAll elems + uptoBulkAll spare + 1
  | .agg parts => uptoBulkAll parts + 1
  | .iface _ d => uptoBulk d + 1
  | .map entries => uptoBulkEntries entries + 1
  | .held _ => 1
def uptoBulkAll {H : Type} : List (DataW H) → Nat
  | [] => 0
  | d :: r => uptoBulk d + uptoBulkAll r
def uptoBulkEntries {H : Type} : List (Lit × DataW H) → Nat
  | [] => 0
  | x :: r => uptoBulkEntry x + uptoBulkEntries r
def uptoBulkEntry {H : Type} : Lit × DataW H → Nat
  | (.string bytes, d) => bytes.length + uptoBulk d + 1
  | (_, d) => uptoBulk d + 1
 end
def uptoSmall : (H : Type) → List (DataW H) → Bool := fun _ ds => decide (uptoBulkAll ds ≤ 1048576)
def OpenSpec.upto (s : _root_.Go.ChangeSpec) : _root_.Go.OpenSpec := { _root_.Go.OpenSpec.ofChange s with cond := some uptoSmall }

/-- 'n001_27.FnAbsIntExact', WHERE WHAT IT READS IS OF BULK AT MOST 1048576: true; the input reads as it did. -/
def fnAbsIntExactUptoRow : OpenClaim := { program := "ytiegckcmgdfjeaa", sum := "68677ec70d5c24ff726c72a1ebb8734b3e1b52cc05ffc96c9e3de8964949ed3b", func := "github.com/itchyny/gojq/n001_27.FnAbsIntExact", spec := "fnAbsIntExact", inPlace := ["math.Float64bits", "math.Float64frombits"], apart := false, narrowed := true }
def FnAbsIntExactUptoSaid : Prop := fnAbsIntExactUptoRow.holds Try.pinned (OpenSpec.upto fnAbsIntExactSpec)

/-- 'n001_27.FnLengthStringRunes', WHERE WHAT IT READS IS OF BULK AT MOST 1048576: true; the input reads as it did. -/
def fnLengthStringRunesUptoRow : OpenClaim := { program := "ytiegckcmgdfjeaa", sum := "68677ec70d5c24ff726c72a1ebb8734b3e1b52cc05ffc96c9e3de8964949ed3b", func := "github.com/itchyny/gojq/n001_27.FnLengthStringRunes", spec := "fnLengthStringRunes", inPlace := ["math.Float64bits", "math.Float64frombits"], apart := false, narrowed := true }
def FnLengthStringRunesUptoSaid : Prop := fnLengthStringRunesUptoRow.holds Try.pinned (OpenSpec.upto fnLengthStringRunesSpec)

/-- 'n001_27.FnAbsRefusesNonNumbers', WHERE WHAT IT READS IS OF BULK AT MOST 1048576: true; the input reads as it did. -/
def fnAbsRefusesNonNumbersUptoRow : OpenClaim := { program := "ytiegckcmgdfjeaa", sum := "68677ec70d5c24ff726c72a1ebb8734b3e1b52cc05ffc96c9e3de8964949ed3b", func := "github.com/itchyny/gojq/n001_27.FnAbsRefusesNonNumbers", spec := "fnAbsRefusesNonNumbers", inPlace := ["math.Float64bits", "math.Float64frombits"], apart := false, narrowed := true }
def FnAbsRefusesNonNumbersUptoSaid : Prop := fnAbsRefusesNonNumbersUptoRow.holds Try.pinned (OpenSpec.upto fnAbsRefusesNonNumbersSpec)

/-- 'n001_27.FnKeysArrayIndices', WHERE WHAT IT READS IS OF BULK AT MOST 1048576: true; the input reads as it did. -/
def fnKeysArrayIndicesUptoRow : OpenClaim := { program := "ytiegckcmgdfjeaa", sum := "68677ec70d5c24ff726c72a1ebb8734b3e1b52cc05ffc96c9e3de8964949ed3b", func := "github.com/itchyny/gojq/n001_27.FnKeysArrayIndices", spec := "fnKeysArrayIndices", recurses := true, apart := false, narrowed := true }
def FnKeysArrayIndicesUptoSaid : Prop := fnKeysArrayIndicesUptoRow.holds Try.pinned (OpenSpec.upto fnKeysArrayIndicesSpec)

/-- 'n001_27.FnAbsFloatExact', WHERE WHAT IT READS IS OF BULK AT MOST 1048576: true; the input reads as it did. -/
def fnAbsFloatExactUptoRow : OpenClaim := { program := "ytiegckcmgdfjeaa", sum := "68677ec70d5c24ff726c72a1ebb8734b3e1b52cc05ffc96c9e3de8964949ed3b", func := "github.com/itchyny/gojq/n001_27.FnAbsFloatExact", spec := "fnAbsFloatExact", inPlace := ["math.Float64bits", "math.Float64frombits"], apart := false, narrowed := true }
def FnAbsFloatExactUptoSaid : Prop := fnAbsFloatExactUptoRow.holds Try.pinned (OpenSpec.upto fnAbsFloatExactSpec)

/-- 'n001_27.FnLengthCountsElements', WHERE WHAT IT READS IS OF BULK AT MOST 1048576: true; the input reads as it did. -/
def fnLengthCountsElementsUptoRow : OpenClaim := { program := "ytiegckcmgdfjeaa", sum := "68677ec70d5c24ff726c72a1ebb8734b3e1b52cc05ffc96c9e3de8964949ed3b", func := "github.com/itchyny/gojq/n001_27.FnLengthCountsElements", spec := "fnLengthCountsElements", inPlace := ["math.Float64bits", "math.Float64frombits"], apart := false, narrowed := true }
def FnLengthCountsElementsUptoSaid : Prop := fnLengthCountsElementsUptoRow.holds Try.pinned (OpenSpec.upto fnLengthCountsElementsSpec)

/-- 'n001_27.FnUtf8ByteLengthBetweenRunesAndFour', WHERE WHAT IT READS IS OF BULK AT MOST 1048576: true; the input reads as it did. -/
def fnUtf8ByteLengthBetweenRunesAndFourUptoRow : OpenClaim := { program := "ytiegckcmgdfjeaa", sum := "68677ec70d5c24ff726c72a1ebb8734b3e1b52cc05ffc96c9e3de8964949ed3b", func := "github.com/itchyny/gojq/n001_27.FnUtf8ByteLengthBetweenRunesAndFour", spec := "fnUtf8ByteLengthBetweenRunesAndFour", inPlace := ["math.Float64bits", "math.Float64frombits"], apart := false, narrowed := true }
def FnUtf8ByteLengthBetweenRunesAndFourUptoSaid : Prop := fnUtf8ByteLengthBetweenRunesAndFourUptoRow.holds Try.pinned (OpenSpec.upto fnUtf8ByteLengthBetweenRunesAndFourSpec)

/-- 'n001_27.FnLengthAgreesWithAbs', WHERE WHAT IT READS IS OF BULK AT MOST 1048576: true; the input reads as it did. -/
def fnLengthAgreesWithAbsUptoRow : OpenClaim := { program := "ytiegckcmgdfjeaa", sum := "68677ec70d5c24ff726c72a1ebb8734b3e1b52cc05ffc96c9e3de8964949ed3b", func := "github.com/itchyny/gojq/n001_27.FnLengthAgreesWithAbs", spec := "fnLengthAgreesWithAbs", inPlace := ["math.Float64bits", "math.Float64frombits"], apart := false, narrowed := true }
def FnLengthAgreesWithAbsUptoSaid : Prop := fnLengthAgreesWithAbsUptoRow.holds Try.pinned (OpenSpec.upto fnLengthAgreesWithAbsSpec)

/-- 'n001_27.FnUtf8ByteLengthAdditive', WHERE WHAT IT READS IS OF BULK AT MOST 1048576: true; the input reads as it did. -/
def fnUtf8ByteLengthAdditiveUptoRow : OpenClaim := { program := "ytiegckcmgdfjeaa", sum := "68677ec70d5c24ff726c72a1ebb8734b3e1b52cc05ffc96c9e3de8964949ed3b", func := "github.com/itchyny/gojq/n001_27.FnUtf8ByteLengthAdditive", spec := "fnUtf8ByteLengthAdditive", apart := false, narrowed := true }
def FnUtf8ByteLengthAdditiveUptoSaid : Prop := fnUtf8ByteLengthAdditiveUptoRow.holds Try.pinned (OpenSpec.upto fnUtf8ByteLengthAdditiveSpec)

/-- 'n001_27.FnKeysObjectSortedDistinct', WHERE WHAT IT READS IS OF BULK AT MOST 1048576: true; the input reads as it did. -/
def fnKeysObjectSortedDistinctUptoRow : OpenClaim := { program := "ytiegckcmgdfjeaa", sum := "68677ec70d5c24ff726c72a1ebb8734b3e1b52cc05ffc96c9e3de8964949ed3b", func := "github.com/itchyny/gojq/n001_27.FnKeysObjectSortedDistinct", spec := "fnKeysObjectSortedDistinct", inPlace := ["math.Float64bits", "math.Float64frombits"], recurses := true, apart := false, narrowed := true }
def FnKeysObjectSortedDistinctUptoSaid : Prop := fnKeysObjectSortedDistinctUptoRow.holds Try.pinned (OpenSpec.upto fnKeysObjectSortedDistinctSpec)

end Rows
end Go.Proofs.Ytiegckcmgdfjeaa
