/-
  No cell of these rows narrows 'for every input' (looked for: loops, veiled, ifaces, maps, wideKeys, modest, calm, conditions, laid).
  DERIVED. THE GIVEN ROWS OF THIS SEAT. 8 by the template 'for every input the law returns true; each argument reads behind the call as it read before'; 0 by the template 'total and deterministic' (their statements: YtmfpmpbilekbgaaTotals.lean).
  GIVEN WITH THE SEED: the statements are not yours to turn. If you find one false, say at which input.
  Laid BY PROGRAM, IN A SANDBOX (cutbox-rows.mjs): the forced cells as the released guide's own fill.sh prints them over the translation dffdafc79c3539f2… (all of the seat's roots in one cut). By AI agents, Wed Nov 11 2026. No macro, syntax, notation, axiom, sorry.
-/
import Derived.Test.YtmfpmpbilekbgaaChecked
import GoSem.Claim
import GoSem.ClaimJoined
import GoSem.ClaimMapViews
import Derived.JoinedTies
import Derived.KernelRfl
namespace Go.Proofs.Ytmfpmpbilekbgaa
/- THE CELL 'sum', in the pinned program and in every row, IS THE sha256 OF THE DUMP (.gsa) THAT YtmfpmpbilekbgaaProg.lean LOADS. Nothing in Lean hashes anything: it is a label: what it is worth is what the hold of that sum in a sandbox is worth. -/
noncomputable def Try.pinned : Pinned := { name := "ytmfpmpbilekbgaa", sum := "dffdafc79c3539f26fa47fe1401c2216c3cc9f15eb35d8ff0f223af9cde173bc", checked := Try.checked }
namespace Rows
def none {H : Type} : Left H := { results := [], args := [] }

/-- 'n001_26.FnAppendBuiltinLayout': WHATEVER THE INPUT: true; the input reads as it did. -/
def fnAppendBuiltinLayoutSpec : ChangeSpec := { name := "fnAppendBuiltinLayout", fn := fun _ => fun
  | [d1, d2, d3] => { results := [.lit (.bool true)], args := [d1, d2, d3] }
  | _ => none }
def fnAppendBuiltinLayoutRow : OpenClaim := { program := "ytmfpmpbilekbgaa", sum := "dffdafc79c3539f26fa47fe1401c2216c3cc9f15eb35d8ff0f223af9cde173bc", func := "github.com/itchyny/gojq/n001_26.FnAppendBuiltinLayout", spec := "fnAppendBuiltinLayout", unfollowed := true, recurses := true, apart := false }
def FnAppendBuiltinLayoutSaid : Prop := fnAppendBuiltinLayoutRow.holds Try.pinned (OpenSpec.ofChange fnAppendBuiltinLayoutSpec)

/-- ITS FALSE NEIGHBOUR: 'it returns false'. Refute it at one input. -/
def fnAppendBuiltinLayoutWrong : ChangeSpec := { name := "fnAppendBuiltinLayout", fn := fun _ => fun
  | [d1, d2, d3] => { results := [.lit (.bool false)], args := [d1, d2, d3] }
  | _ => none }
def FnAppendBuiltinLayoutWrongFalsely : Prop := fnAppendBuiltinLayoutRow.holds Try.pinned (OpenSpec.ofChange fnAppendBuiltinLayoutWrong)

/-- 'n001_26.FnLookupFuncOrVariableDollarAgrees': WHATEVER THE INPUT: true; the input reads as it did. -/
def fnLookupFuncOrVariableDollarAgreesSpec : ChangeSpec := { name := "fnLookupFuncOrVariableDollarAgrees", fn := fun _ => fun
  | [d1, d2] => { results := [.lit (.bool true)], args := [d1, d2] }
  | _ => none }
def fnLookupFuncOrVariableDollarAgreesRow : OpenClaim := { program := "ytmfpmpbilekbgaa", sum := "dffdafc79c3539f26fa47fe1401c2216c3cc9f15eb35d8ff0f223af9cde173bc", func := "github.com/itchyny/gojq/n001_26.FnLookupFuncOrVariableDollarAgrees", spec := "fnLookupFuncOrVariableDollarAgrees", apart := false }
def FnLookupFuncOrVariableDollarAgreesSaid : Prop := fnLookupFuncOrVariableDollarAgreesRow.holds Try.pinned (OpenSpec.ofChange fnLookupFuncOrVariableDollarAgreesSpec)

/-- ITS FALSE NEIGHBOUR: 'it returns false'. Refute it at one input. -/
def fnLookupFuncOrVariableDollarAgreesWrong : ChangeSpec := { name := "fnLookupFuncOrVariableDollarAgrees", fn := fun _ => fun
  | [d1, d2] => { results := [.lit (.bool false)], args := [d1, d2] }
  | _ => none }
def FnLookupFuncOrVariableDollarAgreesWrongFalsely : Prop := fnLookupFuncOrVariableDollarAgreesRow.holds Try.pinned (OpenSpec.ofChange fnLookupFuncOrVariableDollarAgreesWrong)

/-- 'n001_26.FnLookupBuiltinMatchesModel': WHATEVER THE INPUT: true; the input reads as it did. -/
def fnLookupBuiltinMatchesModelSpec : ChangeSpec := { name := "fnLookupBuiltinMatchesModel", fn := fun _ => fun
  | [d1, d2, d3, d4] => { results := [.lit (.bool true)], args := [d1, d2, d3, d4] }
  | _ => none }
def fnLookupBuiltinMatchesModelRow : OpenClaim := { program := "ytmfpmpbilekbgaa", sum := "dffdafc79c3539f26fa47fe1401c2216c3cc9f15eb35d8ff0f223af9cde173bc", func := "github.com/itchyny/gojq/n001_26.FnLookupBuiltinMatchesModel", spec := "fnLookupBuiltinMatchesModel", unfollowed := true, recurses := true, apart := false }
def FnLookupBuiltinMatchesModelSaid : Prop := fnLookupBuiltinMatchesModelRow.holds Try.pinned (OpenSpec.ofChange fnLookupBuiltinMatchesModelSpec)

/-- ITS FALSE NEIGHBOUR: 'it returns false'. Refute it at one input. -/
def fnLookupBuiltinMatchesModelWrong : ChangeSpec := { name := "fnLookupBuiltinMatchesModel", fn := fun _ => fun
  | [d1, d2, d3, d4] => { results := [.lit (.bool false)], args := [d1, d2, d3, d4] }
  | _ => none }
def FnLookupBuiltinMatchesModelWrongFalsely : Prop := fnLookupBuiltinMatchesModelRow.holds Try.pinned (OpenSpec.ofChange fnLookupBuiltinMatchesModelWrong)

/-- 'n001_26.FnLookupVariableMatchesLastBinding': WHATEVER THE INPUT: true; the input reads as it did. -/
def fnLookupVariableMatchesLastBindingSpec : ChangeSpec := { name := "fnLookupVariableMatchesLastBinding", fn := fun _ => fun
  | [d1, d2] => { results := [.lit (.bool true)], args := [d1, d2] }
  | _ => none }
def fnLookupVariableMatchesLastBindingRow : OpenClaim := { program := "ytmfpmpbilekbgaa", sum := "dffdafc79c3539f26fa47fe1401c2216c3cc9f15eb35d8ff0f223af9cde173bc", func := "github.com/itchyny/gojq/n001_26.FnLookupVariableMatchesLastBinding", spec := "fnLookupVariableMatchesLastBinding", apart := false }
def FnLookupVariableMatchesLastBindingSaid : Prop := fnLookupVariableMatchesLastBindingRow.holds Try.pinned (OpenSpec.ofChange fnLookupVariableMatchesLastBindingSpec)

/-- ITS FALSE NEIGHBOUR: 'it returns false'. Refute it at one input. -/
def fnLookupVariableMatchesLastBindingWrong : ChangeSpec := { name := "fnLookupVariableMatchesLastBinding", fn := fun _ => fun
  | [d1, d2] => { results := [.lit (.bool false)], args := [d1, d2] }
  | _ => none }
def FnLookupVariableMatchesLastBindingWrongFalsely : Prop := fnLookupVariableMatchesLastBindingRow.holds Try.pinned (OpenSpec.ofChange fnLookupVariableMatchesLastBindingWrong)

/-- 'n001_26.FnAppendBuiltinLeavesUserScopes': WHATEVER THE INPUT: true; the input reads as it did. -/
def fnAppendBuiltinLeavesUserScopesSpec : ChangeSpec := { name := "fnAppendBuiltinLeavesUserScopes", fn := fun _ => fun
  | [d1, d2, d3, d4] => { results := [.lit (.bool true)], args := [d1, d2, d3, d4] }
  | _ => none }
def fnAppendBuiltinLeavesUserScopesRow : OpenClaim := { program := "ytmfpmpbilekbgaa", sum := "dffdafc79c3539f26fa47fe1401c2216c3cc9f15eb35d8ff0f223af9cde173bc", func := "github.com/itchyny/gojq/n001_26.FnAppendBuiltinLeavesUserScopes", spec := "fnAppendBuiltinLeavesUserScopes", unfollowed := true, recurses := true, apart := false }
def FnAppendBuiltinLeavesUserScopesSaid : Prop := fnAppendBuiltinLeavesUserScopesRow.holds Try.pinned (OpenSpec.ofChange fnAppendBuiltinLeavesUserScopesSpec)

/-- ITS FALSE NEIGHBOUR: 'it returns false'. Refute it at one input. -/
def fnAppendBuiltinLeavesUserScopesWrong : ChangeSpec := { name := "fnAppendBuiltinLeavesUserScopes", fn := fun _ => fun
  | [d1, d2, d3, d4] => { results := [.lit (.bool false)], args := [d1, d2, d3, d4] }
  | _ => none }
def FnAppendBuiltinLeavesUserScopesWrongFalsely : Prop := fnAppendBuiltinLeavesUserScopesRow.holds Try.pinned (OpenSpec.ofChange fnAppendBuiltinLeavesUserScopesWrong)

/-- 'n001_26.FnLookupBuiltinAgreesWithFuncOrVariable': WHATEVER THE INPUT: true; the input reads as it did. -/
def fnLookupBuiltinAgreesWithFuncOrVariableSpec : ChangeSpec := { name := "fnLookupBuiltinAgreesWithFuncOrVariable", fn := fun _ => fun
  | [d1, d2, d3, d4] => { results := [.lit (.bool true)], args := [d1, d2, d3, d4] }
  | _ => none }
def fnLookupBuiltinAgreesWithFuncOrVariableRow : OpenClaim := { program := "ytmfpmpbilekbgaa", sum := "dffdafc79c3539f26fa47fe1401c2216c3cc9f15eb35d8ff0f223af9cde173bc", func := "github.com/itchyny/gojq/n001_26.FnLookupBuiltinAgreesWithFuncOrVariable", spec := "fnLookupBuiltinAgreesWithFuncOrVariable", unfollowed := true, recurses := true, apart := false }
def FnLookupBuiltinAgreesWithFuncOrVariableSaid : Prop := fnLookupBuiltinAgreesWithFuncOrVariableRow.holds Try.pinned (OpenSpec.ofChange fnLookupBuiltinAgreesWithFuncOrVariableSpec)

/-- ITS FALSE NEIGHBOUR: 'it returns false'. Refute it at one input. -/
def fnLookupBuiltinAgreesWithFuncOrVariableWrong : ChangeSpec := { name := "fnLookupBuiltinAgreesWithFuncOrVariable", fn := fun _ => fun
  | [d1, d2, d3, d4] => { results := [.lit (.bool false)], args := [d1, d2, d3, d4] }
  | _ => none }
def FnLookupBuiltinAgreesWithFuncOrVariableWrongFalsely : Prop := fnLookupBuiltinAgreesWithFuncOrVariableRow.holds Try.pinned (OpenSpec.ofChange fnLookupBuiltinAgreesWithFuncOrVariableWrong)

/-- 'n001_26.FnPushThenLookupVariable': WHATEVER THE INPUT: true; the input reads as it did. -/
def fnPushThenLookupVariableSpec : ChangeSpec := { name := "fnPushThenLookupVariable", fn := fun _ => fun
  | [d1, d2] => { results := [.lit (.bool true)], args := [d1, d2] }
  | _ => none }
def fnPushThenLookupVariableRow : OpenClaim := { program := "ytmfpmpbilekbgaa", sum := "dffdafc79c3539f26fa47fe1401c2216c3cc9f15eb35d8ff0f223af9cde173bc", func := "github.com/itchyny/gojq/n001_26.FnPushThenLookupVariable", spec := "fnPushThenLookupVariable", apart := false }
def FnPushThenLookupVariableSaid : Prop := fnPushThenLookupVariableRow.holds Try.pinned (OpenSpec.ofChange fnPushThenLookupVariableSpec)

/-- ITS FALSE NEIGHBOUR: 'it returns false'. Refute it at one input. -/
def fnPushThenLookupVariableWrong : ChangeSpec := { name := "fnPushThenLookupVariable", fn := fun _ => fun
  | [d1, d2] => { results := [.lit (.bool false)], args := [d1, d2] }
  | _ => none }
def FnPushThenLookupVariableWrongFalsely : Prop := fnPushThenLookupVariableRow.holds Try.pinned (OpenSpec.ofChange fnPushThenLookupVariableWrong)

/-- 'n001_26.FnLookupFuncOrVariableMatchesModel': WHATEVER THE INPUT: true; the input reads as it did. -/
def fnLookupFuncOrVariableMatchesModelSpec : ChangeSpec := { name := "fnLookupFuncOrVariableMatchesModel", fn := fun _ => fun
  | [d1, d2] => { results := [.lit (.bool true)], args := [d1, d2] }
  | _ => none }
def fnLookupFuncOrVariableMatchesModelRow : OpenClaim := { program := "ytmfpmpbilekbgaa", sum := "dffdafc79c3539f26fa47fe1401c2216c3cc9f15eb35d8ff0f223af9cde173bc", func := "github.com/itchyny/gojq/n001_26.FnLookupFuncOrVariableMatchesModel", spec := "fnLookupFuncOrVariableMatchesModel", apart := false }
def FnLookupFuncOrVariableMatchesModelSaid : Prop := fnLookupFuncOrVariableMatchesModelRow.holds Try.pinned (OpenSpec.ofChange fnLookupFuncOrVariableMatchesModelSpec)

/-- ITS FALSE NEIGHBOUR: 'it returns false'. Refute it at one input. -/
def fnLookupFuncOrVariableMatchesModelWrong : ChangeSpec := { name := "fnLookupFuncOrVariableMatchesModel", fn := fun _ => fun
  | [d1, d2] => { results := [.lit (.bool false)], args := [d1, d2] }
  | _ => none }
def FnLookupFuncOrVariableMatchesModelWrongFalsely : Prop := fnLookupFuncOrVariableMatchesModelRow.holds Try.pinned (OpenSpec.ofChange fnLookupFuncOrVariableMatchesModelWrong)

/- THE SECOND FORM. 'bulk': how many values and letters a reading holds, each counted each time it is reached (what is shared counts as often as it is met; a slice's spare places count too). A statement '..UptoSaid' is the law's where the arguments, and the package variables that the reading takes, are together of bulk at most 1048576: NARROWER than '..Said'. Prove '..Said' where nothing that the law and all that it calls make is longer than what came in: it says more and counts as full. Else prove '..UptoSaid'. A law counts once. -/
mutual
def uptoBulk {H : Type} : DataW H → Nat
  | .lit (.string bytes) => bytes.length + 1
  | .lit _ => 1
  | .nil => 1
  | .ptr d => uptoBulk d + 1
  | .slice elems spare => uptoBulkAll elems + uptoBulkAll spare + 1
  | .agg parts => uptoBulkAll parts + 1
  | .iface _ d => uptoBulk d + 1
  | .map entries => uptoBulkEntries entries + 1
  | .held _ => 1
def uptoBulkAll {H : Type} : List (DataW H) → Nat
  | [] => 0
  | d :: r => uptoBulk d + uptoBulkAll r
def uptoBulkEntries {H : Type} : List (Lit × DataW H) → Nat
  | [] => 0
  | x :: r => uptoBulkEntry x + uptoBulkEntries r
def uptoBulkEntry {H : Type} : Lit × DataW H → Nat
  | (.string bytes, d) => bytes.length + uptoBulk d + 1
  | (_, d) => uptoBulk d + 1
 end
def uptoSmall : (H : Type) → List (DataW H) → Bool := fun _ ds => decide (uptoBulkAll ds ≤ 1048576)
def OpenSpec.upto (s : _root_.Go.ChangeSpec) : _root_.Go.OpenSpec := { _root_.Go.OpenSpec.ofChange s with cond := some uptoSmall }

/-- 'n001_26.FnAppendBuiltinLayout', WHERE WHAT IT READS IS OF BULK AT MOST 1048576: true; the input reads as it did. -/
def fnAppendBuiltinLayoutUptoRow : OpenClaim := { program := "ytmfpmpbilekbgaa", sum := "dffdafc79c3539f26fa47fe1401c2216c3cc9f15eb35d8ff0f223af9cde173bc", func := "github.com/itchyny/gojq/n001_26.FnAppendBuiltinLayout", spec := "fnAppendBuiltinLayout", unfollowed := true, recurses := true, apart := false, narrowed := true }
def FnAppendBuiltinLayoutUptoSaid : Prop := fnAppendBuiltinLayoutUptoRow.holds Try.pinned (OpenSpec.upto fnAppendBuiltinLayoutSpec)

/-- 'n001_26.FnLookupFuncOrVariableDollarAgrees', WHERE WHAT IT READS IS OF BULK AT MOST 1048576: true; the input reads as it did. -/
def fnLookupFuncOrVariableDollarAgreesUptoRow : OpenClaim := { program := "ytmfpmpbilekbgaa", sum := "dffdafc79c3539f26fa47fe1401c2216c3cc9f15eb35d8ff0f223af9cde173bc", func := "github.com/itchyny/gojq/n001_26.FnLookupFuncOrVariableDollarAgrees", spec := "fnLookupFuncOrVariableDollarAgrees", apart := false, narrowed := true }
def FnLookupFuncOrVariableDollarAgreesUptoSaid : Prop := fnLookupFuncOrVariableDollarAgreesUptoRow.holds Try.pinned (OpenSpec.upto fnLookupFuncOrVariableDollarAgreesSpec)

/-- 'n001_26.FnLookupBuiltinMatchesModel', WHERE WHAT IT READS IS OF BULK AT MOST 1048576: true; the input reads as it did. -/
def fnLookupBuiltinMatchesModelUptoRow : OpenClaim := { program := "ytmfpmpbilekbgaa", sum := "dffdafc79c3539f26fa47fe1401c2216c3cc9f15eb35d8ff0f223af9cde173bc", func := "github.com/itchyny/gojq/n001_26.FnLookupBuiltinMatchesModel", spec := "fnLookupBuiltinMatchesModel", unfollowed := true, recurses := true, apart := false, narrowed := true }
def FnLookupBuiltinMatchesModelUptoSaid : Prop := fnLookupBuiltinMatchesModelUptoRow.holds Try.pinned (OpenSpec.upto fnLookupBuiltinMatchesModelSpec)

/-- 'n001_26.FnLookupVariableMatchesLastBinding', WHERE WHAT IT READS IS OF BULK AT MOST 1048576: true; the input reads as it did. -/
def fnLookupVariableMatchesLastBindingUptoRow : OpenClaim := { program := "ytmfpmpbilekbgaa", sum := "dffdafc79c3539f26fa47fe1401c2216c3cc9f15eb35d8ff0f223af9cde173bc", func := "github.com/itchyny/gojq/n001_26.FnLookupVariableMatchesLastBinding", spec := "fnLookupVariableMatchesLastBinding", apart := false, narrowed := true }
def FnLookupVariableMatchesLastBindingUptoSaid : Prop := fnLookupVariableMatchesLastBindingUptoRow.holds Try.pinned (OpenSpec.upto fnLookupVariableMatchesLastBindingSpec)

/-- 'n001_26.FnAppendBuiltinLeavesUserScopes', WHERE WHAT IT READS IS OF BULK AT MOST 1048576: true; the input reads as it did. -/
def fnAppendBuiltinLeavesUserScopesUptoRow : OpenClaim := { program := "ytmfpmpbilekbgaa", sum := "dffdafc79c3539f26fa47fe1401c2216c3cc9f15eb35d8ff0f223af9cde173bc", func := "github.com/itchyny/gojq/n001_26.FnAppendBuiltinLeavesUserScopes", spec := "fnAppendBuiltinLeavesUserScopes", unfollowed := true, recurses := true, apart := false, narrowed := true }
def FnAppendBuiltinLeavesUserScopesUptoSaid : Prop := fnAppendBuiltinLeavesUserScopesUptoRow.holds Try.pinned (OpenSpec.upto fnAppendBuiltinLeavesUserScopesSpec)

/-- 'n001_26.FnLookupBuiltinAgreesWithFuncOrVariable', WHERE WHAT IT READS IS OF BULK AT MOST 1048576: true; the input reads as it did. -/
def fnLookupBuiltinAgreesWithFuncOrVariableUptoRow : OpenClaim := { program := "ytmfpmpbilekbgaa", sum := "dffdafc79c3539f26fa47fe1401c2216c3cc9f15eb35d8ff0f223af9cde173bc", func := "github.com/itchyny/gojq/n001_26.FnLookupBuiltinAgreesWithFuncOrVariable", spec := "fnLookupBuiltinAgreesWithFuncOrVariable", unfollowed := true, recurses := true, apart := false, narrowed := true }
def FnLookupBuiltinAgreesWithFuncOrVariableUptoSaid : Prop := fnLookupBuiltinAgreesWithFuncOrVariableUptoRow.holds Try.pinned (OpenSpec.upto fnLookupBuiltinAgreesWithFuncOrVariableSpec)

/-- 'n001_26.FnPushThenLookupVariable', WHERE WHAT IT READS IS OF BULK AT MOST 1048576: true; the input reads as it did. -/
def fnPushThenLookupVariableUptoRow : OpenClaim := { program := "ytmfpmpbilekbgaa", sum := "dffdafc79c3539f26fa47fe1401c2216c3cc9f15eb35d8ff0f223af9cde173bc", func := "github.com/itchyny/gojq/n001_26.FnPushThenLookupVariable", spec := "fnPushThenLookupVariable", apart := false, narrowed := true }
def FnPushThenLookupVariableUptoSaid : Prop := fnPushThenLookupVariableUptoRow.holds Try.pinned (OpenSpec.upto fnPushThenLookupVariableSpec)

/-- 'n001_26.FnLookupFuncOrVariableMatchesModel', WHERE WHAT IT READS IS OF BULK AT MOST 1048576: true; the input reads as it did. -/
def fnLookupFuncOrVariableMatchesModelUptoRow : OpenClaim := { program := "ytmfpmpbilekbgaa", sum := "dffdafc79c3539f26fa47fe1401c2216c3cc9f15eb35d8ff0f223af9cde173bc", func := "github.com/itchyny/gojq/n001_26.FnLookupFuncOrVariableMatchesModel", spec := "fnLookupFuncOrVariableMatchesModel", apart := false, narrowed := true }
def FnLookupFuncOrVariableMatchesModelUptoSaid : Prop := fnLookupFuncOrVariableMatchesModelUptoRow.holds Try.pinned (OpenSpec.upto fnLookupFuncOrVariableMatchesModelSpec)

end Rows
end Go.Proofs.Ytmfpmpbilekbgaa
