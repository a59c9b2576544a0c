/-
  No cell of these rows narrows 'for every input' (looked for: loops, veiled, ifaces, maps, wideKeys, modest, calm, conditions, laid).
  DERIVED. THE GIVEN ROWS OF THIS SEAT. 4 by the template 'for every input the law returns true; each argument reads behind the call as it read before'; 0 by the template 'total and deterministic' (their statements: YtenkhaopiiokmaaFmtTotals.lean).
  GIVEN WITH THE SEED: the statements are not yours to turn. If you find one false, say at which input.
  Laid BY PROGRAM, IN A SANDBOX (cutbox-rows.mjs): the forced cells as the released guide's own fill.sh prints them over the translation 13c44749dffdbdfa… (all of the seat's roots in one cut). By AI agents, Wed Nov 11 2026. No macro, syntax, notation, axiom, sorry.
-/
import Derived.Test.YtenkhaopiiokmaaFmtChecked
import GoSem.Claim
import GoSem.ClaimJoined
import GoSem.ClaimMapViews
import Derived.JoinedTies
import Derived.KernelRfl
namespace Go.Proofs.YtenkhaopiiokmaaFmt
/- THE CELL 'sum', in the pinned program and in every row, IS THE sha256 OF THE DUMP (.gsa) THAT YtenkhaopiiokmaaFmtProg.lean LOADS. Nothing in Lean hashes anything: it is a label: what it is worth is what the hold of that sum in a sandbox is worth. -/
noncomputable def Tryf.pinned : Pinned := { name := "ytenkhaopiiokmaafmt", sum := "13c44749dffdbdfac2a771650f62d0f9d22f0235f3c677f28d88f98cb23e8f3c", checked := Tryf.checked }
namespace Rows
def none {H : Type} : Left H := { results := [], args := [] }

/-- 'n001_29.FnWithFunctionArityMaskExact': WHATEVER THE INPUT: true; the input reads as it did. -/
def fnWithFunctionArityMaskExactSpec : ChangeSpec := { name := "fnWithFunctionArityMaskExact", fn := fun _ => fun
  | [d1, d2, d3, d4] => { results := [.lit (.bool true)], args := [d1, d2, d3, d4] }
  | _ => none }
def fnWithFunctionArityMaskExactRow : OpenClaim := { program := "ytenkhaopiiokmaafmt", sum := "13c44749dffdbdfac2a771650f62d0f9d22f0235f3c677f28d88f98cb23e8f3c", func := "github.com/itchyny/gojq/n001_29.FnWithFunctionArityMaskExact", spec := "fnWithFunctionArityMaskExact", stops := ["fmt.Sprintf"], inPlace := ["fmt.Sprintf"], unfollowed := true, recurses := true, apart := false }
/-- NO THEOREM (fmt's text is open here; it may be false): for the released tool's asking of the row's closed facts alone. THE STATEMENT IS 'FnWithFunctionArityMaskExactToldSaid' (YtenkhaopiiokmaaFmtCards.lean). -/
def FnWithFunctionArityMaskExactFormAsk : Prop := fnWithFunctionArityMaskExactRow.holds Tryf.pinned (OpenSpec.ofChange fnWithFunctionArityMaskExactSpec)

/-- ITS FALSE NEIGHBOUR: 'it returns false'. Refute it at one input. -/
def fnWithFunctionArityMaskExactWrong : ChangeSpec := { name := "fnWithFunctionArityMaskExact", fn := fun _ => fun
  | [d1, d2, d3, d4] => { results := [.lit (.bool false)], args := [d1, d2, d3, d4] }
  | _ => none }
def FnWithFunctionArityMaskExactWrongFormAsk : Prop := fnWithFunctionArityMaskExactRow.holds Tryf.pinned (OpenSpec.ofChange fnWithFunctionArityMaskExactWrong)

/-- 'n001_29.FnWithIterFunctionExactAndAgreesWithWithFunction': WHATEVER THE INPUT: true; the input reads as it did. -/
def fnWithIterFunctionExactAndAgreesWithWithFunctionSpec : ChangeSpec := { name := "fnWithIterFunctionExactAndAgreesWithWithFunction", fn := fun _ => fun
  | [d1, d2, d3] => { results := [.lit (.bool true)], args := [d1, d2, d3] }
  | _ => none }
def fnWithIterFunctionExactAndAgreesWithWithFunctionRow : OpenClaim := { program := "ytenkhaopiiokmaafmt", sum := "13c44749dffdbdfac2a771650f62d0f9d22f0235f3c677f28d88f98cb23e8f3c", func := "github.com/itchyny/gojq/n001_29.FnWithIterFunctionExactAndAgreesWithWithFunction", spec := "fnWithIterFunctionExactAndAgreesWithWithFunction", stops := ["fmt.Sprintf"], inPlace := ["fmt.Sprintf"], unfollowed := true, recurses := true, apart := false }
/-- NO THEOREM (fmt's text is open here; it may be false): for the released tool's asking of the row's closed facts alone. THE STATEMENT IS 'FnWithIterFunctionExactAndAgreesWithWithFunctionToldSaid' (YtenkhaopiiokmaaFmtCards.lean). -/
def FnWithIterFunctionExactAndAgreesWithWithFunctionFormAsk : Prop := fnWithIterFunctionExactAndAgreesWithWithFunctionRow.holds Tryf.pinned (OpenSpec.ofChange fnWithIterFunctionExactAndAgreesWithWithFunctionSpec)

/-- ITS FALSE NEIGHBOUR: 'it returns false'. Refute it at one input. -/
def fnWithIterFunctionExactAndAgreesWithWithFunctionWrong : ChangeSpec := { name := "fnWithIterFunctionExactAndAgreesWithWithFunction", fn := fun _ => fun
  | [d1, d2, d3] => { results := [.lit (.bool false)], args := [d1, d2, d3] }
  | _ => none }
def FnWithIterFunctionExactAndAgreesWithWithFunctionWrongFormAsk : Prop := fnWithIterFunctionExactAndAgreesWithWithFunctionRow.holds Tryf.pinned (OpenSpec.ofChange fnWithIterFunctionExactAndAgreesWithWithFunctionWrong)

/-- 'n001_29.FnWithIterFunctionMergeUnionIdempotent': WHATEVER THE INPUT: true; the input reads as it did. -/
def fnWithIterFunctionMergeUnionIdempotentSpec : ChangeSpec := { name := "fnWithIterFunctionMergeUnionIdempotent", fn := fun _ => fun
  | [d1, d2, d3, d4, d5, d6] => { results := [.lit (.bool true)], args := [d1, d2, d3, d4, d5, d6] }
  | _ => none }
def fnWithIterFunctionMergeUnionIdempotentRow : OpenClaim := { program := "ytenkhaopiiokmaafmt", sum := "13c44749dffdbdfac2a771650f62d0f9d22f0235f3c677f28d88f98cb23e8f3c", func := "github.com/itchyny/gojq/n001_29.FnWithIterFunctionMergeUnionIdempotent", spec := "fnWithIterFunctionMergeUnionIdempotent", stops := ["fmt.Sprintf"], inPlace := ["fmt.Sprintf"], unfollowed := true, recurses := true, apart := false }
/-- NO THEOREM (fmt's text is open here; it may be false): for the released tool's asking of the row's closed facts alone. THE STATEMENT IS 'FnWithIterFunctionMergeUnionIdempotentToldSaid' (YtenkhaopiiokmaaFmtCards.lean). -/
def FnWithIterFunctionMergeUnionIdempotentFormAsk : Prop := fnWithIterFunctionMergeUnionIdempotentRow.holds Tryf.pinned (OpenSpec.ofChange fnWithIterFunctionMergeUnionIdempotentSpec)

/-- ITS FALSE NEIGHBOUR: 'it returns false'. Refute it at one input. -/
def fnWithIterFunctionMergeUnionIdempotentWrong : ChangeSpec := { name := "fnWithIterFunctionMergeUnionIdempotent", fn := fun _ => fun
  | [d1, d2, d3, d4, d5, d6] => { results := [.lit (.bool false)], args := [d1, d2, d3, d4, d5, d6] }
  | _ => none }
def FnWithIterFunctionMergeUnionIdempotentWrongFormAsk : Prop := fnWithIterFunctionMergeUnionIdempotentRow.holds Tryf.pinned (OpenSpec.ofChange fnWithIterFunctionMergeUnionIdempotentWrong)

/-- 'n001_29.FnWithFunctionMergeIsUnionOrderFree': WHATEVER THE INPUT: true; the input reads as it did. -/
def fnWithFunctionMergeIsUnionOrderFreeSpec : ChangeSpec := { name := "fnWithFunctionMergeIsUnionOrderFree", fn := fun _ => fun
  | [d1, d2, d3, d4, d5, d6, d7] => { results := [.lit (.bool true)], args := [d1, d2, d3, d4, d5, d6, d7] }
  | _ => none }
def fnWithFunctionMergeIsUnionOrderFreeRow : OpenClaim := { program := "ytenkhaopiiokmaafmt", sum := "13c44749dffdbdfac2a771650f62d0f9d22f0235f3c677f28d88f98cb23e8f3c", func := "github.com/itchyny/gojq/n001_29.FnWithFunctionMergeIsUnionOrderFree", spec := "fnWithFunctionMergeIsUnionOrderFree", stops := ["fmt.Sprintf"], inPlace := ["fmt.Sprintf"], unfollowed := true, recurses := true, apart := false }
/-- NO THEOREM (fmt's text is open here; it may be false): for the released tool's asking of the row's closed facts alone. THE STATEMENT IS 'FnWithFunctionMergeIsUnionOrderFreeToldSaid' (YtenkhaopiiokmaaFmtCards.lean). -/
def FnWithFunctionMergeIsUnionOrderFreeFormAsk : Prop := fnWithFunctionMergeIsUnionOrderFreeRow.holds Tryf.pinned (OpenSpec.ofChange fnWithFunctionMergeIsUnionOrderFreeSpec)

/-- ITS FALSE NEIGHBOUR: 'it returns false'. Refute it at one input. -/
def fnWithFunctionMergeIsUnionOrderFreeWrong : ChangeSpec := { name := "fnWithFunctionMergeIsUnionOrderFree", fn := fun _ => fun
  | [d1, d2, d3, d4, d5, d6, d7] => { results := [.lit (.bool false)], args := [d1, d2, d3, d4, d5, d6, d7] }
  | _ => none }
def FnWithFunctionMergeIsUnionOrderFreeWrongFormAsk : Prop := fnWithFunctionMergeIsUnionOrderFreeRow.holds Tryf.pinned (OpenSpec.ofChange fnWithFunctionMergeIsUnionOrderFreeWrong)

end Rows
end Go.Proofs.YtenkhaopiiokmaaFmt
