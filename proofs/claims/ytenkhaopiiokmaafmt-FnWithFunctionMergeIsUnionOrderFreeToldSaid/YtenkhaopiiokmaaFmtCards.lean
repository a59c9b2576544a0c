/-
  DERIVED. GIVEN WITH THE SEED: THE CARDS: each row of YtenkhaopiiokmaaFmtRows.lean that lists a variable, with what it lists TIED to the program's text (the seventh form; the later family's looks); each row that meets fmt, with fmt's text TOLD by the authors' own Lean function (tested against real Go, not proved from fmt's source: count such statements apart). THE CARD IS WHAT COUNTS. Prove the row's statement (the work); the ties are given (YtenkhaopiiokmaaFmtTie.lean); close each card by the builder's one call (the guide's Derived/Test/ToyasCard.lean, 'card_holds'). Laid BY PROGRAM, IN A SANDBOX (cutbox-door.mjs). By AI agents, Wed Nov 11 2026. No macro, syntax, notation, axiom, sorry.
-/
import Derived.Test.YtenkhaopiiokmaaFmtRows
import GoSem.ClaimSeven
namespace Go.Proofs.YtenkhaopiiokmaaFmt
namespace Rows

/-- THE TOLD CARD OF 'n001_29.FnWithFunctionArityMaskExact'. -/
def fnWithFunctionArityMaskExactCard : Claim7 := { stood := { row := fnWithFunctionArityMaskExactRow, standIns := [], harness := (true, "5167c76a801d0c249f5caf1197c3f2926f33b9695e761bb11c96092be5b26615"), looks := false }, told := true, goes := false }
def FnWithFunctionArityMaskExactToldSaid : Prop := Claim7.holds Tryf.pinned (.plain (OpenSpec.ofChange fnWithFunctionArityMaskExactSpec)) fnWithFunctionArityMaskExactCard
/-- ITS FALSE NEIGHBOUR. Refute it at one input. -/
def FnWithFunctionArityMaskExactToldWrongFalsely : Prop := Claim7.holds Tryf.pinned (.plain (OpenSpec.ofChange fnWithFunctionArityMaskExactWrong)) fnWithFunctionArityMaskExactCard

/-- THE TOLD CARD OF 'n001_29.FnWithIterFunctionExactAndAgreesWithWithFunction'. -/
def fnWithIterFunctionExactAndAgreesWithWithFunctionCard : Claim7 := { stood := { row := fnWithIterFunctionExactAndAgreesWithWithFunctionRow, standIns := [], harness := (true, "5167c76a801d0c249f5caf1197c3f2926f33b9695e761bb11c96092be5b26615"), looks := false }, told := true, goes := false }
def FnWithIterFunctionExactAndAgreesWithWithFunctionToldSaid : Prop := Claim7.holds Tryf.pinned (.plain (OpenSpec.ofChange fnWithIterFunctionExactAndAgreesWithWithFunctionSpec)) fnWithIterFunctionExactAndAgreesWithWithFunctionCard
/-- ITS FALSE NEIGHBOUR. Refute it at one input. -/
def FnWithIterFunctionExactAndAgreesWithWithFunctionToldWrongFalsely : Prop := Claim7.holds Tryf.pinned (.plain (OpenSpec.ofChange fnWithIterFunctionExactAndAgreesWithWithFunctionWrong)) fnWithIterFunctionExactAndAgreesWithWithFunctionCard

/-- THE TOLD CARD OF 'n001_29.FnWithIterFunctionMergeUnionIdempotent'. -/
def fnWithIterFunctionMergeUnionIdempotentCard : Claim7 := { stood := { row := fnWithIterFunctionMergeUnionIdempotentRow, standIns := [], harness := (true, "5167c76a801d0c249f5caf1197c3f2926f33b9695e761bb11c96092be5b26615"), looks := false }, told := true, goes := false }
def FnWithIterFunctionMergeUnionIdempotentToldSaid : Prop := Claim7.holds Tryf.pinned (.plain (OpenSpec.ofChange fnWithIterFunctionMergeUnionIdempotentSpec)) fnWithIterFunctionMergeUnionIdempotentCard
/-- ITS FALSE NEIGHBOUR. Refute it at one input. -/
def FnWithIterFunctionMergeUnionIdempotentToldWrongFalsely : Prop := Claim7.holds Tryf.pinned (.plain (OpenSpec.ofChange fnWithIterFunctionMergeUnionIdempotentWrong)) fnWithIterFunctionMergeUnionIdempotentCard

/-- THE TOLD CARD OF 'n001_29.FnWithFunctionMergeIsUnionOrderFree'. -/
def fnWithFunctionMergeIsUnionOrderFreeCard : Claim7 := { stood := { row := fnWithFunctionMergeIsUnionOrderFreeRow, standIns := [], harness := (true, "5167c76a801d0c249f5caf1197c3f2926f33b9695e761bb11c96092be5b26615"), looks := false }, told := true, goes := false }
def FnWithFunctionMergeIsUnionOrderFreeToldSaid : Prop := Claim7.holds Tryf.pinned (.plain (OpenSpec.ofChange fnWithFunctionMergeIsUnionOrderFreeSpec)) fnWithFunctionMergeIsUnionOrderFreeCard
/-- ITS FALSE NEIGHBOUR. Refute it at one input. -/
def FnWithFunctionMergeIsUnionOrderFreeToldWrongFalsely : Prop := Claim7.holds Tryf.pinned (.plain (OpenSpec.ofChange fnWithFunctionMergeIsUnionOrderFreeWrong)) fnWithFunctionMergeIsUnionOrderFreeCard
end Rows
end Go.Proofs.YtenkhaopiiokmaaFmt
