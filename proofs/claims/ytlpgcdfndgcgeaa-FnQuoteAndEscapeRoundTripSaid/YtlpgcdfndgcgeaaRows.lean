/-
  No cell of these rows narrows 'for every input' (looked for: loops, veiled, ifaces, maps, wideKeys, modest, calm, conditions, laid).
  DERIVED. THE GIVEN ROWS OF THIS SEAT. 8 by the template 'for every input the law returns true; each argument reads behind the call as it read before'; 0 by the template 'total and deterministic' (their statements: YtlpgcdfndgcgeaaTotals.lean).
  GIVEN WITH THE SEED: the statements are not yours to turn. If you find one false, say at which input.
  Laid BY PROGRAM, IN A SANDBOX (cutbox-rows.mjs): the forced cells as the released guide's own fill.sh prints them over the translation 9c83098cb4cd3f00… (all of the seat's roots in one cut). By AI agents, Wed Nov 11 2026. No macro, syntax, notation, axiom, sorry.
-/
import Derived.Test.YtlpgcdfndgcgeaaChecked
import GoSem.Claim
import GoSem.ClaimJoined
import GoSem.ClaimMapViews
import Derived.JoinedTies
import Derived.KernelRfl
namespace Go.Proofs.Ytlpgcdfndgcgeaa
/- THE CELL 'sum', in the pinned program and in every row, IS THE sha256 OF THE DUMP (.gsa) THAT YtlpgcdfndgcgeaaProg.lean LOADS. Nothing in Lean hashes anything: it is a label: what it is worth is what the hold of that sum in a sandbox is worth. -/
noncomputable def Try.pinned : Pinned := { name := "ytlpgcdfndgcgeaa", sum := "9c83098cb4cd3f00d5272bc7142b45ede337bc7800ba7d3a50f8954a7678635a", checked := Try.checked }
namespace Rows
def none {H : Type} : Left H := { results := [], args := [] }

/-- 'n001_3.FnGetFuncKernel': WHATEVER THE INPUT: true; the input reads as it did. -/
def fnGetFuncKernelSpec : ChangeSpec := { name := "fnGetFuncKernel", fn := fun _ => fun
  | [d1, d2] => { results := [.lit (.bool true)], args := [d1, d2] }
  | _ => none }
def fnGetFuncKernelRow : OpenClaim := { program := "ytlpgcdfndgcgeaa", sum := "9c83098cb4cd3f00d5272bc7142b45ede337bc7800ba7d3a50f8954a7678635a", func := "github.com/itchyny/gojq/n001_3.FnGetFuncKernel", spec := "fnGetFuncKernel", apart := false }
def FnGetFuncKernelSaid : Prop := fnGetFuncKernelRow.holds Try.pinned (OpenSpec.ofChange fnGetFuncKernelSpec)

/-- ITS FALSE NEIGHBOUR: 'it returns false'. Refute it at one input. -/
def fnGetFuncKernelWrong : ChangeSpec := { name := "fnGetFuncKernel", fn := fun _ => fun
  | [d1, d2] => { results := [.lit (.bool false)], args := [d1, d2] }
  | _ => none }
def FnGetFuncKernelWrongFalsely : Prop := fnGetFuncKernelRow.holds Try.pinned (OpenSpec.ofChange fnGetFuncKernelWrong)

/-- 'n001_3.FnOperatorGoStringInjective': WHATEVER THE INPUT: true; the input reads as it did. -/
def fnOperatorGoStringInjectiveSpec : ChangeSpec := { name := "fnOperatorGoStringInjective", fn := fun _ => fun
  | [d1, d2] => { results := [.lit (.bool true)], args := [d1, d2] }
  | _ => none }
def fnOperatorGoStringInjectiveRow : OpenClaim := { program := "ytlpgcdfndgcgeaa", sum := "9c83098cb4cd3f00d5272bc7142b45ede337bc7800ba7d3a50f8954a7678635a", func := "github.com/itchyny/gojq/n001_3.FnOperatorGoStringInjective", spec := "fnOperatorGoStringInjective", unfollowed := true, recurses := true, apart := false }
def FnOperatorGoStringInjectiveSaid : Prop := fnOperatorGoStringInjectiveRow.holds Try.pinned (OpenSpec.ofChange fnOperatorGoStringInjectiveSpec)

/-- ITS FALSE NEIGHBOUR: 'it returns false'. Refute it at one input. -/
def fnOperatorGoStringInjectiveWrong : ChangeSpec := { name := "fnOperatorGoStringInjective", fn := fun _ => fun
  | [d1, d2] => { results := [.lit (.bool false)], args := [d1, d2] }
  | _ => none }
def FnOperatorGoStringInjectiveWrongFalsely : Prop := fnOperatorGoStringInjectiveRow.holds Try.pinned (OpenSpec.ofChange fnOperatorGoStringInjectiveWrong)

/-- 'n001_3.FnTermTypeGoStringInjective': WHATEVER THE INPUT: true; the input reads as it did. -/
def fnTermTypeGoStringInjectiveSpec : ChangeSpec := { name := "fnTermTypeGoStringInjective", fn := fun _ => fun
  | [d1, d2] => { results := [.lit (.bool true)], args := [d1, d2] }
  | _ => none }
def fnTermTypeGoStringInjectiveRow : OpenClaim := { program := "ytlpgcdfndgcgeaa", sum := "9c83098cb4cd3f00d5272bc7142b45ede337bc7800ba7d3a50f8954a7678635a", func := "github.com/itchyny/gojq/n001_3.FnTermTypeGoStringInjective", spec := "fnTermTypeGoStringInjective", unfollowed := true, recurses := true, apart := false }
def FnTermTypeGoStringInjectiveSaid : Prop := fnTermTypeGoStringInjectiveRow.holds Try.pinned (OpenSpec.ofChange fnTermTypeGoStringInjectiveSpec)

/-- ITS FALSE NEIGHBOUR: 'it returns false'. Refute it at one input. -/
def fnTermTypeGoStringInjectiveWrong : ChangeSpec := { name := "fnTermTypeGoStringInjective", fn := fun _ => fun
  | [d1, d2] => { results := [.lit (.bool false)], args := [d1, d2] }
  | _ => none }
def FnTermTypeGoStringInjectiveWrongFalsely : Prop := fnTermTypeGoStringInjectiveRow.holds Try.pinned (OpenSpec.ofChange fnTermTypeGoStringInjectiveWrong)

/-- 'n001_3.FnGetFuncShape': WHATEVER THE INPUT: true; the input reads as it did. -/
def fnGetFuncShapeSpec : ChangeSpec := { name := "fnGetFuncShape", fn := fun _ => fun
  | [d] => { results := [.lit (.bool true)], args := [d] }
  | _ => none }
def fnGetFuncShapeRow : OpenClaim := { program := "ytlpgcdfndgcgeaa", sum := "9c83098cb4cd3f00d5272bc7142b45ede337bc7800ba7d3a50f8954a7678635a", func := "github.com/itchyny/gojq/n001_3.FnGetFuncShape", spec := "fnGetFuncShape", apart := false }
def FnGetFuncShapeSaid : Prop := fnGetFuncShapeRow.holds Try.pinned (OpenSpec.ofChange fnGetFuncShapeSpec)

/-- ITS FALSE NEIGHBOUR: 'it returns false'. Refute it at one input. -/
def fnGetFuncShapeWrong : ChangeSpec := { name := "fnGetFuncShape", fn := fun _ => fun
  | [d] => { results := [.lit (.bool false)], args := [d] }
  | _ => none }
def FnGetFuncShapeWrongFalsely : Prop := fnGetFuncShapeRow.holds Try.pinned (OpenSpec.ofChange fnGetFuncShapeWrong)

/-- 'n001_3.FnQuoteAndEscapeRoundTrip': WHATEVER THE INPUT: true; the input reads as it did. -/
def fnQuoteAndEscapeRoundTripSpec : ChangeSpec := { name := "fnQuoteAndEscapeRoundTrip", fn := fun _ => fun
  | [d1, d2, d3] => { results := [.lit (.bool true)], args := [d1, d2, d3] }
  | _ => none }
def fnQuoteAndEscapeRoundTripRow : OpenClaim := { program := "ytlpgcdfndgcgeaa", sum := "9c83098cb4cd3f00d5272bc7142b45ede337bc7800ba7d3a50f8954a7678635a", func := "github.com/itchyny/gojq/n001_3.FnQuoteAndEscapeRoundTrip", spec := "fnQuoteAndEscapeRoundTrip", apart := false }
def FnQuoteAndEscapeRoundTripSaid : Prop := fnQuoteAndEscapeRoundTripRow.holds Try.pinned (OpenSpec.ofChange fnQuoteAndEscapeRoundTripSpec)

/-- ITS FALSE NEIGHBOUR: 'it returns false'. Refute it at one input. -/
def fnQuoteAndEscapeRoundTripWrong : ChangeSpec := { name := "fnQuoteAndEscapeRoundTrip", fn := fun _ => fun
  | [d1, d2, d3] => { results := [.lit (.bool false)], args := [d1, d2, d3] }
  | _ => none }
def FnQuoteAndEscapeRoundTripWrongFalsely : Prop := fnQuoteAndEscapeRoundTripRow.holds Try.pinned (OpenSpec.ofChange fnQuoteAndEscapeRoundTripWrong)

/-- 'n001_3.FnTermTypeGoStringShape': WHATEVER THE INPUT: true; the input reads as it did. -/
def fnTermTypeGoStringShapeSpec : ChangeSpec := { name := "fnTermTypeGoStringShape", fn := fun _ => fun
  | [d] => { results := [.lit (.bool true)], args := [d] }
  | _ => none }
def fnTermTypeGoStringShapeRow : OpenClaim := { program := "ytlpgcdfndgcgeaa", sum := "9c83098cb4cd3f00d5272bc7142b45ede337bc7800ba7d3a50f8954a7678635a", func := "github.com/itchyny/gojq/n001_3.FnTermTypeGoStringShape", spec := "fnTermTypeGoStringShape", unfollowed := true, recurses := true, apart := false }
def FnTermTypeGoStringShapeSaid : Prop := fnTermTypeGoStringShapeRow.holds Try.pinned (OpenSpec.ofChange fnTermTypeGoStringShapeSpec)

/-- ITS FALSE NEIGHBOUR: 'it returns false'. Refute it at one input. -/
def fnTermTypeGoStringShapeWrong : ChangeSpec := { name := "fnTermTypeGoStringShape", fn := fun _ => fun
  | [d] => { results := [.lit (.bool false)], args := [d] }
  | _ => none }
def FnTermTypeGoStringShapeWrongFalsely : Prop := fnTermTypeGoStringShapeRow.holds Try.pinned (OpenSpec.ofChange fnTermTypeGoStringShapeWrong)

/-- 'n001_3.FnOperatorGoStringShape': WHATEVER THE INPUT: true; the input reads as it did. -/
def fnOperatorGoStringShapeSpec : ChangeSpec := { name := "fnOperatorGoStringShape", fn := fun _ => fun
  | [d] => { results := [.lit (.bool true)], args := [d] }
  | _ => none }
def fnOperatorGoStringShapeRow : OpenClaim := { program := "ytlpgcdfndgcgeaa", sum := "9c83098cb4cd3f00d5272bc7142b45ede337bc7800ba7d3a50f8954a7678635a", func := "github.com/itchyny/gojq/n001_3.FnOperatorGoStringShape", spec := "fnOperatorGoStringShape", unfollowed := true, recurses := true, apart := false }
def FnOperatorGoStringShapeSaid : Prop := fnOperatorGoStringShapeRow.holds Try.pinned (OpenSpec.ofChange fnOperatorGoStringShapeSpec)

/-- ITS FALSE NEIGHBOUR: 'it returns false'. Refute it at one input. -/
def fnOperatorGoStringShapeWrong : ChangeSpec := { name := "fnOperatorGoStringShape", fn := fun _ => fun
  | [d] => { results := [.lit (.bool false)], args := [d] }
  | _ => none }
def FnOperatorGoStringShapeWrongFalsely : Prop := fnOperatorGoStringShapeRow.holds Try.pinned (OpenSpec.ofChange fnOperatorGoStringShapeWrong)

/-- 'n001_3.FnOperatorUpdateAgrees': WHATEVER THE INPUT: true; the input reads as it did. -/
def fnOperatorUpdateAgreesSpec : ChangeSpec := { name := "fnOperatorUpdateAgrees", fn := fun _ => fun
  | [d] => { results := [.lit (.bool true)], args := [d] }
  | _ => none }
def fnOperatorUpdateAgreesRow : OpenClaim := { program := "ytlpgcdfndgcgeaa", sum := "9c83098cb4cd3f00d5272bc7142b45ede337bc7800ba7d3a50f8954a7678635a", func := "github.com/itchyny/gojq/n001_3.FnOperatorUpdateAgrees", spec := "fnOperatorUpdateAgrees", unfollowed := true, recurses := true, apart := false }
def FnOperatorUpdateAgreesSaid : Prop := fnOperatorUpdateAgreesRow.holds Try.pinned (OpenSpec.ofChange fnOperatorUpdateAgreesSpec)

/-- ITS FALSE NEIGHBOUR: 'it returns false'. Refute it at one input. -/
def fnOperatorUpdateAgreesWrong : ChangeSpec := { name := "fnOperatorUpdateAgrees", fn := fun _ => fun
  | [d] => { results := [.lit (.bool false)], args := [d] }
  | _ => none }
def FnOperatorUpdateAgreesWrongFalsely : Prop := fnOperatorUpdateAgreesRow.holds Try.pinned (OpenSpec.ofChange fnOperatorUpdateAgreesWrong)

/- THE SECOND FORM. 'bulk': how many values and letters a reading holds, each counted each time it is reached (what is shared counts as often as it is met; a slice's spare places count too). A statement '..UptoSaid' is the law's where the arguments, and the package variables that the reading takes, are together of bulk at most 1048576: NARROWER than '..Said'. Prove '..Said' where nothing that the law and all that it calls make is longer than what came in: it says more and counts as full. Else prove '..UptoSaid'. A law counts once. -/
mutual
def uptoBulk {H : Type} : DataW H → Nat
  | .lit (.string bytes) => bytes.length + 1
  | .lit _ => 1
  | .nil => 1
  | .ptr d => uptoBulk d + 1
  | .slice elems spare => uptoBulkAll elems + uptoBulkAll spare + 1
  | .agg parts => uptoBulkAll parts + 1
  | .iface _ d => uptoBulk d + 1
  | .map entries => uptoBulkEntries entries + 1
  | .held _ => 1
def uptoBulkAll {H : Type} : List (DataW H) → Nat
  | [] => 0
  | d :: r => uptoBulk d + uptoBulkAll r
def uptoBulkEntries {H : Type} : List (Lit × DataW H) → Nat
  | [] => 0
  | x :: r => uptoBulkEntry x + uptoBulkEntries r
def uptoBulkEntry {H : Type} : Lit × DataW H → Nat
  | (.string bytes, d) => bytes.length + uptoBulk d + 1
  | (_, d) => uptoBulk d + 1
 end
def uptoSmall : (H : Type) → List (DataW H) → Bool := fun _ ds => decide (uptoBulkAll ds ≤ 1048576)
def OpenSpec.upto (s : _root_.Go.ChangeSpec) : _root_.Go.OpenSpec := { _root_.Go.OpenSpec.ofChange s with cond := some uptoSmall }

/-- 'n001_3.FnGetFuncKernel', WHERE WHAT IT READS IS OF BULK AT MOST 1048576: true; the input reads as it did. -/
def fnGetFuncKernelUptoRow : OpenClaim := { program := "ytlpgcdfndgcgeaa", sum := "9c83098cb4cd3f00d5272bc7142b45ede337bc7800ba7d3a50f8954a7678635a", func := "github.com/itchyny/gojq/n001_3.FnGetFuncKernel", spec := "fnGetFuncKernel", apart := false, narrowed := true }
def FnGetFuncKernelUptoSaid : Prop := fnGetFuncKernelUptoRow.holds Try.pinned (OpenSpec.upto fnGetFuncKernelSpec)

/-- 'n001_3.FnOperatorGoStringInjective', WHERE WHAT IT READS IS OF BULK AT MOST 1048576: true; the input reads as it did. -/
def fnOperatorGoStringInjectiveUptoRow : OpenClaim := { program := "ytlpgcdfndgcgeaa", sum := "9c83098cb4cd3f00d5272bc7142b45ede337bc7800ba7d3a50f8954a7678635a", func := "github.com/itchyny/gojq/n001_3.FnOperatorGoStringInjective", spec := "fnOperatorGoStringInjective", unfollowed := true, recurses := true, apart := false, narrowed := true }
def FnOperatorGoStringInjectiveUptoSaid : Prop := fnOperatorGoStringInjectiveUptoRow.holds Try.pinned (OpenSpec.upto fnOperatorGoStringInjectiveSpec)

/-- 'n001_3.FnTermTypeGoStringInjective', WHERE WHAT IT READS IS OF BULK AT MOST 1048576: true; the input reads as it did. -/
def fnTermTypeGoStringInjectiveUptoRow : OpenClaim := { program := "ytlpgcdfndgcgeaa", sum := "9c83098cb4cd3f00d5272bc7142b45ede337bc7800ba7d3a50f8954a7678635a", func := "github.com/itchyny/gojq/n001_3.FnTermTypeGoStringInjective", spec := "fnTermTypeGoStringInjective", unfollowed := true, recurses := true, apart := false, narrowed := true }
def FnTermTypeGoStringInjectiveUptoSaid : Prop := fnTermTypeGoStringInjectiveUptoRow.holds Try.pinned (OpenSpec.upto fnTermTypeGoStringInjectiveSpec)

/-- 'n001_3.FnGetFuncShape', WHERE WHAT IT READS IS OF BULK AT MOST 1048576: true; the input reads as it did. -/
def fnGetFuncShapeUptoRow : OpenClaim := { program := "ytlpgcdfndgcgeaa", sum := "9c83098cb4cd3f00d5272bc7142b45ede337bc7800ba7d3a50f8954a7678635a", func := "github.com/itchyny/gojq/n001_3.FnGetFuncShape", spec := "fnGetFuncShape", apart := false, narrowed := true }
def FnGetFuncShapeUptoSaid : Prop := fnGetFuncShapeUptoRow.holds Try.pinned (OpenSpec.upto fnGetFuncShapeSpec)

/-- 'n001_3.FnQuoteAndEscapeRoundTrip', WHERE WHAT IT READS IS OF BULK AT MOST 1048576: true; the input reads as it did. -/
def fnQuoteAndEscapeRoundTripUptoRow : OpenClaim := { program := "ytlpgcdfndgcgeaa", sum := "9c83098cb4cd3f00d5272bc7142b45ede337bc7800ba7d3a50f8954a7678635a", func := "github.com/itchyny/gojq/n001_3.FnQuoteAndEscapeRoundTrip", spec := "fnQuoteAndEscapeRoundTrip", apart := false, narrowed := true }
def FnQuoteAndEscapeRoundTripUptoSaid : Prop := fnQuoteAndEscapeRoundTripUptoRow.holds Try.pinned (OpenSpec.upto fnQuoteAndEscapeRoundTripSpec)

/-- 'n001_3.FnTermTypeGoStringShape', WHERE WHAT IT READS IS OF BULK AT MOST 1048576: true; the input reads as it did. -/
def fnTermTypeGoStringShapeUptoRow : OpenClaim := { program := "ytlpgcdfndgcgeaa", sum := "9c83098cb4cd3f00d5272bc7142b45ede337bc7800ba7d3a50f8954a7678635a", func := "github.com/itchyny/gojq/n001_3.FnTermTypeGoStringShape", spec := "fnTermTypeGoStringShape", unfollowed := true, recurses := true, apart := false, narrowed := true }
def FnTermTypeGoStringShapeUptoSaid : Prop := fnTermTypeGoStringShapeUptoRow.holds Try.pinned (OpenSpec.upto fnTermTypeGoStringShapeSpec)

/-- 'n001_3.FnOperatorGoStringShape', WHERE WHAT IT READS IS OF BULK AT MOST 1048576: true; the input reads as it did. -/
def fnOperatorGoStringShapeUptoRow : OpenClaim := { program := "ytlpgcdfndgcgeaa", sum := "9c83098cb4cd3f00d5272bc7142b45ede337bc7800ba7d3a50f8954a7678635a", func := "github.com/itchyny/gojq/n001_3.FnOperatorGoStringShape", spec := "fnOperatorGoStringShape", unfollowed := true, recurses := true, apart := false, narrowed := true }
def FnOperatorGoStringShapeUptoSaid : Prop := fnOperatorGoStringShapeUptoRow.holds Try.pinned (OpenSpec.upto fnOperatorGoStringShapeSpec)

/-- 'n001_3.FnOperatorUpdateAgrees', WHERE WHAT IT READS IS OF BULK AT MOST 1048576: true; the input reads as it did. -/
def fnOperatorUpdateAgreesUptoRow : OpenClaim := { program := "ytlpgcdfndgcgeaa", sum := "9c83098cb4cd3f00d5272bc7142b45ede337bc7800ba7d3a50f8954a7678635a", func := "github.com/itchyny/gojq/n001_3.FnOperatorUpdateAgrees", spec := "fnOperatorUpdateAgrees", unfollowed := true, recurses := true, apart := false, narrowed := true }
def FnOperatorUpdateAgreesUptoSaid : Prop := fnOperatorUpdateAgreesUptoRow.holds Try.pinned (OpenSpec.upto fnOperatorUpdateAgreesSpec)

end Rows
end Go.Proofs.Ytlpgcdfndgcgeaa
