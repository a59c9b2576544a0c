/-
  No cell of these rows narrows 'for every input' (looked for: loops, veiled, ifaces, maps, wideKeys, modest, calm, conditions, laid).
  DERIVED. THE GIVEN ROWS OF THIS SEAT. 8 by the template 'for every input the law returns true; each argument reads behind the call as it read before'; 0 by the template 'total and deterministic' (their statements: YtbfnbcjinnomlaaTotals.lean).
  GIVEN WITH THE SEED: the statements are not yours to turn. If you find one false, say at which input.
  Laid BY PROGRAM, IN A SANDBOX (cutbox-rows.mjs): the forced cells as the released guide's own fill.sh prints them over the translation 8b8e42558120552d… (all of the seat's roots in one cut). By AI agents, Wed Nov 11 2026. No macro, syntax, notation, axiom, sorry.
-/
import Derived.Test.YtbfnbcjinnomlaaChecked
import GoSem.Claim
import GoSem.ClaimJoined
import GoSem.ClaimMapViews
import Derived.JoinedTies
import Derived.KernelRfl
namespace Go.Proofs.Ytbfnbcjinnomlaa
/- THE CELL 'sum', in the pinned program and in every row, IS THE sha256 OF THE DUMP (.gsa) THAT YtbfnbcjinnomlaaProg.lean LOADS. Nothing in Lean hashes anything: it is a label: what it is worth is what the hold of that sum in a sandbox is worth. -/
noncomputable def Try.pinned : Pinned := { name := "ytbfnbcjinnomlaa", sum := "8b8e42558120552db087a006ac3a839505c4c0afb8c0aef4106fb2152862aa29", checked := Try.checked }
namespace Rows
def none {H : Type} : Left H := { results := [], args := [] }

/-- 'n001_24.FnAcceptIsBitTest': WHATEVER THE INPUT: true; the input reads as it did. -/
def fnAcceptIsBitTestSpec : ChangeSpec := { name := "fnAcceptIsBitTest", fn := fun _ => fun
  | [d1, d2] => { results := [.lit (.bool true)], args := [d1, d2] }
  | _ => none }
def fnAcceptIsBitTestRow : OpenClaim := { program := "ytbfnbcjinnomlaa", sum := "8b8e42558120552db087a006ac3a839505c4c0afb8c0aef4106fb2152862aa29", func := "github.com/itchyny/gojq/n001_24.FnAcceptIsBitTest", spec := "fnAcceptIsBitTest", apart := false }
def FnAcceptIsBitTestSaid : Prop := fnAcceptIsBitTestRow.holds Try.pinned (OpenSpec.ofChange fnAcceptIsBitTestSpec)

/-- ITS FALSE NEIGHBOUR: 'it returns false'. Refute it at one input. -/
def fnAcceptIsBitTestWrong : ChangeSpec := { name := "fnAcceptIsBitTest", fn := fun _ => fun
  | [d1, d2] => { results := [.lit (.bool false)], args := [d1, d2] }
  | _ => none }
def FnAcceptIsBitTestWrongFalsely : Prop := fnAcceptIsBitTestRow.holds Try.pinned (OpenSpec.ofChange fnAcceptIsBitTestWrong)

/-- 'n001_2.FnClampIndexIdempotent': WHATEVER THE INPUT: true; the input reads as it did. -/
def fnClampIndexIdempotentSpec : ChangeSpec := { name := "fnClampIndexIdempotent", fn := fun _ => fun
  | [d1, d2, d3] => { results := [.lit (.bool true)], args := [d1, d2, d3] }
  | _ => none }
def fnClampIndexIdempotentRow : OpenClaim := { program := "ytbfnbcjinnomlaa", sum := "8b8e42558120552db087a006ac3a839505c4c0afb8c0aef4106fb2152862aa29", func := "github.com/itchyny/gojq/n001_2.FnClampIndexIdempotent", spec := "fnClampIndexIdempotent", apart := false }
def FnClampIndexIdempotentSaid : Prop := fnClampIndexIdempotentRow.holds Try.pinned (OpenSpec.ofChange fnClampIndexIdempotentSpec)

/-- ITS FALSE NEIGHBOUR: 'it returns false'. Refute it at one input. -/
def fnClampIndexIdempotentWrong : ChangeSpec := { name := "fnClampIndexIdempotent", fn := fun _ => fun
  | [d1, d2, d3] => { results := [.lit (.bool false)], args := [d1, d2, d3] }
  | _ => none }
def FnClampIndexIdempotentWrongFalsely : Prop := fnClampIndexIdempotentRow.holds Try.pinned (OpenSpec.ofChange fnClampIndexIdempotentWrong)

/-- 'n001_24.FnArgFunc0Arity': WHATEVER THE INPUT: true; the input reads as it did. -/
def fnArgFunc0AritySpec : ChangeSpec := { name := "fnArgFunc0Arity", fn := fun _ => fun
  | [d] => { results := [.lit (.bool true)], args := [d] }
  | _ => none }
def fnArgFunc0ArityRow : OpenClaim := { program := "ytbfnbcjinnomlaa", sum := "8b8e42558120552db087a006ac3a839505c4c0afb8c0aef4106fb2152862aa29", func := "github.com/itchyny/gojq/n001_24.FnArgFunc0Arity", spec := "fnArgFunc0Arity", unfollowed := true, recurses := true, apart := false }
def FnArgFunc0AritySaid : Prop := fnArgFunc0ArityRow.holds Try.pinned (OpenSpec.ofChange fnArgFunc0AritySpec)

/-- ITS FALSE NEIGHBOUR: 'it returns false'. Refute it at one input. -/
def fnArgFunc0ArityWrong : ChangeSpec := { name := "fnArgFunc0Arity", fn := fun _ => fun
  | [d] => { results := [.lit (.bool false)], args := [d] }
  | _ => none }
def FnArgFunc0ArityWrongFalsely : Prop := fnArgFunc0ArityRow.holds Try.pinned (OpenSpec.ofChange fnArgFunc0ArityWrong)

/-- 'n001_24.FnArgFunc1Arity': WHATEVER THE INPUT: true; the input reads as it did. -/
def fnArgFunc1AritySpec : ChangeSpec := { name := "fnArgFunc1Arity", fn := fun _ => fun
  | [d] => { results := [.lit (.bool true)], args := [d] }
  | _ => none }
def fnArgFunc1ArityRow : OpenClaim := { program := "ytbfnbcjinnomlaa", sum := "8b8e42558120552db087a006ac3a839505c4c0afb8c0aef4106fb2152862aa29", func := "github.com/itchyny/gojq/n001_24.FnArgFunc1Arity", spec := "fnArgFunc1Arity", unfollowed := true, recurses := true, apart := false }
def FnArgFunc1AritySaid : Prop := fnArgFunc1ArityRow.holds Try.pinned (OpenSpec.ofChange fnArgFunc1AritySpec)

/-- ITS FALSE NEIGHBOUR: 'it returns false'. Refute it at one input. -/
def fnArgFunc1ArityWrong : ChangeSpec := { name := "fnArgFunc1Arity", fn := fun _ => fun
  | [d] => { results := [.lit (.bool false)], args := [d] }
  | _ => none }
def FnArgFunc1ArityWrongFalsely : Prop := fnArgFunc1ArityRow.holds Try.pinned (OpenSpec.ofChange fnArgFunc1ArityWrong)

/-- 'n001_24.FnAcceptUnionIntersection': WHATEVER THE INPUT: true; the input reads as it did. -/
def fnAcceptUnionIntersectionSpec : ChangeSpec := { name := "fnAcceptUnionIntersection", fn := fun _ => fun
  | [d1, d2, d3] => { results := [.lit (.bool true)], args := [d1, d2, d3] }
  | _ => none }
def fnAcceptUnionIntersectionRow : OpenClaim := { program := "ytbfnbcjinnomlaa", sum := "8b8e42558120552db087a006ac3a839505c4c0afb8c0aef4106fb2152862aa29", func := "github.com/itchyny/gojq/n001_24.FnAcceptUnionIntersection", spec := "fnAcceptUnionIntersection", apart := false }
def FnAcceptUnionIntersectionSaid : Prop := fnAcceptUnionIntersectionRow.holds Try.pinned (OpenSpec.ofChange fnAcceptUnionIntersectionSpec)

/-- ITS FALSE NEIGHBOUR: 'it returns false'. Refute it at one input. -/
def fnAcceptUnionIntersectionWrong : ChangeSpec := { name := "fnAcceptUnionIntersection", fn := fun _ => fun
  | [d1, d2, d3] => { results := [.lit (.bool false)], args := [d1, d2, d3] }
  | _ => none }
def FnAcceptUnionIntersectionWrongFalsely : Prop := fnAcceptUnionIntersectionRow.holds Try.pinned (OpenSpec.ofChange fnAcceptUnionIntersectionWrong)

/-- 'n001_2.FnClampIndexWithinBounds': WHATEVER THE INPUT: true; the input reads as it did. -/
def fnClampIndexWithinBoundsSpec : ChangeSpec := { name := "fnClampIndexWithinBounds", fn := fun _ => fun
  | [d1, d2, d3] => { results := [.lit (.bool true)], args := [d1, d2, d3] }
  | _ => none }
def fnClampIndexWithinBoundsRow : OpenClaim := { program := "ytbfnbcjinnomlaa", sum := "8b8e42558120552db087a006ac3a839505c4c0afb8c0aef4106fb2152862aa29", func := "github.com/itchyny/gojq/n001_2.FnClampIndexWithinBounds", spec := "fnClampIndexWithinBounds", apart := false }
def FnClampIndexWithinBoundsSaid : Prop := fnClampIndexWithinBoundsRow.holds Try.pinned (OpenSpec.ofChange fnClampIndexWithinBoundsSpec)

/-- ITS FALSE NEIGHBOUR: 'it returns false'. Refute it at one input. -/
def fnClampIndexWithinBoundsWrong : ChangeSpec := { name := "fnClampIndexWithinBounds", fn := fun _ => fun
  | [d1, d2, d3] => { results := [.lit (.bool false)], args := [d1, d2, d3] }
  | _ => none }
def FnClampIndexWithinBoundsWrongFalsely : Prop := fnClampIndexWithinBoundsRow.holds Try.pinned (OpenSpec.ofChange fnClampIndexWithinBoundsWrong)

/-- 'n001_24.FnArgFunc0CallsFOnInput': WHATEVER THE INPUT: true; the input reads as it did. -/
def fnArgFunc0CallsFOnInputSpec : ChangeSpec := { name := "fnArgFunc0CallsFOnInput", fn := fun _ => fun
  | [d1, d2] => { results := [.lit (.bool true)], args := [d1, d2] }
  | _ => none }
def fnArgFunc0CallsFOnInputRow : OpenClaim := { program := "ytbfnbcjinnomlaa", sum := "8b8e42558120552db087a006ac3a839505c4c0afb8c0aef4106fb2152862aa29", func := "github.com/itchyny/gojq/n001_24.FnArgFunc0CallsFOnInput", spec := "fnArgFunc0CallsFOnInput", unfollowed := true, recurses := true, apart := false }
def FnArgFunc0CallsFOnInputSaid : Prop := fnArgFunc0CallsFOnInputRow.holds Try.pinned (OpenSpec.ofChange fnArgFunc0CallsFOnInputSpec)

/-- ITS FALSE NEIGHBOUR: 'it returns false'. Refute it at one input. -/
def fnArgFunc0CallsFOnInputWrong : ChangeSpec := { name := "fnArgFunc0CallsFOnInput", fn := fun _ => fun
  | [d1, d2] => { results := [.lit (.bool false)], args := [d1, d2] }
  | _ => none }
def FnArgFunc0CallsFOnInputWrongFalsely : Prop := fnArgFunc0CallsFOnInputRow.holds Try.pinned (OpenSpec.ofChange fnArgFunc0CallsFOnInputWrong)

/-- 'n001_24.FnArgFunc1CallsFWithFirstArg': WHATEVER THE INPUT: true; the input reads as it did. -/
def fnArgFunc1CallsFWithFirstArgSpec : ChangeSpec := { name := "fnArgFunc1CallsFWithFirstArg", fn := fun _ => fun
  | [d1, d2, d3] => { results := [.lit (.bool true)], args := [d1, d2, d3] }
  | _ => none }
def fnArgFunc1CallsFWithFirstArgRow : OpenClaim := { program := "ytbfnbcjinnomlaa", sum := "8b8e42558120552db087a006ac3a839505c4c0afb8c0aef4106fb2152862aa29", func := "github.com/itchyny/gojq/n001_24.FnArgFunc1CallsFWithFirstArg", spec := "fnArgFunc1CallsFWithFirstArg", unfollowed := true, recurses := true, apart := false }
def FnArgFunc1CallsFWithFirstArgSaid : Prop := fnArgFunc1CallsFWithFirstArgRow.holds Try.pinned (OpenSpec.ofChange fnArgFunc1CallsFWithFirstArgSpec)

/-- ITS FALSE NEIGHBOUR: 'it returns false'. Refute it at one input. -/
def fnArgFunc1CallsFWithFirstArgWrong : ChangeSpec := { name := "fnArgFunc1CallsFWithFirstArg", fn := fun _ => fun
  | [d1, d2, d3] => { results := [.lit (.bool false)], args := [d1, d2, d3] }
  | _ => none }
def FnArgFunc1CallsFWithFirstArgWrongFalsely : Prop := fnArgFunc1CallsFWithFirstArgRow.holds Try.pinned (OpenSpec.ofChange fnArgFunc1CallsFWithFirstArgWrong)

/- THE SECOND FORM. 'bulk': how many values and letters a reading holds, each counted each time it is reached (what is shared counts as often as it is met; a slice's spare places count too). A statement '..UptoSaid' is the law's where the arguments, and the package variables that the reading takes, are together of bulk at most 1048576: NARROWER than '..Said'. Prove '..Said' where nothing that the law and all that it calls make is longer than what came in: it says more and counts as full. Else prove '..UptoSaid'. A law counts once. -/
mutual
def uptoBulk {H : Type} : DataW H → Nat
  | .lit (.string bytes) => bytes.length + 1
  | .lit _ => 1
  | .nil => 1
  | .ptr d => uptoBulk d + 1
  | .slice elems spare => uptoBulkAll elems + uptoBulkAll spare + 1
  | .agg parts => uptoBulkAll parts + 1
  | .iface _ d => uptoBulk d + 1
  | .map entries => uptoBulkEntries entries + 1
  | .held _ => 1
def uptoBulkAll {H : Type} : List (DataW H) → Nat
  | [] => 0
  | d :: r => uptoBulk d + uptoBulkAll r
def uptoBulkEntries {H : Type} : List (Lit × DataW H) → Nat
  | [] => 0
  | x :: r => uptoBulkEntry x + uptoBulkEntries r
def uptoBulkEntry {H : Type} : Lit × DataW H → Nat
  | (.string bytes, d) => bytes.length + uptoBulk d + 1
  | (_, d) => uptoBulk d + 1
 end
def uptoSmall : (H : Type) → List (DataW H) → Bool := fun _ ds => decide (uptoBulkAll ds ≤ 1048576)
def OpenSpec.upto (s : _root_.Go.ChangeSpec) : _root_.Go.OpenSpec := { _root_.Go.OpenSpec.ofChange s with cond := some uptoSmall }

/-- 'n001_24.FnAcceptIsBitTest', WHERE WHAT IT READS IS OF BULK AT MOST 1048576: true; the input reads as it did. -/
def fnAcceptIsBitTestUptoRow : OpenClaim := { program := "ytbfnbcjinnomlaa", sum := "8b8e42558120552db087a006ac3a839505c4c0afb8c0aef4106fb2152862aa29", func := "github.com/itchyny/gojq/n001_24.FnAcceptIsBitTest", spec := "fnAcceptIsBitTest", apart := false, narrowed := true }
def FnAcceptIsBitTestUptoSaid : Prop := fnAcceptIsBitTestUptoRow.holds Try.pinned (OpenSpec.upto fnAcceptIsBitTestSpec)

/-- 'n001_2.FnClampIndexIdempotent', WHERE WHAT IT READS IS OF BULK AT MOST 1048576: true; the input reads as it did. -/
def fnClampIndexIdempotentUptoRow : OpenClaim := { program := "ytbfnbcjinnomlaa", sum := "8b8e42558120552db087a006ac3a839505c4c0afb8c0aef4106fb2152862aa29", func := "github.com/itchyny/gojq/n001_2.FnClampIndexIdempotent", spec := "fnClampIndexIdempotent", apart := false, narrowed := true }
def FnClampIndexIdempotentUptoSaid : Prop := fnClampIndexIdempotentUptoRow.holds Try.pinned (OpenSpec.upto fnClampIndexIdempotentSpec)

/-- 'n001_24.FnArgFunc0Arity', WHERE WHAT IT READS IS OF BULK AT MOST 1048576: true; the input reads as it did. -/
def fnArgFunc0ArityUptoRow : OpenClaim := { program := "ytbfnbcjinnomlaa", sum := "8b8e42558120552db087a006ac3a839505c4c0afb8c0aef4106fb2152862aa29", func := "github.com/itchyny/gojq/n001_24.FnArgFunc0Arity", spec := "fnArgFunc0Arity", unfollowed := true, recurses := true, apart := false, narrowed := true }
def FnArgFunc0ArityUptoSaid : Prop := fnArgFunc0ArityUptoRow.holds Try.pinned (OpenSpec.upto fnArgFunc0AritySpec)

/-- 'n001_24.FnArgFunc1Arity', WHERE WHAT IT READS IS OF BULK AT MOST 1048576: true; the input reads as it did. -/
def fnArgFunc1ArityUptoRow : OpenClaim := { program := "ytbfnbcjinnomlaa", sum := "8b8e42558120552db087a006ac3a839505c4c0afb8c0aef4106fb2152862aa29", func := "github.com/itchyny/gojq/n001_24.FnArgFunc1Arity", spec := "fnArgFunc1Arity", unfollowed := true, recurses := true, apart := false, narrowed := true }
def FnArgFunc1ArityUptoSaid : Prop := fnArgFunc1ArityUptoRow.holds Try.pinned (OpenSpec.upto fnArgFunc1AritySpec)

/-- 'n001_24.FnAcceptUnionIntersection', WHERE WHAT IT READS IS OF BULK AT MOST 1048576: true; the input reads as it did. -/
def fnAcceptUnionIntersectionUptoRow : OpenClaim := { program := "ytbfnbcjinnomlaa", sum := "8b8e42558120552db087a006ac3a839505c4c0afb8c0aef4106fb2152862aa29", func := "github.com/itchyny/gojq/n001_24.FnAcceptUnionIntersection", spec := "fnAcceptUnionIntersection", apart := false, narrowed := true }
def FnAcceptUnionIntersectionUptoSaid : Prop := fnAcceptUnionIntersectionUptoRow.holds Try.pinned (OpenSpec.upto fnAcceptUnionIntersectionSpec)

/-- 'n001_2.FnClampIndexWithinBounds', WHERE WHAT IT READS IS OF BULK AT MOST 1048576: true; the input reads as it did. -/
def fnClampIndexWithinBoundsUptoRow : OpenClaim := { program := "ytbfnbcjinnomlaa", sum := "8b8e42558120552db087a006ac3a839505c4c0afb8c0aef4106fb2152862aa29", func := "github.com/itchyny/gojq/n001_2.FnClampIndexWithinBounds", spec := "fnClampIndexWithinBounds", apart := false, narrowed := true }
def FnClampIndexWithinBoundsUptoSaid : Prop := fnClampIndexWithinBoundsUptoRow.holds Try.pinned (OpenSpec.upto fnClampIndexWithinBoundsSpec)

/-- 'n001_24.FnArgFunc0CallsFOnInput', WHERE WHAT IT READS IS OF BULK AT MOST 1048576: true; the input reads as it did. -/
def fnArgFunc0CallsFOnInputUptoRow : OpenClaim := { program := "ytbfnbcjinnomlaa", sum := "8b8e42558120552db087a006ac3a839505c4c0afb8c0aef4106fb2152862aa29", func := "github.com/itchyny/gojq/n001_24.FnArgFunc0CallsFOnInput", spec := "fnArgFunc0CallsFOnInput", unfollowed := true, recurses := true, apart := false, narrowed := true }
def FnArgFunc0CallsFOnInputUptoSaid : Prop := fnArgFunc0CallsFOnInputUptoRow.holds Try.pinned (OpenSpec.upto fnArgFunc0CallsFOnInputSpec)

/-- 'n001_24.FnArgFunc1CallsFWithFirstArg', WHERE WHAT IT READS IS OF BULK AT MOST 1048576: true; the input reads as it did. -/
def fnArgFunc1CallsFWithFirstArgUptoRow : OpenClaim := { program := "ytbfnbcjinnomlaa", sum := "8b8e42558120552db087a006ac3a839505c4c0afb8c0aef4106fb2152862aa29", func := "github.com/itchyny/gojq/n001_24.FnArgFunc1CallsFWithFirstArg", spec := "fnArgFunc1CallsFWithFirstArg", unfollowed := true, recurses := true, apart := false, narrowed := true }
def FnArgFunc1CallsFWithFirstArgUptoSaid : Prop := fnArgFunc1CallsFWithFirstArgUptoRow.holds Try.pinned (OpenSpec.upto fnArgFunc1CallsFWithFirstArgSpec)

end Rows
end Go.Proofs.Ytbfnbcjinnomlaa
