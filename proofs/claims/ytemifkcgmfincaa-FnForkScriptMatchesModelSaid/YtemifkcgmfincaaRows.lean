/-
  No cell of these rows narrows 'for every input' (looked for: loops, veiled, ifaces, maps, wideKeys, modest, calm, conditions, laid).
  DERIVED. THE GIVEN ROWS OF THIS SEAT. 6 by the template 'for every input the law returns true; each argument reads behind the call as it read before'; 0 by the template 'total and deterministic' (their statements: YtemifkcgmfincaaTotals.lean).
  GIVEN WITH THE SEED: the statements are not yours to turn. If you find one false, say at which input.
  Laid BY PROGRAM, IN A SANDBOX (cutbox-rows.mjs): the forced cells as the released guide's own fill.sh prints them over the translation 484b82eee94f79a7… (all of the seat's roots in one cut). By AI agents, Wed Nov 11 2026. No macro, syntax, notation, axiom, sorry.
-/
import Derived.Test.YtemifkcgmfincaaChecked
import GoSem.Claim
import GoSem.ClaimJoined
import GoSem.ClaimMapViews
import Derived.JoinedTies
import Derived.KernelRfl
namespace Go.Proofs.Ytemifkcgmfincaa
/- THE CELL 'sum', in the pinned program and in every row, IS THE sha256 OF THE DUMP (.gsa) THAT YtemifkcgmfincaaProg.lean LOADS. Nothing in Lean hashes anything: it is a label: what it is worth is what the hold of that sum in a sandbox is worth. -/
noncomputable def Try.pinned : Pinned := { name := "ytemifkcgmfincaa", sum := "484b82eee94f79a7cb06a142ecf64251830d811a6fedc28b1dafa5bcfab90072", checked := Try.checked }
namespace Rows
def none {H : Type} : Left H := { results := [], args := [] }

/-- 'n001_18.FnPopforkUndoesEverythingSincePushfork': WHATEVER THE INPUT: true; the input reads as it did. -/
def fnPopforkUndoesEverythingSincePushforkSpec : ChangeSpec := { name := "fnPopforkUndoesEverythingSincePushfork", fn := fun _ => fun
  | [d1, d2, d3, d4, d5, d6] => { results := [.lit (.bool true)], args := [d1, d2, d3, d4, d5, d6] }
  | _ => none }
def fnPopforkUndoesEverythingSincePushforkRow : OpenClaim := { program := "ytemifkcgmfincaa", sum := "484b82eee94f79a7cb06a142ecf64251830d811a6fedc28b1dafa5bcfab90072", func := "github.com/itchyny/gojq/n001_18.FnPopforkUndoesEverythingSincePushfork", spec := "fnPopforkUndoesEverythingSincePushfork", apart := false }
def FnPopforkUndoesEverythingSincePushforkSaid : Prop := fnPopforkUndoesEverythingSincePushforkRow.holds Try.pinned (OpenSpec.ofChange fnPopforkUndoesEverythingSincePushforkSpec)

/-- ITS FALSE NEIGHBOUR: 'it returns false'. Refute it at one input. -/
def fnPopforkUndoesEverythingSincePushforkWrong : ChangeSpec := { name := "fnPopforkUndoesEverythingSincePushfork", fn := fun _ => fun
  | [d1, d2, d3, d4, d5, d6] => { results := [.lit (.bool false)], args := [d1, d2, d3, d4, d5, d6] }
  | _ => none }
def FnPopforkUndoesEverythingSincePushforkWrongFalsely : Prop := fnPopforkUndoesEverythingSincePushforkRow.holds Try.pinned (OpenSpec.ofChange fnPopforkUndoesEverythingSincePushforkWrong)

/-- 'n001_18.FnForkScriptMatchesModel': WHATEVER THE INPUT: true; the input reads as it did. -/
def fnForkScriptMatchesModelSpec : ChangeSpec := { name := "fnForkScriptMatchesModel", fn := fun _ => fun
  | [d1, d2] => { results := [.lit (.bool true)], args := [d1, d2] }
  | _ => none }
def fnForkScriptMatchesModelRow : OpenClaim := { program := "ytemifkcgmfincaa", sum := "484b82eee94f79a7cb06a142ecf64251830d811a6fedc28b1dafa5bcfab90072", func := "github.com/itchyny/gojq/n001_18.FnForkScriptMatchesModel", spec := "fnForkScriptMatchesModel", apart := false }
def FnForkScriptMatchesModelSaid : Prop := fnForkScriptMatchesModelRow.holds Try.pinned (OpenSpec.ofChange fnForkScriptMatchesModelSpec)

/-- ITS FALSE NEIGHBOUR: 'it returns false'. Refute it at one input. -/
def fnForkScriptMatchesModelWrong : ChangeSpec := { name := "fnForkScriptMatchesModel", fn := fun _ => fun
  | [d1, d2] => { results := [.lit (.bool false)], args := [d1, d2] }
  | _ => none }
def FnForkScriptMatchesModelWrongFalsely : Prop := fnForkScriptMatchesModelRow.holds Try.pinned (OpenSpec.ofChange fnForkScriptMatchesModelWrong)

/-- 'n001_18.FnIndexIgnoresScopesOffTheChain': WHATEVER THE INPUT: true; the input reads as it did. -/
def fnIndexIgnoresScopesOffTheChainSpec : ChangeSpec := { name := "fnIndexIgnoresScopesOffTheChain", fn := fun _ => fun
  | [d1, d2, d3] => { results := [.lit (.bool true)], args := [d1, d2, d3] }
  | _ => none }
def fnIndexIgnoresScopesOffTheChainRow : OpenClaim := { program := "ytemifkcgmfincaa", sum := "484b82eee94f79a7cb06a142ecf64251830d811a6fedc28b1dafa5bcfab90072", func := "github.com/itchyny/gojq/n001_18.FnIndexIgnoresScopesOffTheChain", spec := "fnIndexIgnoresScopesOffTheChain", apart := false }
def FnIndexIgnoresScopesOffTheChainSaid : Prop := fnIndexIgnoresScopesOffTheChainRow.holds Try.pinned (OpenSpec.ofChange fnIndexIgnoresScopesOffTheChainSpec)

/-- ITS FALSE NEIGHBOUR: 'it returns false'. Refute it at one input. -/
def fnIndexIgnoresScopesOffTheChainWrong : ChangeSpec := { name := "fnIndexIgnoresScopesOffTheChain", fn := fun _ => fun
  | [d1, d2, d3] => { results := [.lit (.bool false)], args := [d1, d2, d3] }
  | _ => none }
def FnIndexIgnoresScopesOffTheChainWrongFalsely : Prop := fnIndexIgnoresScopesOffTheChainRow.holds Try.pinned (OpenSpec.ofChange fnIndexIgnoresScopesOffTheChainWrong)

/-- 'n001_18.FnPopforkReturnsForksInReverseOrder': WHATEVER THE INPUT: true; the input reads as it did. -/
def fnPopforkReturnsForksInReverseOrderSpec : ChangeSpec := { name := "fnPopforkReturnsForksInReverseOrder", fn := fun _ => fun
  | [d] => { results := [.lit (.bool true)], args := [d] }
  | _ => none }
def fnPopforkReturnsForksInReverseOrderRow : OpenClaim := { program := "ytemifkcgmfincaa", sum := "484b82eee94f79a7cb06a142ecf64251830d811a6fedc28b1dafa5bcfab90072", func := "github.com/itchyny/gojq/n001_18.FnPopforkReturnsForksInReverseOrder", spec := "fnPopforkReturnsForksInReverseOrder", apart := false }
def FnPopforkReturnsForksInReverseOrderSaid : Prop := fnPopforkReturnsForksInReverseOrderRow.holds Try.pinned (OpenSpec.ofChange fnPopforkReturnsForksInReverseOrderSpec)

/-- ITS FALSE NEIGHBOUR: 'it returns false'. Refute it at one input. -/
def fnPopforkReturnsForksInReverseOrderWrong : ChangeSpec := { name := "fnPopforkReturnsForksInReverseOrder", fn := fun _ => fun
  | [d] => { results := [.lit (.bool false)], args := [d] }
  | _ => none }
def FnPopforkReturnsForksInReverseOrderWrongFalsely : Prop := fnPopforkReturnsForksInReverseOrderRow.holds Try.pinned (OpenSpec.ofChange fnPopforkReturnsForksInReverseOrderWrong)

/-- 'n001_18.FnPopscopeFreesNoScopeBelowAFork': WHATEVER THE INPUT: true; the input reads as it did. -/
def fnPopscopeFreesNoScopeBelowAForkSpec : ChangeSpec := { name := "fnPopscopeFreesNoScopeBelowAFork", fn := fun _ => fun
  | [d1, d2, d3] => { results := [.lit (.bool true)], args := [d1, d2, d3] }
  | _ => none }
def fnPopscopeFreesNoScopeBelowAForkRow : OpenClaim := { program := "ytemifkcgmfincaa", sum := "484b82eee94f79a7cb06a142ecf64251830d811a6fedc28b1dafa5bcfab90072", func := "github.com/itchyny/gojq/n001_18.FnPopscopeFreesNoScopeBelowAFork", spec := "fnPopscopeFreesNoScopeBelowAFork", apart := false }
def FnPopscopeFreesNoScopeBelowAForkSaid : Prop := fnPopscopeFreesNoScopeBelowAForkRow.holds Try.pinned (OpenSpec.ofChange fnPopscopeFreesNoScopeBelowAForkSpec)

/-- ITS FALSE NEIGHBOUR: 'it returns false'. Refute it at one input. -/
def fnPopscopeFreesNoScopeBelowAForkWrong : ChangeSpec := { name := "fnPopscopeFreesNoScopeBelowAFork", fn := fun _ => fun
  | [d1, d2, d3] => { results := [.lit (.bool false)], args := [d1, d2, d3] }
  | _ => none }
def FnPopscopeFreesNoScopeBelowAForkWrongFalsely : Prop := fnPopscopeFreesNoScopeBelowAForkRow.holds Try.pinned (OpenSpec.ofChange fnPopscopeFreesNoScopeBelowAForkWrong)

/-- 'n001_18.FnPopscopeIsLIFOWithoutForks': WHATEVER THE INPUT: true; the input reads as it did. -/
def fnPopscopeIsLIFOWithoutForksSpec : ChangeSpec := { name := "fnPopscopeIsLIFOWithoutForks", fn := fun _ => fun
  | [d1, d2] => { results := [.lit (.bool true)], args := [d1, d2] }
  | _ => none }
def fnPopscopeIsLIFOWithoutForksRow : OpenClaim := { program := "ytemifkcgmfincaa", sum := "484b82eee94f79a7cb06a142ecf64251830d811a6fedc28b1dafa5bcfab90072", func := "github.com/itchyny/gojq/n001_18.FnPopscopeIsLIFOWithoutForks", spec := "fnPopscopeIsLIFOWithoutForks", apart := false }
def FnPopscopeIsLIFOWithoutForksSaid : Prop := fnPopscopeIsLIFOWithoutForksRow.holds Try.pinned (OpenSpec.ofChange fnPopscopeIsLIFOWithoutForksSpec)

/-- ITS FALSE NEIGHBOUR: 'it returns false'. Refute it at one input. -/
def fnPopscopeIsLIFOWithoutForksWrong : ChangeSpec := { name := "fnPopscopeIsLIFOWithoutForks", fn := fun _ => fun
  | [d1, d2] => { results := [.lit (.bool false)], args := [d1, d2] }
  | _ => none }
def FnPopscopeIsLIFOWithoutForksWrongFalsely : Prop := fnPopscopeIsLIFOWithoutForksRow.holds Try.pinned (OpenSpec.ofChange fnPopscopeIsLIFOWithoutForksWrong)

/- THE SECOND FORM. 'bulk': how many values and letters a reading holds, each counted each time it is reached (what is shared counts as often as it is met; a slice's spare places count too). A statement '..UptoSaid' is the law's where the arguments, and the package variables that the reading takes, are together of bulk at most 1048576: NARROWER than '..Said'. Prove '..Said' where nothing that the law and all that it calls make is longer than what came in: it says more and counts as full. Else prove '..UptoSaid'. A law counts once. -/
mutual
def uptoBulk {H : Type} : DataW H → Nat
  | .lit (.string bytes) => bytes.length + 1
  | .lit _ => 1
  | .nil => 1
  | .ptr d => uptoBulk d + 1
  | .slice elems spare => uptoBulkAll elems + uptoBulkAll spare + 1
  | .agg parts => uptoBulkAll parts + 1
  | .iface _ d => uptoBulk d + 1
  | .map entries => uptoBulkEntries entries + 1
  | .held _ => 1
def uptoBulkAll {H : Type} : List (DataW H) → Nat
  | [] => 0
  | d :: r => uptoBulk d + uptoBulkAll r
def uptoBulkEntries {H : Type} : List (Lit × DataW H) → Nat
  | [] => 0
  | x :: r => uptoBulkEntry x + uptoBulkEntries r
def uptoBulkEntry {H : Type} : Lit × DataW H → Nat
  | (.string bytes, d) => bytes.length + uptoBulk d + 1
  | (_, d) => uptoBulk d + 1
 end
def uptoSmall : (H : Type) → List (DataW H) → Bool := fun _ ds => decide (uptoBulkAll ds ≤ 1048576)
def OpenSpec.upto (s : _root_.Go.ChangeSpec) : _root_.Go.OpenSpec := { _root_.Go.OpenSpec.ofChange s with cond := some uptoSmall }

/-- 'n001_18.FnPopforkUndoesEverythingSincePushfork', WHERE WHAT IT READS IS OF BULK AT MOST 1048576: true; the input reads as it did. -/
def fnPopforkUndoesEverythingSincePushforkUptoRow : OpenClaim := { program := "ytemifkcgmfincaa", sum := "484b82eee94f79a7cb06a142ecf64251830d811a6fedc28b1dafa5bcfab90072", func := "github.com/itchyny/gojq/n001_18.FnPopforkUndoesEverythingSincePushfork", spec := "fnPopforkUndoesEverythingSincePushfork", apart := false, narrowed := true }
def FnPopforkUndoesEverythingSincePushforkUptoSaid : Prop := fnPopforkUndoesEverythingSincePushforkUptoRow.holds Try.pinned (OpenSpec.upto fnPopforkUndoesEverythingSincePushforkSpec)

/-- 'n001_18.FnForkScriptMatchesModel', WHERE WHAT IT READS IS OF BULK AT MOST 1048576: true; the input reads as it did. -/
def fnForkScriptMatchesModelUptoRow : OpenClaim := { program := "ytemifkcgmfincaa", sum := "484b82eee94f79a7cb06a142ecf64251830d811a6fedc28b1dafa5bcfab90072", func := "github.com/itchyny/gojq/n001_18.FnForkScriptMatchesModel", spec := "fnForkScriptMatchesModel", apart := false, narrowed := true }
def FnForkScriptMatchesModelUptoSaid : Prop := fnForkScriptMatchesModelUptoRow.holds Try.pinned (OpenSpec.upto fnForkScriptMatchesModelSpec)

/-- 'n001_18.FnIndexIgnoresScopesOffTheChain', WHERE WHAT IT READS IS OF BULK AT MOST 1048576: true; the input reads as it did. -/
def fnIndexIgnoresScopesOffTheChainUptoRow : OpenClaim := { program := "ytemifkcgmfincaa", sum := "484b82eee94f79a7cb06a142ecf64251830d811a6fedc28b1dafa5bcfab90072", func := "github.com/itchyny/gojq/n001_18.FnIndexIgnoresScopesOffTheChain", spec := "fnIndexIgnoresScopesOffTheChain", apart := false, narrowed := true }
def FnIndexIgnoresScopesOffTheChainUptoSaid : Prop := fnIndexIgnoresScopesOffTheChainUptoRow.holds Try.pinned (OpenSpec.upto fnIndexIgnoresScopesOffTheChainSpec)

/-- 'n001_18.FnPopforkReturnsForksInReverseOrder', WHERE WHAT IT READS IS OF BULK AT MOST 1048576: true; the input reads as it did. -/
def fnPopforkReturnsForksInReverseOrderUptoRow : OpenClaim := { program := "ytemifkcgmfincaa", sum := "484b82eee94f79a7cb06a142ecf64251830d811a6fedc28b1dafa5bcfab90072", func := "github.com/itchyny/gojq/n001_18.FnPopforkReturnsForksInReverseOrder", spec := "fnPopforkReturnsForksInReverseOrder", apart := false, narrowed := true }
def FnPopforkReturnsForksInReverseOrderUptoSaid : Prop := fnPopforkReturnsForksInReverseOrderUptoRow.holds Try.pinned (OpenSpec.upto fnPopforkReturnsForksInReverseOrderSpec)

/-- 'n001_18.FnPopscopeFreesNoScopeBelowAFork', WHERE WHAT IT READS IS OF BULK AT MOST 1048576: true; the input reads as it did. -/
def fnPopscopeFreesNoScopeBelowAForkUptoRow : OpenClaim := { program := "ytemifkcgmfincaa", sum := "484b82eee94f79a7cb06a142ecf64251830d811a6fedc28b1dafa5bcfab90072", func := "github.com/itchyny/gojq/n001_18.FnPopscopeFreesNoScopeBelowAFork", spec := "fnPopscopeFreesNoScopeBelowAFork", apart := false, narrowed := true }
def FnPopscopeFreesNoScopeBelowAForkUptoSaid : Prop := fnPopscopeFreesNoScopeBelowAForkUptoRow.holds Try.pinned (OpenSpec.upto fnPopscopeFreesNoScopeBelowAForkSpec)

/-- 'n001_18.FnPopscopeIsLIFOWithoutForks', WHERE WHAT IT READS IS OF BULK AT MOST 1048576: true; the input reads as it did. -/
def fnPopscopeIsLIFOWithoutForksUptoRow : OpenClaim := { program := "ytemifkcgmfincaa", sum := "484b82eee94f79a7cb06a142ecf64251830d811a6fedc28b1dafa5bcfab90072", func := "github.com/itchyny/gojq/n001_18.FnPopscopeIsLIFOWithoutForks", spec := "fnPopscopeIsLIFOWithoutForks", apart := false, narrowed := true }
def FnPopscopeIsLIFOWithoutForksUptoSaid : Prop := fnPopscopeIsLIFOWithoutForksUptoRow.holds Try.pinned (OpenSpec.upto fnPopscopeIsLIFOWithoutForksSpec)

end Rows
end Go.Proofs.Ytemifkcgmfincaa
