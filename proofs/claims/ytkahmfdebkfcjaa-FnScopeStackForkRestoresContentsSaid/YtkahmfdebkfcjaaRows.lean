/-
  No cell of these rows narrows 'for every input' (looked for: loops, veiled, ifaces, maps, wideKeys, modest, calm, conditions, laid).
  DERIVED. THE GIVEN ROWS OF THIS SEAT. 3 by the template 'for every input the law returns true; each argument reads behind the call as it read before'; 0 by the template 'total and deterministic' (their statements: YtkahmfdebkfcjaaTotals.lean).
  GIVEN WITH THE SEED: the statements are not yours to turn. If you find one false, say at which input.
  Laid BY PROGRAM, IN A SANDBOX (cutbox-rows.mjs): the forced cells as the released guide's own fill.sh prints them over the translation 136ead4dc6612154… (all of the seat's roots in one cut). By AI agents, Wed Nov 11 2026. No macro, syntax, notation, axiom, sorry.
-/
import Derived.Test.YtkahmfdebkfcjaaChecked
import GoSem.Claim
import GoSem.ClaimJoined
import GoSem.ClaimMapViews
import Derived.JoinedTies
import Derived.KernelRfl
namespace Go.Proofs.Ytkahmfdebkfcjaa
/- THE CELL 'sum', in the pinned program and in every row, IS THE sha256 OF THE DUMP (.gsa) THAT YtkahmfdebkfcjaaProg.lean LOADS. Nothing in Lean hashes anything: it is a label: what it is worth is what the hold of that sum in a sandbox is worth. -/
noncomputable def Try.pinned : Pinned := { name := "ytkahmfdebkfcjaa", sum := "136ead4dc66121546436ff60b1c89a90b51de3a9ff331affd3c5a275acdc85c2", checked := Try.checked }
namespace Rows
def none {H : Type} : Left H := { results := [], args := [] }

/-- 'n001_23.FnScopeStackAgreesWithPersistentList': WHATEVER THE INPUT: true; the input reads as it did. -/
def fnScopeStackAgreesWithPersistentListSpec : ChangeSpec := { name := "fnScopeStackAgreesWithPersistentList", fn := fun _ => fun
  | [d] => { results := [.lit (.bool true)], args := [d] }
  | _ => none }
def fnScopeStackAgreesWithPersistentListRow : OpenClaim := { program := "ytkahmfdebkfcjaa", sum := "136ead4dc66121546436ff60b1c89a90b51de3a9ff331affd3c5a275acdc85c2", func := "github.com/itchyny/gojq/n001_23.FnScopeStackAgreesWithPersistentList", spec := "fnScopeStackAgreesWithPersistentList", apart := false }
def FnScopeStackAgreesWithPersistentListSaid : Prop := fnScopeStackAgreesWithPersistentListRow.holds Try.pinned (OpenSpec.ofChange fnScopeStackAgreesWithPersistentListSpec)

/-- ITS FALSE NEIGHBOUR: 'it returns false'. Refute it at one input. -/
def fnScopeStackAgreesWithPersistentListWrong : ChangeSpec := { name := "fnScopeStackAgreesWithPersistentList", fn := fun _ => fun
  | [d] => { results := [.lit (.bool false)], args := [d] }
  | _ => none }
def FnScopeStackAgreesWithPersistentListWrongFalsely : Prop := fnScopeStackAgreesWithPersistentListRow.holds Try.pinned (OpenSpec.ofChange fnScopeStackAgreesWithPersistentListWrong)

/-- 'n001_23.FnScopeStackSaveRestoreRoundTrip': WHATEVER THE INPUT: true; the input reads as it did. -/
def fnScopeStackSaveRestoreRoundTripSpec : ChangeSpec := { name := "fnScopeStackSaveRestoreRoundTrip", fn := fun _ => fun
  | [d] => { results := [.lit (.bool true)], args := [d] }
  | _ => none }
def fnScopeStackSaveRestoreRoundTripRow : OpenClaim := { program := "ytkahmfdebkfcjaa", sum := "136ead4dc66121546436ff60b1c89a90b51de3a9ff331affd3c5a275acdc85c2", func := "github.com/itchyny/gojq/n001_23.FnScopeStackSaveRestoreRoundTrip", spec := "fnScopeStackSaveRestoreRoundTrip", apart := false }
def FnScopeStackSaveRestoreRoundTripSaid : Prop := fnScopeStackSaveRestoreRoundTripRow.holds Try.pinned (OpenSpec.ofChange fnScopeStackSaveRestoreRoundTripSpec)

/-- ITS FALSE NEIGHBOUR: 'it returns false'. Refute it at one input. -/
def fnScopeStackSaveRestoreRoundTripWrong : ChangeSpec := { name := "fnScopeStackSaveRestoreRoundTrip", fn := fun _ => fun
  | [d] => { results := [.lit (.bool false)], args := [d] }
  | _ => none }
def FnScopeStackSaveRestoreRoundTripWrongFalsely : Prop := fnScopeStackSaveRestoreRoundTripRow.holds Try.pinned (OpenSpec.ofChange fnScopeStackSaveRestoreRoundTripWrong)

/-- 'n001_23.FnScopeStackForkRestoresContents': WHATEVER THE INPUT: true; the input reads as it did. -/
def fnScopeStackForkRestoresContentsSpec : ChangeSpec := { name := "fnScopeStackForkRestoresContents", fn := fun _ => fun
  | [d1, d2] => { results := [.lit (.bool true)], args := [d1, d2] }
  | _ => none }
def fnScopeStackForkRestoresContentsRow : OpenClaim := { program := "ytkahmfdebkfcjaa", sum := "136ead4dc66121546436ff60b1c89a90b51de3a9ff331affd3c5a275acdc85c2", func := "github.com/itchyny/gojq/n001_23.FnScopeStackForkRestoresContents", spec := "fnScopeStackForkRestoresContents", apart := false }
def FnScopeStackForkRestoresContentsSaid : Prop := fnScopeStackForkRestoresContentsRow.holds Try.pinned (OpenSpec.ofChange fnScopeStackForkRestoresContentsSpec)

/-- ITS FALSE NEIGHBOUR: 'it returns false'. Refute it at one input. -/
def fnScopeStackForkRestoresContentsWrong : ChangeSpec := { name := "fnScopeStackForkRestoresContents", fn := fun _ => fun
  | [d1, d2] => { results := [.lit (.bool false)], args := [d1, d2] }
  | _ => none }
def FnScopeStackForkRestoresContentsWrongFalsely : Prop := fnScopeStackForkRestoresContentsRow.holds Try.pinned (OpenSpec.ofChange fnScopeStackForkRestoresContentsWrong)

/- THE SECOND FORM. 'bulk': how many values and letters a reading holds, each counted each time it is reached (what is shared counts as often as it is met; a slice's spare places count too). A statement '..UptoSaid' is the law's where the arguments, and the package variables that the reading takes, are together of bulk at most 1048576: NARROWER than '..Said'. Prove '..Said' where nothing that the law and all that it calls make is longer than what came in: it says more and counts as full. Else prove '..UptoSaid'. A law counts once. -/
mutual
def uptoBulk {H : Type} : DataW H → Nat
  | .lit (.string bytes) => bytes.length + 1
  | .lit _ => 1
  | .nil => 1
  | .ptr d => uptoBulk d + 1
  | .slice elems spare => uptoBulkAll elems + uptoBulkAll spare + 1
  | .agg parts => uptoBulkAll parts + 1
  | .iface _ d => uptoBulk d + 1
  | .map entries => uptoBulkEntries entries + 1
  | .held _ => 1
def uptoBulkAll {H : Type} : List (DataW H) → Nat
  | [] => 0
  | d :: r => uptoBulk d + uptoBulkAll r
def uptoBulkEntries {H : Type} : List (Lit × DataW H) → Nat
  | [] => 0
  | x :: r => uptoBulkEntry x + uptoBulkEntries r
def uptoBulkEntry {H : Type} : Lit × DataW H → Nat
  | (.string bytes, d) => bytes.length + uptoBulk d + 1
  | (_, d) => uptoBulk d + 1
 end
def uptoSmall : (H : Type) → List (DataW H) → Bool := fun _ ds => decide (uptoBulkAll ds ≤ 1048576)
def OpenSpec.upto (s : _root_.Go.ChangeSpec) : _root_.Go.OpenSpec := { _root_.Go.OpenSpec.ofChange s with cond := some uptoSmall }

/-- 'n001_23.FnScopeStackAgreesWithPersistentList', WHERE WHAT IT READS IS OF BULK AT MOST 1048576: true; the input reads as it did. -/
def fnScopeStackAgreesWithPersistentListUptoRow : OpenClaim := { program := "ytkahmfdebkfcjaa", sum := "136ead4dc66121546436ff60b1c89a90b51de3a9ff331affd3c5a275acdc85c2", func := "github.com/itchyny/gojq/n001_23.FnScopeStackAgreesWithPersistentList", spec := "fnScopeStackAgreesWithPersistentList", apart := false, narrowed := true }
def FnScopeStackAgreesWithPersistentListUptoSaid : Prop := fnScopeStackAgreesWithPersistentListUptoRow.holds Try.pinned (OpenSpec.upto fnScopeStackAgreesWithPersistentListSpec)

/-- 'n001_23.FnScopeStackSaveRestoreRoundTrip', WHERE WHAT IT READS IS OF BULK AT MOST 1048576: true; the input reads as it did. -/
def fnScopeStackSaveRestoreRoundTripUptoRow : OpenClaim := { program := "ytkahmfdebkfcjaa", sum := "136ead4dc66121546436ff60b1c89a90b51de3a9ff331affd3c5a275acdc85c2", func := "github.com/itchyny/gojq/n001_23.FnScopeStackSaveRestoreRoundTrip", spec := "fnScopeStackSaveRestoreRoundTrip", apart := false, narrowed := true }
def FnScopeStackSaveRestoreRoundTripUptoSaid : Prop := fnScopeStackSaveRestoreRoundTripUptoRow.holds Try.pinned (OpenSpec.upto fnScopeStackSaveRestoreRoundTripSpec)

/-- 'n001_23.FnScopeStackForkRestoresContents', WHERE WHAT IT READS IS OF BULK AT MOST 1048576: true; the input reads as it did. -/
def fnScopeStackForkRestoresContentsUptoRow : OpenClaim := { program := "ytkahmfdebkfcjaa", sum := "136ead4dc66121546436ff60b1c89a90b51de3a9ff331affd3c5a275acdc85c2", func := "github.com/itchyny/gojq/n001_23.FnScopeStackForkRestoresContents", spec := "fnScopeStackForkRestoresContents", apart := false, narrowed := true }
def FnScopeStackForkRestoresContentsUptoSaid : Prop := fnScopeStackForkRestoresContentsUptoRow.holds Try.pinned (OpenSpec.upto fnScopeStackForkRestoresContentsSpec)

end Rows
end Go.Proofs.Ytkahmfdebkfcjaa
