/-
  No cell of these rows narrows 'for every input' (looked for: loops, veiled, ifaces, maps, wideKeys, modest, calm, conditions, laid).
  DERIVED. THE GIVEN ROWS OF THIS SEAT. 3 by the template 'for every input the law returns true; each argument reads behind the call as it read before'; 0 by the template 'total and deterministic' (their statements: YtifejbimmffjaaaTotals.lean).
  GIVEN WITH THE SEED: the statements are not yours to turn. If you find one false, say at which input.
  Laid BY PROGRAM, IN A SANDBOX (cutbox-rows.mjs): the forced cells as the released guide's own fill.sh prints them over the translation b93a21b7e9f7dc0f… (all of the seat's roots in one cut). By AI agents, Wed Nov 11 2026. No macro, syntax, notation, axiom, sorry.
-/
import Derived.Test.YtifejbimmffjaaaChecked
import GoSem.Claim
import GoSem.ClaimJoined
import GoSem.ClaimMapViews
import Derived.JoinedTies
import Derived.KernelRfl
namespace Go.Proofs.Ytifejbimmffjaaa
/- THE CELL 'sum', in the pinned program and in every row, IS THE sha256 OF THE DUMP (.gsa) THAT YtifejbimmffjaaaProg.lean LOADS. Nothing in Lean hashes anything: it is a label: what it is worth is what the hold of that sum in a sandbox is worth. -/
noncomputable def Try.pinned : Pinned := { name := "ytifejbimmffjaaa", sum := "b93a21b7e9f7dc0f964ae87f50748bbc65fd8fffd34db3479d2e6aba186df857", checked := Try.checked }
namespace Rows
def none {H : Type} : Left H := { results := [], args := [] }

/-- 'n001_19.FnNegateIntExact': WHATEVER THE INPUT: true; the input reads as it did. -/
def fnNegateIntExactSpec : ChangeSpec := { name := "fnNegateIntExact", fn := fun _ => fun
  | [d] => { results := [.lit (.bool true)], args := [d] }
  | _ => none }
def fnNegateIntExactRow : OpenClaim := { program := "ytifejbimmffjaaa", sum := "b93a21b7e9f7dc0f964ae87f50748bbc65fd8fffd34db3479d2e6aba186df857", func := "github.com/itchyny/gojq/n001_19.FnNegateIntExact", spec := "fnNegateIntExact", apart := false }
def FnNegateIntExactSaid : Prop := fnNegateIntExactRow.holds Try.pinned (OpenSpec.ofChange fnNegateIntExactSpec)

/-- ITS FALSE NEIGHBOUR: 'it returns false'. Refute it at one input. -/
def fnNegateIntExactWrong : ChangeSpec := { name := "fnNegateIntExact", fn := fun _ => fun
  | [d] => { results := [.lit (.bool false)], args := [d] }
  | _ => none }
def FnNegateIntExactWrongFalsely : Prop := fnNegateIntExactRow.holds Try.pinned (OpenSpec.ofChange fnNegateIntExactWrong)

/-- 'n001_19.FnNegateFloatFlipsSign': WHATEVER THE INPUT: true; the input reads as it did. -/
def fnNegateFloatFlipsSignSpec : ChangeSpec := { name := "fnNegateFloatFlipsSign", fn := fun _ => fun
  | [d] => { results := [.lit (.bool true)], args := [d] }
  | _ => none }
def fnNegateFloatFlipsSignRow : OpenClaim := { program := "ytifejbimmffjaaa", sum := "b93a21b7e9f7dc0f964ae87f50748bbc65fd8fffd34db3479d2e6aba186df857", func := "github.com/itchyny/gojq/n001_19.FnNegateFloatFlipsSign", spec := "fnNegateFloatFlipsSign", inPlace := ["math.Float64bits"], apart := false }
def FnNegateFloatFlipsSignSaid : Prop := fnNegateFloatFlipsSignRow.holds Try.pinned (OpenSpec.ofChange fnNegateFloatFlipsSignSpec)

/-- ITS FALSE NEIGHBOUR: 'it returns false'. Refute it at one input. -/
def fnNegateFloatFlipsSignWrong : ChangeSpec := { name := "fnNegateFloatFlipsSign", fn := fun _ => fun
  | [d] => { results := [.lit (.bool false)], args := [d] }
  | _ => none }
def FnNegateFloatFlipsSignWrongFalsely : Prop := fnNegateFloatFlipsSignRow.holds Try.pinned (OpenSpec.ofChange fnNegateFloatFlipsSignWrong)

/-- 'n001_19.FnNegateIntTwiceRoundTrip': WHATEVER THE INPUT: true; the input reads as it did. -/
def fnNegateIntTwiceRoundTripSpec : ChangeSpec := { name := "fnNegateIntTwiceRoundTrip", fn := fun _ => fun
  | [d] => { results := [.lit (.bool true)], args := [d] }
  | _ => none }
def fnNegateIntTwiceRoundTripRow : OpenClaim := { program := "ytifejbimmffjaaa", sum := "b93a21b7e9f7dc0f964ae87f50748bbc65fd8fffd34db3479d2e6aba186df857", func := "github.com/itchyny/gojq/n001_19.FnNegateIntTwiceRoundTrip", spec := "fnNegateIntTwiceRoundTrip", apart := false }
def FnNegateIntTwiceRoundTripSaid : Prop := fnNegateIntTwiceRoundTripRow.holds Try.pinned (OpenSpec.ofChange fnNegateIntTwiceRoundTripSpec)

/-- ITS FALSE NEIGHBOUR: 'it returns false'. Refute it at one input. -/
def fnNegateIntTwiceRoundTripWrong : ChangeSpec := { name := "fnNegateIntTwiceRoundTrip", fn := fun _ => fun
  | [d] => { results := [.lit (.bool false)], args := [d] }
  | _ => none }
def FnNegateIntTwiceRoundTripWrongFalsely : Prop := fnNegateIntTwiceRoundTripRow.holds Try.pinned (OpenSpec.ofChange fnNegateIntTwiceRoundTripWrong)

/- THE SECOND FORM. 'bulk': how many values and letters a reading holds, each counted each time it is reached (what is shared counts as often as it is met; a slice's spare places count too). A statement '..UptoSaid' is the law's where the arguments, and the package variables that the reading takes, are together of bulk at most 1048576: NARROWER than '..Said'. Prove '..Said' where nothing that the law and all that it calls make is longer than what came in: it says more and counts as full. Else prove '..UptoSaid'. A law counts once. -/
mutual
def uptoBulk {H : Type} : DataW H → Nat
  | .lit (.string bytes) => bytes.length + 1
  | .lit _ => 1
  | .nil => 1
  | .ptr d => uptoBulk d + 1
  | .slice elems spare => uptoBulkAll elems + uptoBulkAll spare + 1
  | .agg parts => uptoBulkAll parts + 1
  | .iface _ d => uptoBulk d + 1
  | .map entries => uptoBulkEntries entries + 1
  | .held _ => 1
def uptoBulkAll {H : Type} : List (DataW H) → Nat
  | [] => 0
  | d :: r => uptoBulk d + uptoBulkAll r
def uptoBulkEntries {H : Type} : List (Lit × DataW H) → Nat
  | [] => 0
  | x :: r => uptoBulkEntry x + uptoBulkEntries r
def uptoBulkEntry {H : Type} : Lit × DataW H → Nat
  | (.string bytes, d) => bytes.length + uptoBulk d + 1
  | (_, d) => uptoBulk d + 1
 end
def uptoSmall : (H : Type) → List (DataW H) → Bool := fun _ ds => decide (uptoBulkAll ds ≤ 1048576)
def OpenSpec.upto (s : _root_.Go.ChangeSpec) : _root_.Go.OpenSpec := { _root_.Go.OpenSpec.ofChange s with cond := some uptoSmall }

/-- 'n001_19.FnNegateIntExact', WHERE WHAT IT READS IS OF BULK AT MOST 1048576: true; the input reads as it did. -/
def fnNegateIntExactUptoRow : OpenClaim := { program := "ytifejbimmffjaaa", sum := "b93a21b7e9f7dc0f964ae87f50748bbc65fd8fffd34db3479d2e6aba186df857", func := "github.com/itchyny/gojq/n001_19.FnNegateIntExact", spec := "fnNegateIntExact", apart := false, narrowed := true }
def FnNegateIntExactUptoSaid : Prop := fnNegateIntExactUptoRow.holds Try.pinned (OpenSpec.upto fnNegateIntExactSpec)

/-- 'n001_19.FnNegateFloatFlipsSign', WHERE WHAT IT READS IS OF BULK AT MOST 1048576: true; the input reads as it did. -/
def fnNegateFloatFlipsSignUptoRow : OpenClaim := { program := "ytifejbimmffjaaa", sum := "b93a21b7e9f7dc0f964ae87f50748bbc65fd8fffd34db3479d2e6aba186df857", func := "github.com/itchyny/gojq/n001_19.FnNegateFloatFlipsSign", spec := "fnNegateFloatFlipsSign", inPlace := ["math.Float64bits"], apart := false, narrowed := true }
def FnNegateFloatFlipsSignUptoSaid : Prop := fnNegateFloatFlipsSignUptoRow.holds Try.pinned (OpenSpec.upto fnNegateFloatFlipsSignSpec)

/-- 'n001_19.FnNegateIntTwiceRoundTrip', WHERE WHAT IT READS IS OF BULK AT MOST 1048576: true; the input reads as it did. -/
def fnNegateIntTwiceRoundTripUptoRow : OpenClaim := { program := "ytifejbimmffjaaa", sum := "b93a21b7e9f7dc0f964ae87f50748bbc65fd8fffd34db3479d2e6aba186df857", func := "github.com/itchyny/gojq/n001_19.FnNegateIntTwiceRoundTrip", spec := "fnNegateIntTwiceRoundTrip", apart := false, narrowed := true }
def FnNegateIntTwiceRoundTripUptoSaid : Prop := fnNegateIntTwiceRoundTripUptoRow.holds Try.pinned (OpenSpec.upto fnNegateIntTwiceRoundTripSpec)

end Rows
end Go.Proofs.Ytifejbimmffjaaa
