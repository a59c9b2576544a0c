/- The walk of the law FnForkScriptMatchesModel: it returns true at every input. -/
import Derived.Test.YtemifkcgmfincaaScriptV
import Derived.Test.YtemifkcgmfincaaScriptN
namespace Go.Proofs.Ytemifkcgmfincaa.fnForkScriptMatchesModel
open Go.ChangeShapes Go.WideShapes Go.ChangeAt Go.RowKit
theorem walk (a0 : Option Addr) (len0 cap0 : Nat) (z0 : List Int) (a1 : Option Addr) (len1 cap1 : Nat) (z1 : List Int) (w : World) (w0 : inp.IsRow .u8 w a0 len0 cap0 z0) (w1 : inp.IsRow .i64 w a1 len1 cap1 z1) :
    Calls Try.prog 4 #[.slice a0 len0 cap0, .slice a1 len1 cap1] w fun e w' => e = .returned (.bool true) ∧ Below w.heap.size w w' := by
  by_cases h : 0 < len1
  · exact scriptv.walk a0 len0 cap0 z0 a1 len1 cap1 z1 w w0 w1 h
  · exact scriptn.walk a0 len0 cap0 z0 a1 len1 cap1 z1 w w0 w1 h
end Go.Proofs.Ytemifkcgmfincaa.fnForkScriptMatchesModel
