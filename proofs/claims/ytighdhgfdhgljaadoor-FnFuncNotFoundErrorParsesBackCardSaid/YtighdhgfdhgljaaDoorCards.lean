/-
  DERIVED. GIVEN WITH THE SEED: THE CARDS: each row of YtighdhgfdhgljaaDoorRows.lean that lists a variable, with what it lists TIED to the program's text (the seventh form; the later family's looks); each row that meets fmt, with fmt's text TOLD by the authors' own Lean function (tested against real Go, not proved from fmt's source: count such statements apart). THE CARD IS WHAT COUNTS. Prove the row's statement (the work); the ties are given (YtighdhgfdhgljaaDoorTie.lean); close each card by the builder's one call (the guide's Derived/Test/ToyasCard.lean, 'card_holds'). Laid BY PROGRAM, IN A SANDBOX (cutbox-door.mjs). By AI agents, Wed Nov 11 2026. No macro, syntax, notation, axiom, sorry.
-/
import Derived.Test.YtighdhgfdhgljaaDoorRows
import GoSem.ClaimSeven
namespace Go.Proofs.YtighdhgfdhgljaaDoor
namespace Rows

/-- THE TIED CARD OF 'n001_20.FnFuncNotFoundErrorParsesBack'. -/
def fnFuncNotFoundErrorParsesBackCard : Claim7 := { stood := { row := fnFuncNotFoundErrorParsesBackRow, standIns := [], harness := (true, "54655b5a130e237c738ace8e520d527f2b6c3223cc3f778cfbeea67319ec118e"), looks := false }, kinds := [], alts := [], laidByText := true, laidKinds := [.data, .data, .data], laidTests := true, laidLooks := .later }
def FnFuncNotFoundErrorParsesBackCardSaid : Prop := Claim7.holds Tryd.pinned (.plain (OpenSpec.ofChange fnFuncNotFoundErrorParsesBackSpec)) fnFuncNotFoundErrorParsesBackCard

/-- THE SECOND FORM's CARD OF 'n001_20.FnFuncNotFoundErrorParsesBack'. -/
def fnFuncNotFoundErrorParsesBackUptoCard : Claim7 := { stood := { row := fnFuncNotFoundErrorParsesBackUptoRow, standIns := [], harness := (true, "54655b5a130e237c738ace8e520d527f2b6c3223cc3f778cfbeea67319ec118e"), looks := false }, kinds := [], alts := [], laidByText := true, laidKinds := [.data, .data, .data], laidTests := true, laidLooks := .later }
def FnFuncNotFoundErrorParsesBackUptoCardSaid : Prop := Claim7.holds Tryd.pinned (.plain (OpenSpec.upto fnFuncNotFoundErrorParsesBackSpec)) fnFuncNotFoundErrorParsesBackUptoCard
end Rows
end Go.Proofs.YtighdhgfdhgljaaDoor
