/-
  DERIVED. GIVEN WITH THE SEED: THE CARDS: each row of YtbogmmpbmgibnaaDoorRows.lean that lists a variable, with what it lists TIED to the program's text (the seventh form; the later family's looks); each row that meets fmt, with fmt's text TOLD by the authors' own Lean function (tested against real Go, not proved from fmt's source: count such statements apart). THE CARD IS WHAT COUNTS. Prove the row's statement (the work); the ties are given (YtbogmmpbmgibnaaDoorTie.lean); close each card by the builder's one call (the guide's Derived/Test/ToyasCard.lean, 'card_holds'). Laid BY PROGRAM, IN A SANDBOX (cutbox-door.mjs). By AI agents, Wed Nov 11 2026. No macro, syntax, notation, axiom, sorry.
-/
import Derived.Test.YtbogmmpbmgibnaaDoorRows
import GoSem.ClaimSeven
namespace Go.Proofs.YtbogmmpbmgibnaaDoor
namespace Rows

/-- THE TIED CARD OF 'n001_25.FnListModuleDefsIgnoresOrderAndHiddenDefs'. -/
def fnListModuleDefsIgnoresOrderAndHiddenDefsCard : Claim7 := { stood := { row := fnListModuleDefsIgnoresOrderAndHiddenDefsRow, standIns := [], harness := (true, "998743905efb9d59f6b27214adbbc5816d49e4bd58ccc24ff27de6025f7c0651"), looks := true }, kinds := [], alts := [], laidByText := true, laidKinds := [.data, .data, .data], laidTests := true, laidLooks := .later }
def FnListModuleDefsIgnoresOrderAndHiddenDefsCardSaid : Prop := Claim7.holds Tryd.pinned (.plain (OpenSpec.ofChange fnListModuleDefsIgnoresOrderAndHiddenDefsSpec)) fnListModuleDefsIgnoresOrderAndHiddenDefsCard

/-- THE TIED CARD OF 'n001_25.FnListModuleDefsSortedVisibleNameArity'. -/
def fnListModuleDefsSortedVisibleNameArityCard : Claim7 := { stood := { row := fnListModuleDefsSortedVisibleNameArityRow, standIns := [], harness := (true, "998743905efb9d59f6b27214adbbc5816d49e4bd58ccc24ff27de6025f7c0651"), looks := true }, kinds := [], alts := [], laidByText := true, laidKinds := [.data, .data, .data], laidTests := true, laidLooks := .later }
def FnListModuleDefsSortedVisibleNameArityCardSaid : Prop := Claim7.holds Tryd.pinned (.plain (OpenSpec.ofChange fnListModuleDefsSortedVisibleNameAritySpec)) fnListModuleDefsSortedVisibleNameArityCard

/-- THE SECOND FORM's CARD OF 'n001_25.FnListModuleDefsIgnoresOrderAndHiddenDefs'. -/
def fnListModuleDefsIgnoresOrderAndHiddenDefsUptoCard : Claim7 := { stood := { row := fnListModuleDefsIgnoresOrderAndHiddenDefsUptoRow, standIns := [], harness := (true, "998743905efb9d59f6b27214adbbc5816d49e4bd58ccc24ff27de6025f7c0651"), looks := true }, kinds := [], alts := [], laidByText := true, laidKinds := [.data, .data, .data], laidTests := true, laidLooks := .later }
def FnListModuleDefsIgnoresOrderAndHiddenDefsUptoCardSaid : Prop := Claim7.holds Tryd.pinned (.plain (OpenSpec.upto fnListModuleDefsIgnoresOrderAndHiddenDefsSpec)) fnListModuleDefsIgnoresOrderAndHiddenDefsUptoCard

/-- THE SECOND FORM's CARD OF 'n001_25.FnListModuleDefsSortedVisibleNameArity'. -/
def fnListModuleDefsSortedVisibleNameArityUptoCard : Claim7 := { stood := { row := fnListModuleDefsSortedVisibleNameArityUptoRow, standIns := [], harness := (true, "998743905efb9d59f6b27214adbbc5816d49e4bd58ccc24ff27de6025f7c0651"), looks := true }, kinds := [], alts := [], laidByText := true, laidKinds := [.data, .data, .data], laidTests := true, laidLooks := .later }
def FnListModuleDefsSortedVisibleNameArityUptoCardSaid : Prop := Claim7.holds Tryd.pinned (.plain (OpenSpec.upto fnListModuleDefsSortedVisibleNameAritySpec)) fnListModuleDefsSortedVisibleNameArityUptoCard
end Rows
end Go.Proofs.YtbogmmpbmgibnaaDoor
