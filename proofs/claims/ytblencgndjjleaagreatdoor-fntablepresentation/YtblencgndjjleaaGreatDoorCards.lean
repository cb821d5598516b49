/-
  DERIVED. GIVEN WITH THE SEED: THE CARDS: each row of YtblencgndjjleaaGreatDoorRows.lean that lists a variable, with what it lists TIED to the program's text (the seventh form; the later family's looks); each row that meets fmt, with fmt's text TOLD by the authors' own Lean function (tested against real Go, not proved from fmt's source: count such statements apart). THE CARD IS WHAT COUNTS. Prove the row's statement (the work); the ties are given (YtblencgndjjleaaGreatDoorTie.lean); close each card by the builder's one call (the guide's Derived/Test/ToyasCard.lean, 'card_holds'). Laid BY PROGRAM, IN A SANDBOX (cutbox-door.mjs). By AI agents, Wed Nov 11 2026. No macro, syntax, notation, axiom, sorry.
-/
import Derived.Test.YtblencgndjjleaaGreatDoorRows
import GoSem.ClaimSeven
namespace Go.Proofs.YtblencgndjjleaaGreatDoor
namespace Rows

/-- THE TIED CARD OF 'laws.FnTablePresentation'. -/
def fnTablePresentationCard : Claim7 := { stood := { row := fnTablePresentationRow, standIns := [], harness := (true, "226e4ee718937884aa592886ee3daf95310d82c8c34ac904bb84cafdc892cb93"), looks := true }, kinds := [], alts := [], laidByText := true, laidKinds := [.listed], laidTests := true, laidLooks := .later }
def FnTablePresentationCardSaid : Prop := Claim7.holds Tryz.pinned (.plain (OpenSpec.ofChange fnTablePresentationSpec)) fnTablePresentationCard

/-- THE SECOND FORM's CARD OF 'laws.FnTablePresentation'. -/
def fnTablePresentationUptoCard : Claim7 := { stood := { row := fnTablePresentationUptoRow, standIns := [], harness := (true, "226e4ee718937884aa592886ee3daf95310d82c8c34ac904bb84cafdc892cb93"), looks := true }, kinds := [], alts := [], laidByText := true, laidKinds := [.listed], laidTests := true, laidLooks := .later }
def FnTablePresentationUptoCardSaid : Prop := Claim7.holds Tryz.pinned (.plain (OpenSpec.upto fnTablePresentationSpec)) fnTablePresentationUptoCard
end Rows
end Go.Proofs.YtblencgndjjleaaGreatDoor
