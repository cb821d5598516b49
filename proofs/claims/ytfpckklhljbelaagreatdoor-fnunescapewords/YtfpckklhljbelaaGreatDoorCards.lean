/-
  DERIVED. GIVEN WITH THE SEED: THE CARDS: each row of YtfpckklhljbelaaGreatDoorRows.lean that lists a variable, with what it lists TIED to the program's text (the seventh form; the later family's looks); each row that meets fmt, with fmt's text TOLD by the authors' own Lean function (tested against real Go, not proved from fmt's source: count such statements apart). THE CARD IS WHAT COUNTS. Prove the row's statement (the work); the ties are given (YtfpckklhljbelaaGreatDoorTie.lean); close each card by the builder's one call (the guide's Derived/Test/ToyasCard.lean, 'card_holds'). Laid BY PROGRAM, IN A SANDBOX (cutbox-door.mjs). By AI agents, Wed Nov 11 2026. No macro, syntax, notation, axiom, sorry.
-/
import Derived.Test.YtfpckklhljbelaaGreatDoorRows
import GoSem.ClaimSeven
namespace Go.Proofs.YtfpckklhljbelaaGreatDoor
namespace Rows

/-- THE TIED CARD OF 'laws.FnEscape'. -/
def fnEscapeCard : Claim7 := { stood := { row := fnEscapeRow, standIns := [], harness := (true, "9d5f53bbc504fa0148d6fd5f46459182e419da25d9a967ef6186ba32f8ab4548"), looks := true }, kinds := [], alts := [], laidByText := true, laidKinds := [.data, .pinned], laidTests := true, laidLooks := .later }
def FnEscapeCardSaid : Prop := Claim7.holds Tryz.pinned (.plain (OpenSpec.ofChange fnEscapeSpec)) fnEscapeCard

/-- THE TIED CARD OF 'laws.FnUnescapeWords'. -/
def fnUnescapeWordsCard : Claim7 := { stood := { row := fnUnescapeWordsRow, standIns := [], harness := (true, "9d5f53bbc504fa0148d6fd5f46459182e419da25d9a967ef6186ba32f8ab4548"), looks := true }, kinds := [], alts := [], laidByText := true, laidKinds := [.data, .pinned], laidTests := true, laidLooks := .later }
def FnUnescapeWordsCardSaid : Prop := Claim7.holds Tryz.pinned (.plain (OpenSpec.ofChange fnUnescapeWordsSpec)) fnUnescapeWordsCard

/-- THE SECOND FORM's CARD OF 'laws.FnEscape'. -/
def fnEscapeUptoCard : Claim7 := { stood := { row := fnEscapeUptoRow, standIns := [], harness := (true, "9d5f53bbc504fa0148d6fd5f46459182e419da25d9a967ef6186ba32f8ab4548"), looks := true }, kinds := [], alts := [], laidByText := true, laidKinds := [.data, .pinned], laidTests := true, laidLooks := .later }
def FnEscapeUptoCardSaid : Prop := Claim7.holds Tryz.pinned (.plain (OpenSpec.upto fnEscapeSpec)) fnEscapeUptoCard

/-- THE SECOND FORM's CARD OF 'laws.FnUnescapeWords'. -/
def fnUnescapeWordsUptoCard : Claim7 := { stood := { row := fnUnescapeWordsUptoRow, standIns := [], harness := (true, "9d5f53bbc504fa0148d6fd5f46459182e419da25d9a967ef6186ba32f8ab4548"), looks := true }, kinds := [], alts := [], laidByText := true, laidKinds := [.data, .pinned], laidTests := true, laidLooks := .later }
def FnUnescapeWordsUptoCardSaid : Prop := Claim7.holds Tryz.pinned (.plain (OpenSpec.upto fnUnescapeWordsSpec)) fnUnescapeWordsUptoCard
end Rows
end Go.Proofs.YtfpckklhljbelaaGreatDoor
