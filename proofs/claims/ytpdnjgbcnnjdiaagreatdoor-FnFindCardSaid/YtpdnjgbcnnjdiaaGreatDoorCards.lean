/-
  DERIVED. GIVEN WITH THE SEED: THE CARDS: each row of YtpdnjgbcnnjdiaaGreatDoorRows.lean that lists a variable, with what it lists TIED to the program's text (the seventh form; the later family's looks); each row that meets fmt, with fmt's text TOLD by the authors' own Lean function (tested against real Go, not proved from fmt's source: count such statements apart). THE CARD IS WHAT COUNTS. Prove the row's statement (the work); the ties are given (YtpdnjgbcnnjdiaaGreatDoorTie.lean); close each card by the builder's one call (the guide's Derived/Test/ToyasCard.lean, 'card_holds'). Laid BY PROGRAM, IN A SANDBOX (cutbox-door.mjs). By AI agents, Wed Nov 11 2026. No macro, syntax, notation, axiom, sorry.
-/
import Derived.Test.YtpdnjgbcnnjdiaaGreatDoorRows
import GoSem.ClaimSeven
namespace Go.Proofs.YtpdnjgbcnnjdiaaGreatDoor
namespace Rows

/-- THE TIED CARD OF 'laws.FnFind'. -/
def fnFindCard : Claim7 := { stood := { row := fnFindRow, standIns := [], harness := (true, "f73f32f7bc1e281595cc45e3f6a880ed05d5e05e86f06c7f12bb60c6bc22fd61"), looks := true }, kinds := [], alts := [], laidByText := true, laidKinds := [.data, .listed, .data, .pinned], laidTests := true, laidLooks := .later }
def FnFindCardSaid : Prop := Claim7.holds Tryz.pinned (.plain (OpenSpec.ofChange fnFindSpec)) fnFindCard

/-- THE SECOND FORM's CARD OF 'laws.FnFind'. -/
def fnFindUptoCard : Claim7 := { stood := { row := fnFindUptoRow, standIns := [], harness := (true, "f73f32f7bc1e281595cc45e3f6a880ed05d5e05e86f06c7f12bb60c6bc22fd61"), looks := true }, kinds := [], alts := [], laidByText := true, laidKinds := [.data, .listed, .data, .pinned], laidTests := true, laidLooks := .later }
def FnFindUptoCardSaid : Prop := Claim7.holds Tryz.pinned (.plain (OpenSpec.upto fnFindSpec)) fnFindUptoCard
end Rows
end Go.Proofs.YtpdnjgbcnnjdiaaGreatDoor
