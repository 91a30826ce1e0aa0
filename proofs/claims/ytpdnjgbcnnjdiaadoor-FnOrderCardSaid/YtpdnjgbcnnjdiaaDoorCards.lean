/-
  DERIVED. GIVEN WITH THE SEED: THE CARDS: each row of YtpdnjgbcnnjdiaaDoorRows.lean that lists a variable, with what it lists TIED to the program's text (the seventh form; the later family's looks); each row that meets fmt, with fmt's text TOLD by the authors' own Lean function (tested against real Go, not proved from fmt's source: count such statements apart). THE CARD IS WHAT COUNTS. Prove the row's statement (the work); the ties are given (YtpdnjgbcnnjdiaaDoorTie.lean); close each card by the builder's one call (the guide's Derived/Test/ToyasCard.lean, 'card_holds'). Laid BY PROGRAM, IN A SANDBOX (cutbox-door.mjs). By AI agents, Wed Nov 11 2026. No macro, syntax, notation, axiom, sorry.
-/
import Derived.Test.YtpdnjgbcnnjdiaaDoorRows
import GoSem.ClaimSeven
namespace Go.Proofs.YtpdnjgbcnnjdiaaDoor
namespace Rows

/-- THE TIED CARD OF 'laws.FnMatch'. -/
def fnMatchCard : Claim7 := { stood := { row := fnMatchRow, standIns := [], harness := (true, "1285d4cd8f2b10cd24bc4ab4c3eb5665fe414fa04107f88c61256efe7c5c6ef9"), looks := true }, kinds := [], alts := [], laidByText := true, laidKinds := [.data, .listed, .data, .pinned], laidTests := true, laidLooks := .later }
def FnMatchCardSaid : Prop := Claim7.holds Tryd.pinned (.plain (OpenSpec.ofChange fnMatchSpec)) fnMatchCard

/-- THE TIED CARD OF 'laws.FnMatchBack'. -/
def fnMatchBackCard : Claim7 := { stood := { row := fnMatchBackRow, standIns := [], harness := (true, "1285d4cd8f2b10cd24bc4ab4c3eb5665fe414fa04107f88c61256efe7c5c6ef9"), looks := true }, kinds := [], alts := [], laidByText := true, laidKinds := [.data, .listed, .data, .pinned], laidTests := true, laidLooks := .later }
def FnMatchBackCardSaid : Prop := Claim7.holds Tryd.pinned (.plain (OpenSpec.ofChange fnMatchBackSpec)) fnMatchBackCard

/-- THE TIED CARD OF 'laws.FnVariables'. -/
def fnVariablesCard : Claim7 := { stood := { row := fnVariablesRow, standIns := [], harness := (true, "1285d4cd8f2b10cd24bc4ab4c3eb5665fe414fa04107f88c61256efe7c5c6ef9"), looks := true }, kinds := [], alts := [], laidByText := true, laidKinds := [.data, .listed, .data, .pinned], laidTests := true, laidLooks := .later }
def FnVariablesCardSaid : Prop := Claim7.holds Tryd.pinned (.plain (OpenSpec.ofChange fnVariablesSpec)) fnVariablesCard

/-- THE TIED CARD OF 'laws.FnHost'. -/
def fnHostCard : Claim7 := { stood := { row := fnHostRow, standIns := [], harness := (true, "1285d4cd8f2b10cd24bc4ab4c3eb5665fe414fa04107f88c61256efe7c5c6ef9"), looks := true }, kinds := [], alts := [], laidByText := true, laidKinds := [.data, .listed, .data, .pinned], laidTests := true, laidLooks := .later }
def FnHostCardSaid : Prop := Claim7.holds Tryd.pinned (.plain (OpenSpec.ofChange fnHostSpec)) fnHostCard

/-- THE TIED CARD OF 'laws.FnOrder'. -/
def fnOrderCard : Claim7 := { stood := { row := fnOrderRow, standIns := [], harness := (true, "1285d4cd8f2b10cd24bc4ab4c3eb5665fe414fa04107f88c61256efe7c5c6ef9"), looks := true }, kinds := [], alts := [], laidByText := true, laidKinds := [.data, .listed, .data, .pinned], laidTests := true, laidLooks := .later }
def FnOrderCardSaid : Prop := Claim7.holds Tryd.pinned (.plain (OpenSpec.ofChange fnOrderSpec)) fnOrderCard

/-- THE SECOND FORM's CARD OF 'laws.FnMatch'. -/
def fnMatchUptoCard : Claim7 := { stood := { row := fnMatchUptoRow, standIns := [], harness := (true, "1285d4cd8f2b10cd24bc4ab4c3eb5665fe414fa04107f88c61256efe7c5c6ef9"), looks := true }, kinds := [], alts := [], laidByText := true, laidKinds := [.data, .listed, .data, .pinned], laidTests := true, laidLooks := .later }
def FnMatchUptoCardSaid : Prop := Claim7.holds Tryd.pinned (.plain (OpenSpec.upto fnMatchSpec)) fnMatchUptoCard

/-- THE SECOND FORM's CARD OF 'laws.FnMatchBack'. -/
def fnMatchBackUptoCard : Claim7 := { stood := { row := fnMatchBackUptoRow, standIns := [], harness := (true, "1285d4cd8f2b10cd24bc4ab4c3eb5665fe414fa04107f88c61256efe7c5c6ef9"), looks := true }, kinds := [], alts := [], laidByText := true, laidKinds := [.data, .listed, .data, .pinned], laidTests := true, laidLooks := .later }
def FnMatchBackUptoCardSaid : Prop := Claim7.holds Tryd.pinned (.plain (OpenSpec.upto fnMatchBackSpec)) fnMatchBackUptoCard

/-- THE SECOND FORM's CARD OF 'laws.FnVariables'. -/
def fnVariablesUptoCard : Claim7 := { stood := { row := fnVariablesUptoRow, standIns := [], harness := (true, "1285d4cd8f2b10cd24bc4ab4c3eb5665fe414fa04107f88c61256efe7c5c6ef9"), looks := true }, kinds := [], alts := [], laidByText := true, laidKinds := [.data, .listed, .data, .pinned], laidTests := true, laidLooks := .later }
def FnVariablesUptoCardSaid : Prop := Claim7.holds Tryd.pinned (.plain (OpenSpec.upto fnVariablesSpec)) fnVariablesUptoCard

/-- THE SECOND FORM's CARD OF 'laws.FnHost'. -/
def fnHostUptoCard : Claim7 := { stood := { row := fnHostUptoRow, standIns := [], harness := (true, "1285d4cd8f2b10cd24bc4ab4c3eb5665fe414fa04107f88c61256efe7c5c6ef9"), looks := true }, kinds := [], alts := [], laidByText := true, laidKinds := [.data, .listed, .data, .pinned], laidTests := true, laidLooks := .later }
def FnHostUptoCardSaid : Prop := Claim7.holds Tryd.pinned (.plain (OpenSpec.upto fnHostSpec)) fnHostUptoCard

/-- THE SECOND FORM's CARD OF 'laws.FnOrder'. -/
def fnOrderUptoCard : Claim7 := { stood := { row := fnOrderUptoRow, standIns := [], harness := (true, "1285d4cd8f2b10cd24bc4ab4c3eb5665fe414fa04107f88c61256efe7c5c6ef9"), looks := true }, kinds := [], alts := [], laidByText := true, laidKinds := [.data, .listed, .data, .pinned], laidTests := true, laidLooks := .later }
def FnOrderUptoCardSaid : Prop := Claim7.holds Tryd.pinned (.plain (OpenSpec.upto fnOrderSpec)) fnOrderUptoCard
end Rows
end Go.Proofs.YtpdnjgbcnnjdiaaDoor
