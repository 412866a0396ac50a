/-
  DERIVED. GIVEN WITH THE SEED: THE CARDS: each row of YthipbglnaalhmaaGreatDoorRows.lean that lists a variable, with what it lists TIED to the program's text (the seventh form; the later family's looks); each row that meets fmt, with fmt's text TOLD by the authors' own Lean function (tested against real Go, not proved from fmt's source: count such statements apart). THE CARD IS WHAT COUNTS. Prove the row's statement (the work); the ties are given (YthipbglnaalhmaaGreatDoorTie.lean); close each card by the builder's one call (the guide's Derived/Test/ToyasCard.lean, 'card_holds'). Laid BY PROGRAM, IN A SANDBOX (cutbox-door.mjs). By AI agents, Wed Nov 11 2026. No macro, syntax, notation, axiom, sorry.
-/
import Derived.Test.YthipbglnaalhmaaGreatDoorRows
import GoSem.ClaimSeven
namespace Go.Proofs.YthipbglnaalhmaaGreatDoor
namespace Rows

/-- THE TIED CARD OF 'laws.FnUintBased'. -/
def fnUintBasedCard : Claim7 := { stood := { row := fnUintBasedRow, standIns := [], harness := (true, "08ea034ed5cbb99e24318c29a43866c126f2533dbf19953b849cf8ceb469d852"), looks := true }, kinds := [], alts := [], laidByText := true, laidKinds := [.data, .data, .sentinel, .sentinel, .sentinel, .data, .data, .data, .data, .data], laidTests := true, laidLooks := .later }
def FnUintBasedCardSaid : Prop := Claim7.holds Tryz.pinned (.plain (OpenSpec.ofChange fnUintBasedSpec)) fnUintBasedCard

/-- THE TIED CARD OF 'laws.FnUintRead'. -/
def fnUintReadCard : Claim7 := { stood := { row := fnUintReadRow, standIns := [], harness := (true, "08ea034ed5cbb99e24318c29a43866c126f2533dbf19953b849cf8ceb469d852"), looks := true }, kinds := [], alts := [], laidByText := true, laidKinds := [.data, .data, .sentinel, .sentinel, .sentinel, .data, .data, .data, .data, .data], laidTests := true, laidLooks := .later }
def FnUintReadCardSaid : Prop := Claim7.holds Tryz.pinned (.plain (OpenSpec.ofChange fnUintReadSpec)) fnUintReadCard

/-- THE TIED CARD OF 'laws.FnUintSteps'. -/
def fnUintStepsCard : Claim7 := { stood := { row := fnUintStepsRow, standIns := [], harness := (true, "08ea034ed5cbb99e24318c29a43866c126f2533dbf19953b849cf8ceb469d852"), looks := true }, kinds := [], alts := [], laidByText := true, laidKinds := [.data, .data, .sentinel, .sentinel, .sentinel, .data, .data, .data, .data, .data], laidTests := true, laidLooks := .later }
def FnUintStepsCardSaid : Prop := Claim7.holds Tryz.pinned (.plain (OpenSpec.ofChange fnUintStepsSpec)) fnUintStepsCard

/-- THE TIED CARD OF 'laws.FnUintAbout'. -/
def fnUintAboutCard : Claim7 := { stood := { row := fnUintAboutRow, standIns := [], harness := (true, "08ea034ed5cbb99e24318c29a43866c126f2533dbf19953b849cf8ceb469d852"), looks := true }, kinds := [], alts := [], laidByText := true, laidKinds := [.data, .data, .sentinel, .sentinel, .sentinel, .data, .data, .data, .data, .data], laidTests := true, laidLooks := .later }
def FnUintAboutCardSaid : Prop := Claim7.holds Tryz.pinned (.plain (OpenSpec.ofChange fnUintAboutSpec)) fnUintAboutCard

/-- THE TIED CARD OF 'laws.FnIntRead'. -/
def fnIntReadCard : Claim7 := { stood := { row := fnIntReadRow, standIns := [], harness := (true, "08ea034ed5cbb99e24318c29a43866c126f2533dbf19953b849cf8ceb469d852"), looks := true }, kinds := [], alts := [], laidByText := true, laidKinds := [.data, .data, .sentinel, .sentinel, .sentinel, .data, .data, .data, .data, .data, .sentinel, .sentinel], laidTests := true, laidLooks := .later }
def FnIntReadCardSaid : Prop := Claim7.holds Tryz.pinned (.plain (OpenSpec.ofChange fnIntReadSpec)) fnIntReadCard

/-- THE TIED CARD OF 'laws.FnIntTurned'. -/
def fnIntTurnedCard : Claim7 := { stood := { row := fnIntTurnedRow, standIns := [], harness := (true, "08ea034ed5cbb99e24318c29a43866c126f2533dbf19953b849cf8ceb469d852"), looks := true }, kinds := [], alts := [], laidByText := true, laidKinds := [.data, .data, .sentinel, .sentinel, .sentinel, .data, .data, .data, .data, .data, .sentinel, .sentinel], laidTests := true, laidLooks := .later }
def FnIntTurnedCardSaid : Prop := Claim7.holds Tryz.pinned (.plain (OpenSpec.ofChange fnIntTurnedSpec)) fnIntTurnedCard

/-- THE TIED CARD OF 'laws.FnIntAbout'. -/
def fnIntAboutCard : Claim7 := { stood := { row := fnIntAboutRow, standIns := [], harness := (true, "08ea034ed5cbb99e24318c29a43866c126f2533dbf19953b849cf8ceb469d852"), looks := true }, kinds := [], alts := [], laidByText := true, laidKinds := [.data, .data, .sentinel, .sentinel, .sentinel, .data, .data, .data, .data, .data, .sentinel, .sentinel], laidTests := true, laidLooks := .later }
def FnIntAboutCardSaid : Prop := Claim7.holds Tryz.pinned (.plain (OpenSpec.ofChange fnIntAboutSpec)) fnIntAboutCard

/-- THE TIED CARD OF 'laws.FnUintMost'. -/
def fnUintMostCard : Claim7 := { stood := { row := fnUintMostRow, standIns := [], harness := (true, "08ea034ed5cbb99e24318c29a43866c126f2533dbf19953b849cf8ceb469d852"), looks := true }, kinds := [], alts := [], laidByText := true, laidKinds := [.data, .data, .sentinel, .sentinel, .sentinel, .data, .data, .data, .data, .data], laidTests := true, laidLooks := .later }
def FnUintMostCardSaid : Prop := Claim7.holds Tryz.pinned (.plain (OpenSpec.ofChange fnUintMostSpec)) fnUintMostCard

/-- THE SECOND FORM's CARD OF 'laws.FnUintBased'. -/
def fnUintBasedUptoCard : Claim7 := { stood := { row := fnUintBasedUptoRow, standIns := [], harness := (true, "08ea034ed5cbb99e24318c29a43866c126f2533dbf19953b849cf8ceb469d852"), looks := true }, kinds := [], alts := [], laidByText := true, laidKinds := [.data, .data, .sentinel, .sentinel, .sentinel, .data, .data, .data, .data, .data], laidTests := true, laidLooks := .later }
def FnUintBasedUptoCardSaid : Prop := Claim7.holds Tryz.pinned (.plain (OpenSpec.upto fnUintBasedSpec)) fnUintBasedUptoCard

/-- THE SECOND FORM's CARD OF 'laws.FnUintRead'. -/
def fnUintReadUptoCard : Claim7 := { stood := { row := fnUintReadUptoRow, standIns := [], harness := (true, "08ea034ed5cbb99e24318c29a43866c126f2533dbf19953b849cf8ceb469d852"), looks := true }, kinds := [], alts := [], laidByText := true, laidKinds := [.data, .data, .sentinel, .sentinel, .sentinel, .data, .data, .data, .data, .data], laidTests := true, laidLooks := .later }
def FnUintReadUptoCardSaid : Prop := Claim7.holds Tryz.pinned (.plain (OpenSpec.upto fnUintReadSpec)) fnUintReadUptoCard

/-- THE SECOND FORM's CARD OF 'laws.FnUintSteps'. -/
def fnUintStepsUptoCard : Claim7 := { stood := { row := fnUintStepsUptoRow, standIns := [], harness := (true, "08ea034ed5cbb99e24318c29a43866c126f2533dbf19953b849cf8ceb469d852"), looks := true }, kinds := [], alts := [], laidByText := true, laidKinds := [.data, .data, .sentinel, .sentinel, .sentinel, .data, .data, .data, .data, .data], laidTests := true, laidLooks := .later }
def FnUintStepsUptoCardSaid : Prop := Claim7.holds Tryz.pinned (.plain (OpenSpec.upto fnUintStepsSpec)) fnUintStepsUptoCard

/-- THE SECOND FORM's CARD OF 'laws.FnUintAbout'. -/
def fnUintAboutUptoCard : Claim7 := { stood := { row := fnUintAboutUptoRow, standIns := [], harness := (true, "08ea034ed5cbb99e24318c29a43866c126f2533dbf19953b849cf8ceb469d852"), looks := true }, kinds := [], alts := [], laidByText := true, laidKinds := [.data, .data, .sentinel, .sentinel, .sentinel, .data, .data, .data, .data, .data], laidTests := true, laidLooks := .later }
def FnUintAboutUptoCardSaid : Prop := Claim7.holds Tryz.pinned (.plain (OpenSpec.upto fnUintAboutSpec)) fnUintAboutUptoCard

/-- THE SECOND FORM's CARD OF 'laws.FnIntRead'. -/
def fnIntReadUptoCard : Claim7 := { stood := { row := fnIntReadUptoRow, standIns := [], harness := (true, "08ea034ed5cbb99e24318c29a43866c126f2533dbf19953b849cf8ceb469d852"), looks := true }, kinds := [], alts := [], laidByText := true, laidKinds := [.data, .data, .sentinel, .sentinel, .sentinel, .data, .data, .data, .data, .data, .sentinel, .sentinel], laidTests := true, laidLooks := .later }
def FnIntReadUptoCardSaid : Prop := Claim7.holds Tryz.pinned (.plain (OpenSpec.upto fnIntReadSpec)) fnIntReadUptoCard

/-- THE SECOND FORM's CARD OF 'laws.FnIntTurned'. -/
def fnIntTurnedUptoCard : Claim7 := { stood := { row := fnIntTurnedUptoRow, standIns := [], harness := (true, "08ea034ed5cbb99e24318c29a43866c126f2533dbf19953b849cf8ceb469d852"), looks := true }, kinds := [], alts := [], laidByText := true, laidKinds := [.data, .data, .sentinel, .sentinel, .sentinel, .data, .data, .data, .data, .data, .sentinel, .sentinel], laidTests := true, laidLooks := .later }
def FnIntTurnedUptoCardSaid : Prop := Claim7.holds Tryz.pinned (.plain (OpenSpec.upto fnIntTurnedSpec)) fnIntTurnedUptoCard

/-- THE SECOND FORM's CARD OF 'laws.FnIntAbout'. -/
def fnIntAboutUptoCard : Claim7 := { stood := { row := fnIntAboutUptoRow, standIns := [], harness := (true, "08ea034ed5cbb99e24318c29a43866c126f2533dbf19953b849cf8ceb469d852"), looks := true }, kinds := [], alts := [], laidByText := true, laidKinds := [.data, .data, .sentinel, .sentinel, .sentinel, .data, .data, .data, .data, .data, .sentinel, .sentinel], laidTests := true, laidLooks := .later }
def FnIntAboutUptoCardSaid : Prop := Claim7.holds Tryz.pinned (.plain (OpenSpec.upto fnIntAboutSpec)) fnIntAboutUptoCard

/-- THE SECOND FORM's CARD OF 'laws.FnUintMost'. -/
def fnUintMostUptoCard : Claim7 := { stood := { row := fnUintMostUptoRow, standIns := [], harness := (true, "08ea034ed5cbb99e24318c29a43866c126f2533dbf19953b849cf8ceb469d852"), looks := true }, kinds := [], alts := [], laidByText := true, laidKinds := [.data, .data, .sentinel, .sentinel, .sentinel, .data, .data, .data, .data, .data], laidTests := true, laidLooks := .later }
def FnUintMostUptoCardSaid : Prop := Claim7.holds Tryz.pinned (.plain (OpenSpec.upto fnUintMostSpec)) fnUintMostUptoCard
end Rows
end Go.Proofs.YthipbglnaalhmaaGreatDoor
