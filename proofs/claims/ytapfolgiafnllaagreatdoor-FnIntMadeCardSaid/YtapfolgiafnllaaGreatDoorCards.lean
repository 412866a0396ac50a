/-
  DERIVED. GIVEN WITH THE SEED: THE CARDS: each row of YtapfolgiafnllaaGreatDoorRows.lean that lists a variable, with what it lists TIED to the program's text (the seventh form; the later family's looks); each row that meets fmt, with fmt's text TOLD by the authors' own Lean function (tested against real Go, not proved from fmt's source: count such statements apart). THE CARD IS WHAT COUNTS. Prove the row's statement (the work); the ties are given (YtapfolgiafnllaaGreatDoorTie.lean); close each card by the builder's one call (the guide's Derived/Test/ToyasCard.lean, 'card_holds'). Laid BY PROGRAM, IN A SANDBOX (cutbox-door.mjs). By AI agents, Wed Nov 11 2026. No macro, syntax, notation, axiom, sorry.
-/
import Derived.Test.YtapfolgiafnllaaGreatDoorRows
import GoSem.ClaimSeven
namespace Go.Proofs.YtapfolgiafnllaaGreatDoor
namespace Rows

/-- THE TIED CARD OF 'laws.FnUintPow'. -/
def fnUintPowCard : Claim7 := { stood := { row := fnUintPowRow, standIns := [], harness := (true, "e247721a5a8b1a8ace9b1116f3af14c6d5e88de7c8204abb37eacb2fd89fd4ca"), looks := true }, kinds := [], alts := [], laidByText := true, laidKinds := [.data, .data, .sentinel, .sentinel, .sentinel, .data, .data, .data, .data, .data], laidTests := true, laidLooks := .later }
def FnUintPowCardSaid : Prop := Claim7.holds Tryz.pinned (.plain (OpenSpec.ofChange fnUintPowSpec)) fnUintPowCard

/-- THE TIED CARD OF 'laws.FnIntMade'. -/
def fnIntMadeCard : Claim7 := { stood := { row := fnIntMadeRow, standIns := [], harness := (true, "e247721a5a8b1a8ace9b1116f3af14c6d5e88de7c8204abb37eacb2fd89fd4ca"), looks := true }, kinds := [], alts := [], laidByText := true, laidKinds := [.data, .data, .sentinel, .sentinel, .sentinel, .data, .data, .data, .data, .data, .sentinel, .sentinel], laidTests := true, laidLooks := .later }
def FnIntMadeCardSaid : Prop := Claim7.holds Tryz.pinned (.plain (OpenSpec.ofChange fnIntMadeSpec)) fnIntMadeCard

/-- THE SECOND FORM's CARD OF 'laws.FnUintPow'. -/
def fnUintPowUptoCard : Claim7 := { stood := { row := fnUintPowUptoRow, standIns := [], harness := (true, "e247721a5a8b1a8ace9b1116f3af14c6d5e88de7c8204abb37eacb2fd89fd4ca"), looks := true }, kinds := [], alts := [], laidByText := true, laidKinds := [.data, .data, .sentinel, .sentinel, .sentinel, .data, .data, .data, .data, .data], laidTests := true, laidLooks := .later }
def FnUintPowUptoCardSaid : Prop := Claim7.holds Tryz.pinned (.plain (OpenSpec.upto fnUintPowSpec)) fnUintPowUptoCard

/-- THE SECOND FORM's CARD OF 'laws.FnIntMade'. -/
def fnIntMadeUptoCard : Claim7 := { stood := { row := fnIntMadeUptoRow, standIns := [], harness := (true, "e247721a5a8b1a8ace9b1116f3af14c6d5e88de7c8204abb37eacb2fd89fd4ca"), looks := true }, kinds := [], alts := [], laidByText := true, laidKinds := [.data, .data, .sentinel, .sentinel, .sentinel, .data, .data, .data, .data, .data, .sentinel, .sentinel], laidTests := true, laidLooks := .later }
def FnIntMadeUptoCardSaid : Prop := Claim7.holds Tryz.pinned (.plain (OpenSpec.upto fnIntMadeSpec)) fnIntMadeUptoCard
end Rows
end Go.Proofs.YtapfolgiafnllaaGreatDoor
