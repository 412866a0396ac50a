/-
  DERIVED. GIVEN WITH THE SEED: THE CARDS: each row of YtikacehcjaaamaaDoorRows.lean that lists a variable, with what it lists TIED to the program's text (the seventh form; the later family's looks); each row that meets fmt, with fmt's text TOLD by the authors' own Lean function (tested against real Go, not proved from fmt's source: count such statements apart). THE CARD IS WHAT COUNTS. Prove the row's statement (the work); the ties are given (YtikacehcjaaamaaDoorTie.lean); close each card by the builder's one call (the guide's Derived/Test/ToyasCard.lean, 'card_holds'). Laid BY PROGRAM, IN A SANDBOX (cutbox-door.mjs). By AI agents, Wed Nov 11 2026. No macro, syntax, notation, axiom, sorry.
-/
import Derived.Test.YtikacehcjaaamaaDoorRows
import GoSem.ClaimSeven
namespace Go.Proofs.YtikacehcjaaamaaDoor
namespace Rows

/-- THE TIED CARD OF 'laws.FnUintOverflow'. -/
def fnUintOverflowCard : Claim7 := { stood := { row := fnUintOverflowRow, standIns := [], harness := (true, "4507c84d332b19b51350c991f8b77e0b0974d1a490768af697016ca2c142a84f"), looks := true }, kinds := [], alts := [], laidByText := true, laidKinds := [.sentinel, .sentinel, .sentinel], laidTests := true, laidLooks := .later }
def FnUintOverflowCardSaid : Prop := Claim7.holds Tryd.pinned (.plain (OpenSpec.ofChange fnUintOverflowSpec)) fnUintOverflowCard

/-- THE SECOND FORM's CARD OF 'laws.FnUintOverflow'. -/
def fnUintOverflowUptoCard : Claim7 := { stood := { row := fnUintOverflowUptoRow, standIns := [], harness := (true, "4507c84d332b19b51350c991f8b77e0b0974d1a490768af697016ca2c142a84f"), looks := true }, kinds := [], alts := [], laidByText := true, laidKinds := [.sentinel, .sentinel, .sentinel], laidTests := true, laidLooks := .later }
def FnUintOverflowUptoCardSaid : Prop := Claim7.holds Tryd.pinned (.plain (OpenSpec.upto fnUintOverflowSpec)) fnUintOverflowUptoCard
end Rows
end Go.Proofs.YtikacehcjaaamaaDoor
