/-
  DERIVED. GIVEN WITH THE SEED: THE CARDS: each row of YtiohlcfdoleooaaGreatDoorRows.lean that lists a variable, with what it lists TIED to the program's text (the seventh form; the later family's looks); each row that meets fmt, with fmt's text TOLD by the authors' own Lean function (tested against real Go, not proved from fmt's source: count such statements apart). THE CARD IS WHAT COUNTS. Prove the row's statement (the work); the ties are given (YtiohlcfdoleooaaGreatDoorTie.lean); close each card by the builder's one call (the guide's Derived/Test/ToyasCard.lean, 'card_holds'). Laid BY PROGRAM, IN A SANDBOX (cutbox-door.mjs). By AI agents, Wed Nov 11 2026. No macro, syntax, notation, axiom, sorry.
-/
import Derived.Test.YtiohlcfdoleooaaGreatDoorRows
import GoSem.ClaimSeven
namespace Go.Proofs.YtiohlcfdoleooaaGreatDoor
namespace Rows

/-- THE TIED CARD OF 'laws.FnUintBytes'. -/
def fnUintBytesCard : Claim7 := { stood := { row := fnUintBytesRow, standIns := [], harness := (true, "09d3aff1805efd983447cfd6f224b4738feaf5e6a5cf9d1fe43750db53516aaf"), looks := true }, kinds := [], alts := [], laidByText := true, laidKinds := [.data, .data, .sentinel, .sentinel, .sentinel, .data, .data, .data, .data, .data], laidTests := true, laidLooks := .later }
def FnUintBytesCardSaid : Prop := Claim7.holds Tryz.pinned (.plain (OpenSpec.ofChange fnUintBytesSpec)) fnUintBytesCard

/-- THE TIED CARD OF 'laws.FnUintAlgebra'. -/
def fnUintAlgebraCard : Claim7 := { stood := { row := fnUintAlgebraRow, standIns := [], harness := (true, "09d3aff1805efd983447cfd6f224b4738feaf5e6a5cf9d1fe43750db53516aaf"), looks := true }, kinds := [], alts := [], laidByText := true, laidKinds := [.data, .data, .sentinel, .sentinel, .sentinel, .data, .data, .data, .data, .data], laidTests := true, laidLooks := .later }
def FnUintAlgebraCardSaid : Prop := Claim7.holds Tryz.pinned (.plain (OpenSpec.ofChange fnUintAlgebraSpec)) fnUintAlgebraCard

/-- THE TIED CARD OF 'laws.FnUintDo'. -/
def fnUintDoCard : Claim7 := { stood := { row := fnUintDoRow, standIns := [], harness := (true, "09d3aff1805efd983447cfd6f224b4738feaf5e6a5cf9d1fe43750db53516aaf"), looks := true }, kinds := [], alts := [], laidByText := true, laidKinds := [.data, .data, .sentinel, .sentinel, .sentinel, .data, .data, .data, .data, .data], laidTests := true, laidLooks := .later }
def FnUintDoCardSaid : Prop := Claim7.holds Tryz.pinned (.plain (OpenSpec.ofChange fnUintDoSpec)) fnUintDoCard

/-- THE TIED CARD OF 'laws.FnIntBytes'. -/
def fnIntBytesCard : Claim7 := { stood := { row := fnIntBytesRow, standIns := [], harness := (true, "09d3aff1805efd983447cfd6f224b4738feaf5e6a5cf9d1fe43750db53516aaf"), looks := true }, kinds := [], alts := [], laidByText := true, laidKinds := [.data, .data, .sentinel, .sentinel, .sentinel, .data, .data, .data, .data, .data, .sentinel, .sentinel], laidTests := true, laidLooks := .later }
def FnIntBytesCardSaid : Prop := Claim7.holds Tryz.pinned (.plain (OpenSpec.ofChange fnIntBytesSpec)) fnIntBytesCard

/-- THE TIED CARD OF 'laws.FnUintRaw'. -/
def fnUintRawCard : Claim7 := { stood := { row := fnUintRawRow, standIns := [], harness := (true, "09d3aff1805efd983447cfd6f224b4738feaf5e6a5cf9d1fe43750db53516aaf"), looks := true }, kinds := [], alts := [], laidByText := true, laidKinds := [.data, .data, .sentinel, .sentinel, .sentinel, .data, .data, .data, .data, .data], laidTests := true, laidLooks := .later }
def FnUintRawCardSaid : Prop := Claim7.holds Tryz.pinned (.plain (OpenSpec.ofChange fnUintRawSpec)) fnUintRawCard

/-- THE TIED CARD OF 'laws.FnUintPow'. -/
def fnUintPowCard : Claim7 := { stood := { row := fnUintPowRow, standIns := [], harness := (true, "09d3aff1805efd983447cfd6f224b4738feaf5e6a5cf9d1fe43750db53516aaf"), looks := true }, kinds := [], alts := [], laidByText := true, laidKinds := [.data, .data, .sentinel, .sentinel, .sentinel, .data, .data, .data, .data, .data], laidTests := true, laidLooks := .later }
def FnUintPowCardSaid : Prop := Claim7.holds Tryz.pinned (.plain (OpenSpec.ofChange fnUintPowSpec)) fnUintPowCard

/-- THE TIED CARD OF 'laws.FnIntDo'. -/
def fnIntDoCard : Claim7 := { stood := { row := fnIntDoRow, standIns := [], harness := (true, "09d3aff1805efd983447cfd6f224b4738feaf5e6a5cf9d1fe43750db53516aaf"), looks := true }, kinds := [], alts := [], laidByText := true, laidKinds := [.data, .data, .sentinel, .sentinel, .sentinel, .data, .data, .data, .data, .data, .sentinel, .sentinel], laidTests := true, laidLooks := .later }
def FnIntDoCardSaid : Prop := Claim7.holds Tryz.pinned (.plain (OpenSpec.ofChange fnIntDoSpec)) fnIntDoCard

/-- THE TIED CARD OF 'laws.FnIntRing'. -/
def fnIntRingCard : Claim7 := { stood := { row := fnIntRingRow, standIns := [], harness := (true, "09d3aff1805efd983447cfd6f224b4738feaf5e6a5cf9d1fe43750db53516aaf"), looks := true }, kinds := [], alts := [], laidByText := true, laidKinds := [.data, .data, .sentinel, .sentinel, .sentinel, .data, .data, .data, .data, .data, .sentinel, .sentinel], laidTests := true, laidLooks := .later }
def FnIntRingCardSaid : Prop := Claim7.holds Tryz.pinned (.plain (OpenSpec.ofChange fnIntRingSpec)) fnIntRingCard

/-- THE TIED CARD OF 'laws.FnIntSafe'. -/
def fnIntSafeCard : Claim7 := { stood := { row := fnIntSafeRow, standIns := [], harness := (true, "09d3aff1805efd983447cfd6f224b4738feaf5e6a5cf9d1fe43750db53516aaf"), looks := true }, kinds := [], alts := [], laidByText := true, laidKinds := [.data, .data, .sentinel, .sentinel, .sentinel, .data, .data, .data, .data, .data, .sentinel, .sentinel], laidTests := true, laidLooks := .later }
def FnIntSafeCardSaid : Prop := Claim7.holds Tryz.pinned (.plain (OpenSpec.ofChange fnIntSafeSpec)) fnIntSafeCard

/-- THE TIED CARD OF 'laws.FnIntRaw'. -/
def fnIntRawCard : Claim7 := { stood := { row := fnIntRawRow, standIns := [], harness := (true, "09d3aff1805efd983447cfd6f224b4738feaf5e6a5cf9d1fe43750db53516aaf"), looks := true }, kinds := [], alts := [], laidByText := true, laidKinds := [.data, .data, .sentinel, .sentinel, .sentinel, .data, .data, .data, .data, .data, .sentinel, .sentinel], laidTests := true, laidLooks := .later }
def FnIntRawCardSaid : Prop := Claim7.holds Tryz.pinned (.plain (OpenSpec.ofChange fnIntRawSpec)) fnIntRawCard

/-- THE TIED CARD OF 'laws.FnIntMade'. -/
def fnIntMadeCard : Claim7 := { stood := { row := fnIntMadeRow, standIns := [], harness := (true, "09d3aff1805efd983447cfd6f224b4738feaf5e6a5cf9d1fe43750db53516aaf"), looks := true }, kinds := [], alts := [], laidByText := true, laidKinds := [.data, .data, .sentinel, .sentinel, .sentinel, .data, .data, .data, .data, .data, .sentinel, .sentinel], laidTests := true, laidLooks := .later }
def FnIntMadeCardSaid : Prop := Claim7.holds Tryz.pinned (.plain (OpenSpec.ofChange fnIntMadeSpec)) fnIntMadeCard

/-- THE SECOND FORM's CARD OF 'laws.FnUintBytes'. -/
def fnUintBytesUptoCard : Claim7 := { stood := { row := fnUintBytesUptoRow, standIns := [], harness := (true, "09d3aff1805efd983447cfd6f224b4738feaf5e6a5cf9d1fe43750db53516aaf"), looks := true }, kinds := [], alts := [], laidByText := true, laidKinds := [.data, .data, .sentinel, .sentinel, .sentinel, .data, .data, .data, .data, .data], laidTests := true, laidLooks := .later }
def FnUintBytesUptoCardSaid : Prop := Claim7.holds Tryz.pinned (.plain (OpenSpec.upto fnUintBytesSpec)) fnUintBytesUptoCard

/-- THE SECOND FORM's CARD OF 'laws.FnUintAlgebra'. -/
def fnUintAlgebraUptoCard : Claim7 := { stood := { row := fnUintAlgebraUptoRow, standIns := [], harness := (true, "09d3aff1805efd983447cfd6f224b4738feaf5e6a5cf9d1fe43750db53516aaf"), looks := true }, kinds := [], alts := [], laidByText := true, laidKinds := [.data, .data, .sentinel, .sentinel, .sentinel, .data, .data, .data, .data, .data], laidTests := true, laidLooks := .later }
def FnUintAlgebraUptoCardSaid : Prop := Claim7.holds Tryz.pinned (.plain (OpenSpec.upto fnUintAlgebraSpec)) fnUintAlgebraUptoCard

/-- THE SECOND FORM's CARD OF 'laws.FnUintDo'. -/
def fnUintDoUptoCard : Claim7 := { stood := { row := fnUintDoUptoRow, standIns := [], harness := (true, "09d3aff1805efd983447cfd6f224b4738feaf5e6a5cf9d1fe43750db53516aaf"), looks := true }, kinds := [], alts := [], laidByText := true, laidKinds := [.data, .data, .sentinel, .sentinel, .sentinel, .data, .data, .data, .data, .data], laidTests := true, laidLooks := .later }
def FnUintDoUptoCardSaid : Prop := Claim7.holds Tryz.pinned (.plain (OpenSpec.upto fnUintDoSpec)) fnUintDoUptoCard

/-- THE SECOND FORM's CARD OF 'laws.FnIntBytes'. -/
def fnIntBytesUptoCard : Claim7 := { stood := { row := fnIntBytesUptoRow, standIns := [], harness := (true, "09d3aff1805efd983447cfd6f224b4738feaf5e6a5cf9d1fe43750db53516aaf"), looks := true }, kinds := [], alts := [], laidByText := true, laidKinds := [.data, .data, .sentinel, .sentinel, .sentinel, .data, .data, .data, .data, .data, .sentinel, .sentinel], laidTests := true, laidLooks := .later }
def FnIntBytesUptoCardSaid : Prop := Claim7.holds Tryz.pinned (.plain (OpenSpec.upto fnIntBytesSpec)) fnIntBytesUptoCard

/-- THE SECOND FORM's CARD OF 'laws.FnUintRaw'. -/
def fnUintRawUptoCard : Claim7 := { stood := { row := fnUintRawUptoRow, standIns := [], harness := (true, "09d3aff1805efd983447cfd6f224b4738feaf5e6a5cf9d1fe43750db53516aaf"), looks := true }, kinds := [], alts := [], laidByText := true, laidKinds := [.data, .data, .sentinel, .sentinel, .sentinel, .data, .data, .data, .data, .data], laidTests := true, laidLooks := .later }
def FnUintRawUptoCardSaid : Prop := Claim7.holds Tryz.pinned (.plain (OpenSpec.upto fnUintRawSpec)) fnUintRawUptoCard

/-- THE SECOND FORM's CARD OF 'laws.FnUintPow'. -/
def fnUintPowUptoCard : Claim7 := { stood := { row := fnUintPowUptoRow, standIns := [], harness := (true, "09d3aff1805efd983447cfd6f224b4738feaf5e6a5cf9d1fe43750db53516aaf"), looks := true }, kinds := [], alts := [], laidByText := true, laidKinds := [.data, .data, .sentinel, .sentinel, .sentinel, .data, .data, .data, .data, .data], laidTests := true, laidLooks := .later }
def FnUintPowUptoCardSaid : Prop := Claim7.holds Tryz.pinned (.plain (OpenSpec.upto fnUintPowSpec)) fnUintPowUptoCard

/-- THE SECOND FORM's CARD OF 'laws.FnIntDo'. -/
def fnIntDoUptoCard : Claim7 := { stood := { row := fnIntDoUptoRow, standIns := [], harness := (true, "09d3aff1805efd983447cfd6f224b4738feaf5e6a5cf9d1fe43750db53516aaf"), looks := true }, kinds := [], alts := [], laidByText := true, laidKinds := [.data, .data, .sentinel, .sentinel, .sentinel, .data, .data, .data, .data, .data, .sentinel, .sentinel], laidTests := true, laidLooks := .later }
def FnIntDoUptoCardSaid : Prop := Claim7.holds Tryz.pinned (.plain (OpenSpec.upto fnIntDoSpec)) fnIntDoUptoCard

/-- THE SECOND FORM's CARD OF 'laws.FnIntRing'. -/
def fnIntRingUptoCard : Claim7 := { stood := { row := fnIntRingUptoRow, standIns := [], harness := (true, "09d3aff1805efd983447cfd6f224b4738feaf5e6a5cf9d1fe43750db53516aaf"), looks := true }, kinds := [], alts := [], laidByText := true, laidKinds := [.data, .data, .sentinel, .sentinel, .sentinel, .data, .data, .data, .data, .data, .sentinel, .sentinel], laidTests := true, laidLooks := .later }
def FnIntRingUptoCardSaid : Prop := Claim7.holds Tryz.pinned (.plain (OpenSpec.upto fnIntRingSpec)) fnIntRingUptoCard

/-- THE SECOND FORM's CARD OF 'laws.FnIntSafe'. -/
def fnIntSafeUptoCard : Claim7 := { stood := { row := fnIntSafeUptoRow, standIns := [], harness := (true, "09d3aff1805efd983447cfd6f224b4738feaf5e6a5cf9d1fe43750db53516aaf"), looks := true }, kinds := [], alts := [], laidByText := true, laidKinds := [.data, .data, .sentinel, .sentinel, .sentinel, .data, .data, .data, .data, .data, .sentinel, .sentinel], laidTests := true, laidLooks := .later }
def FnIntSafeUptoCardSaid : Prop := Claim7.holds Tryz.pinned (.plain (OpenSpec.upto fnIntSafeSpec)) fnIntSafeUptoCard

/-- THE SECOND FORM's CARD OF 'laws.FnIntRaw'. -/
def fnIntRawUptoCard : Claim7 := { stood := { row := fnIntRawUptoRow, standIns := [], harness := (true, "09d3aff1805efd983447cfd6f224b4738feaf5e6a5cf9d1fe43750db53516aaf"), looks := true }, kinds := [], alts := [], laidByText := true, laidKinds := [.data, .data, .sentinel, .sentinel, .sentinel, .data, .data, .data, .data, .data, .sentinel, .sentinel], laidTests := true, laidLooks := .later }
def FnIntRawUptoCardSaid : Prop := Claim7.holds Tryz.pinned (.plain (OpenSpec.upto fnIntRawSpec)) fnIntRawUptoCard

/-- THE SECOND FORM's CARD OF 'laws.FnIntMade'. -/
def fnIntMadeUptoCard : Claim7 := { stood := { row := fnIntMadeUptoRow, standIns := [], harness := (true, "09d3aff1805efd983447cfd6f224b4738feaf5e6a5cf9d1fe43750db53516aaf"), looks := true }, kinds := [], alts := [], laidByText := true, laidKinds := [.data, .data, .sentinel, .sentinel, .sentinel, .data, .data, .data, .data, .data, .sentinel, .sentinel], laidTests := true, laidLooks := .later }
def FnIntMadeUptoCardSaid : Prop := Claim7.holds Tryz.pinned (.plain (OpenSpec.upto fnIntMadeSpec)) fnIntMadeUptoCard
end Rows
end Go.Proofs.YtiohlcfdoleooaaGreatDoor
