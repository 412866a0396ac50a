/-
  The closed facts of the row of laws.FnUintPow, one theorem each.
-/
import Derived.Test.YtapfolgiafnllaaGreatDoorRows
import Derived.JoinedOf
import Derived.KernelRfl
namespace Go.Proofs.YtapfolgiafnllaaGreatDoor.fnUintPow
open Go

theorem and2 {a b : Bool} (ha : a = true) (hb : b = true) : (a && b) = true := by rw [ha, hb]; rfl
theorem fact1 : (Rows.fnUintPowRow.wf (OpenSpec.ofChange Rows.fnUintPowSpec) : Bool) = true := by kernel_rfl
theorem fact2 : (laidOutB Tryz.prog : Bool) = true := by kernel_rfl
theorem fact3 : (mapsRowed Tryz.prog : Bool) = true := by kernel_rfl
theorem fact4 : (Tryz.f3.params.all (Tryz.prog.readableRec ·) : Bool) = true := by kernel_rfl
theorem fact5 : (namedTie Tryz.prog Rows.fnUintPowRow.named Rows.fnUintPowSpec.vars : Bool) = true := by kernel_rfl
theorem fact6 : ((Rows.fnUintPowRow.stops == []) : Bool) = true := by kernel_rfl
theorem fact7 : ((Tryz.prog.stops == []) : Bool) = true := by kernel_rfl
theorem fact8 : ((Rows.fnUintPowRow.knobs == []) : Bool) = true := by kernel_rfl
theorem fact9 : ((Tryz.prog.stopKnobs == []) : Bool) = true := by kernel_rfl
theorem fact10 : ((Rows.fnUintPowRow.inPlace == Tryz.prog.inPlace 3) : Bool) = true := by kernel_rfl
theorem fact11 : ((Rows.fnUintPowRow.unfollowed == Tryz.prog.unfollowed 3) : Bool) = true := by kernel_rfl
theorem fact12 : ((Rows.fnUintPowRow.recurses == Tryz.prog.recurses 3) : Bool) = true := by kernel_rfl
theorem fact13 : ((Rows.fnUintPowRow.named == Tryz.prog.varsNamed 3) : Bool) = true := by kernel_rfl
theorem fact14 : ((Rows.fnUintPowRow.maps == (Tryz.f3.params.toList ++ Rows.fnUintPowSpec.plain.varTypes Tryz.prog).any (Tryz.prog.mapsRec ·)) : Bool) = true := by kernel_rfl
theorem fact15 : ((Rows.fnUintPowRow.ifaces == (Tryz.f3.params.toList ++ Rows.fnUintPowSpec.plain.varTypes Tryz.prog).any (Tryz.prog.ifacesRec ·)) : Bool) = true := by kernel_rfl
theorem fact16 : ((Rows.fnUintPowRow.mapsOut == Tryz.prog.mapsAmong Tryz.f3.resultTypes.toList) : Bool) = true := by kernel_rfl
theorem fact17 : ((Rows.fnUintPowRow.loops == (Tryz.f3.params.toList ++ Rows.fnUintPowSpec.plain.varTypes Tryz.prog).any (Tryz.prog.loopsFrom ·)) : Bool) = true := by kernel_rfl
theorem fact18 : ((Rows.fnUintPowRow.wideKeys == (Tryz.f3.params.toList ++ Rows.fnUintPowSpec.plain.varTypes Tryz.prog ++ Tryz.f3.resultTypes.toList).any (Tryz.prog.wideKeysFrom ·)) : Bool) = true := by kernel_rfl
theorem fact19 : (Rows.fnUintPowSpec.vars.all (Tryz.prog.varReadable ·) : Bool) = true := by kernel_rfl
theorem fact20 : (Tryz.f3.resultTypes.all (fun t => Tryz.prog.readableRec t && decide (t < Tryz.prog.types.size)) : Bool) = true := by kernel_rfl
theorem fact21 : ((Rows.fnUintPowRow.ifacesOut == Tryz.f3.resultTypes.toList.any (Tryz.prog.ifacesRec ·)) : Bool) = true := by kernel_rfl
theorem fact22 : ((Rows.fnUintPowRow.loopsOut == Tryz.f3.resultTypes.toList.any (Tryz.prog.loopsFrom ·)) : Bool) = true := by kernel_rfl
theorem fact23 : ((Rows.fnUintPowRow.plainKeys == Tryz.prog.plainKeys) : Bool) = true := by kernel_rfl
theorem fact24 : (Rows.fnUintPowRow.shortTexts.isNone : Bool) = true := by kernel_rfl
theorem fact25 : (Tryz.prog.stopsHeard : Bool) = true := by kernel_rfl
theorem fact26 : (Tryz.prog.mayEnter : Bool) = true := by kernel_rfl
theorem fact27 : ((Rows.fnUintPowRow.lifted == Tryz.prog.liftsFinal) : Bool) = true := by kernel_rfl
theorem fact28 : ((Tryz.prog.make == some Rows.fnUintPowRow.make) : Bool) = true := by kernel_rfl
theorem fact29 : ((Rows.fnUintPowRow.kinds == (if Rows.fnUintPowRow.domain.isEmpty then [] else Tryz.f3.params.toList.map fun t => match Tryz.prog.underlying t with | some (.int k) => some k | _ => none)) : Bool) = true := by kernel_rfl
theorem fact30 : ((Rows.fnUintPowRow.pinned == Rows.fnUintPowRow.pinnedBy) : Bool) = true := by kernel_rfl
theorem fact31 : ((Rows.fnUintPowRow.veiled == (Tryz.f3.params.toList ++ Rows.fnUintPowSpec.plain.varTypes Tryz.prog ++ Tryz.f3.resultTypes.toList).any (Tryz.prog.veiledRec ·)) : Bool) = true := by kernel_rfl
theorem fact32 : (Rows.fnUintPowRow.veiledFits Tryz.prog Tryz.f3.params.toList (Tryz.f3.params.toList ++ Rows.fnUintPowSpec.plain.varTypes Tryz.prog ++ Tryz.f3.resultTypes.toList) : Bool) = true := by kernel_rfl
set_option maxRecDepth 100000 in
theorem closed : joinedFacts Tryz.prog 3 Tryz.f3 Rows.fnUintPowSpec Rows.fnUintPowRow = true := by
  unfold joinedFacts
  exact (and2 (and2 (and2 (and2 (and2 (and2 (and2 (and2 (and2 (and2 (and2 (and2 (and2 (and2 (and2 (and2 (and2 (and2 (and2 (and2 (and2 (and2 (and2 (and2 (and2 (and2 (and2 (and2 (and2 (and2 (and2 fact1 fact2) fact3) fact4) fact5) fact6) fact7) fact8) fact9) fact10) fact11) fact12) fact13) fact14) fact15) fact16) fact17) fact18) fact19) fact20) fact21) fact22) fact23) fact24) fact25) fact26) fact27) fact28) fact29) fact30) fact31) fact32)
end Go.Proofs.YtapfolgiafnllaaGreatDoor.fnUintPow
