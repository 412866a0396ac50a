/-
  The closed facts of the row of laws.FnIntMade, one theorem each.
-/
import Derived.Test.YtapfolgiafnllaaGreatDoorRows
import Derived.JoinedOf
import Derived.KernelRfl
namespace Go.Proofs.YtapfolgiafnllaaGreatDoor.fnIntMade
open Go

theorem and2 {a b : Bool} (ha : a = true) (hb : b = true) : (a && b) = true := by rw [ha, hb]; rfl
theorem fact1 : (Rows.fnIntMadeRow.wf (OpenSpec.ofChange Rows.fnIntMadeSpec) : Bool) = true := by kernel_rfl
theorem fact2 : (laidOutB Tryz.prog : Bool) = true := by kernel_rfl
theorem fact3 : (mapsRowed Tryz.prog : Bool) = true := by kernel_rfl
theorem fact4 : (Tryz.f4.params.all (Tryz.prog.readableRec ·) : Bool) = true := by kernel_rfl
theorem fact5 : (namedTie Tryz.prog Rows.fnIntMadeRow.named Rows.fnIntMadeSpec.vars : Bool) = true := by kernel_rfl
theorem fact6 : ((Rows.fnIntMadeRow.stops == []) : Bool) = true := by kernel_rfl
theorem fact7 : ((Tryz.prog.stops == []) : Bool) = true := by kernel_rfl
theorem fact8 : ((Rows.fnIntMadeRow.knobs == []) : Bool) = true := by kernel_rfl
theorem fact9 : ((Tryz.prog.stopKnobs == []) : Bool) = true := by kernel_rfl
theorem fact10 : ((Rows.fnIntMadeRow.inPlace == Tryz.prog.inPlace 4) : Bool) = true := by kernel_rfl
theorem fact11 : ((Rows.fnIntMadeRow.unfollowed == Tryz.prog.unfollowed 4) : Bool) = true := by kernel_rfl
theorem fact12 : ((Rows.fnIntMadeRow.recurses == Tryz.prog.recurses 4) : Bool) = true := by kernel_rfl
theorem fact13 : ((Rows.fnIntMadeRow.named == Tryz.prog.varsNamed 4) : Bool) = true := by kernel_rfl
theorem fact14 : ((Rows.fnIntMadeRow.maps == (Tryz.f4.params.toList ++ Rows.fnIntMadeSpec.plain.varTypes Tryz.prog).any (Tryz.prog.mapsRec ·)) : Bool) = true := by kernel_rfl
theorem fact15 : ((Rows.fnIntMadeRow.ifaces == (Tryz.f4.params.toList ++ Rows.fnIntMadeSpec.plain.varTypes Tryz.prog).any (Tryz.prog.ifacesRec ·)) : Bool) = true := by kernel_rfl
theorem fact16 : ((Rows.fnIntMadeRow.mapsOut == Tryz.prog.mapsAmong Tryz.f4.resultTypes.toList) : Bool) = true := by kernel_rfl
theorem fact17 : ((Rows.fnIntMadeRow.loops == (Tryz.f4.params.toList ++ Rows.fnIntMadeSpec.plain.varTypes Tryz.prog).any (Tryz.prog.loopsFrom ·)) : Bool) = true := by kernel_rfl
theorem fact18 : ((Rows.fnIntMadeRow.wideKeys == (Tryz.f4.params.toList ++ Rows.fnIntMadeSpec.plain.varTypes Tryz.prog ++ Tryz.f4.resultTypes.toList).any (Tryz.prog.wideKeysFrom ·)) : Bool) = true := by kernel_rfl
theorem fact19 : (Rows.fnIntMadeSpec.vars.all (Tryz.prog.varReadable ·) : Bool) = true := by kernel_rfl
theorem fact20 : (Tryz.f4.resultTypes.all (fun t => Tryz.prog.readableRec t && decide (t < Tryz.prog.types.size)) : Bool) = true := by kernel_rfl
theorem fact21 : ((Rows.fnIntMadeRow.ifacesOut == Tryz.f4.resultTypes.toList.any (Tryz.prog.ifacesRec ·)) : Bool) = true := by kernel_rfl
theorem fact22 : ((Rows.fnIntMadeRow.loopsOut == Tryz.f4.resultTypes.toList.any (Tryz.prog.loopsFrom ·)) : Bool) = true := by kernel_rfl
theorem fact23 : ((Rows.fnIntMadeRow.plainKeys == Tryz.prog.plainKeys) : Bool) = true := by kernel_rfl
theorem fact24 : (Rows.fnIntMadeRow.shortTexts.isNone : Bool) = true := by kernel_rfl
theorem fact25 : (Tryz.prog.stopsHeard : Bool) = true := by kernel_rfl
theorem fact26 : (Tryz.prog.mayEnter : Bool) = true := by kernel_rfl
theorem fact27 : ((Rows.fnIntMadeRow.lifted == Tryz.prog.liftsFinal) : Bool) = true := by kernel_rfl
theorem fact28 : ((Tryz.prog.make == some Rows.fnIntMadeRow.make) : Bool) = true := by kernel_rfl
theorem fact29 : ((Rows.fnIntMadeRow.kinds == (if Rows.fnIntMadeRow.domain.isEmpty then [] else Tryz.f4.params.toList.map fun t => match Tryz.prog.underlying t with | some (.int k) => some k | _ => none)) : Bool) = true := by kernel_rfl
theorem fact30 : ((Rows.fnIntMadeRow.pinned == Rows.fnIntMadeRow.pinnedBy) : Bool) = true := by kernel_rfl
theorem fact31 : ((Rows.fnIntMadeRow.veiled == (Tryz.f4.params.toList ++ Rows.fnIntMadeSpec.plain.varTypes Tryz.prog ++ Tryz.f4.resultTypes.toList).any (Tryz.prog.veiledRec ·)) : Bool) = true := by kernel_rfl
theorem fact32 : (Rows.fnIntMadeRow.veiledFits Tryz.prog Tryz.f4.params.toList (Tryz.f4.params.toList ++ Rows.fnIntMadeSpec.plain.varTypes Tryz.prog ++ Tryz.f4.resultTypes.toList) : Bool) = true := by kernel_rfl
set_option maxRecDepth 100000 in
theorem closed : joinedFacts Tryz.prog 4 Tryz.f4 Rows.fnIntMadeSpec Rows.fnIntMadeRow = true := by
  unfold joinedFacts
  exact (and2 (and2 (and2 (and2 (and2 (and2 (and2 (and2 (and2 (and2 (and2 (and2 (and2 (and2 (and2 (and2 (and2 (and2 (and2 (and2 (and2 (and2 (and2 (and2 (and2 (and2 (and2 (and2 (and2 (and2 (and2 fact1 fact2) fact3) fact4) fact5) fact6) fact7) fact8) fact9) fact10) fact11) fact12) fact13) fact14) fact15) fact16) fact17) fact18) fact19) fact20) fact21) fact22) fact23) fact24) fact25) fact26) fact27) fact28) fact29) fact30) fact31) fact32)
end Go.Proofs.YtapfolgiafnllaaGreatDoor.fnIntMade
