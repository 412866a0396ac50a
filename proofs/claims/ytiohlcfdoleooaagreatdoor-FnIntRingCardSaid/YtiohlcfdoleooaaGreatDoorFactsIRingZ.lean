/-
  The closed facts of the row of laws.FnIntRing, one theorem each.
-/
import Derived.Test.YtiohlcfdoleooaaGreatDoorRows
import Derived.JoinedOf
import Derived.KernelRfl
namespace Go.Proofs.YtiohlcfdoleooaaGreatDoor.fnIntRing
open Go

theorem and2 {a b : Bool} (ha : a = true) (hb : b = true) : (a && b) = true := by rw [ha, hb]; rfl
theorem fact1 : (Rows.fnIntRingRow.wf (OpenSpec.ofChange Rows.fnIntRingSpec) : Bool) = true := by kernel_rfl
theorem fact2 : (laidOutB Tryz.prog : Bool) = true := by kernel_rfl
theorem fact3 : (mapsRowed Tryz.prog : Bool) = true := by kernel_rfl
theorem fact4 : (Tryz.f10.params.all (Tryz.prog.readableRec ·) : Bool) = true := by kernel_rfl
theorem fact5 : (namedTie Tryz.prog Rows.fnIntRingRow.named Rows.fnIntRingSpec.vars : Bool) = true := by kernel_rfl
theorem fact6 : ((Rows.fnIntRingRow.stops == []) : Bool) = true := by kernel_rfl
theorem fact7 : ((Tryz.prog.stops == []) : Bool) = true := by kernel_rfl
theorem fact8 : ((Rows.fnIntRingRow.knobs == []) : Bool) = true := by kernel_rfl
theorem fact9 : ((Tryz.prog.stopKnobs == []) : Bool) = true := by kernel_rfl
theorem fact10 : ((Rows.fnIntRingRow.inPlace == Tryz.prog.inPlace 10) : Bool) = true := by kernel_rfl
theorem fact11 : ((Rows.fnIntRingRow.unfollowed == Tryz.prog.unfollowed 10) : Bool) = true := by kernel_rfl
theorem fact12 : ((Rows.fnIntRingRow.recurses == Tryz.prog.recurses 10) : Bool) = true := by kernel_rfl
theorem fact13 : ((Rows.fnIntRingRow.named == Tryz.prog.varsNamed 10) : Bool) = true := by kernel_rfl
theorem fact14 : ((Rows.fnIntRingRow.maps == (Tryz.f10.params.toList ++ Rows.fnIntRingSpec.plain.varTypes Tryz.prog).any (Tryz.prog.mapsRec ·)) : Bool) = true := by kernel_rfl
theorem fact15 : ((Rows.fnIntRingRow.ifaces == (Tryz.f10.params.toList ++ Rows.fnIntRingSpec.plain.varTypes Tryz.prog).any (Tryz.prog.ifacesRec ·)) : Bool) = true := by kernel_rfl
theorem fact16 : ((Rows.fnIntRingRow.mapsOut == Tryz.prog.mapsAmong Tryz.f10.resultTypes.toList) : Bool) = true := by kernel_rfl
theorem fact17 : ((Rows.fnIntRingRow.loops == (Tryz.f10.params.toList ++ Rows.fnIntRingSpec.plain.varTypes Tryz.prog).any (Tryz.prog.loopsFrom ·)) : Bool) = true := by kernel_rfl
theorem fact18 : ((Rows.fnIntRingRow.wideKeys == (Tryz.f10.params.toList ++ Rows.fnIntRingSpec.plain.varTypes Tryz.prog ++ Tryz.f10.resultTypes.toList).any (Tryz.prog.wideKeysFrom ·)) : Bool) = true := by kernel_rfl
theorem fact19 : (Rows.fnIntRingSpec.vars.all (Tryz.prog.varReadable ·) : Bool) = true := by kernel_rfl
theorem fact20 : (Tryz.f10.resultTypes.all (fun t => Tryz.prog.readableRec t && decide (t < Tryz.prog.types.size)) : Bool) = true := by kernel_rfl
theorem fact21 : ((Rows.fnIntRingRow.ifacesOut == Tryz.f10.resultTypes.toList.any (Tryz.prog.ifacesRec ·)) : Bool) = true := by kernel_rfl
theorem fact22 : ((Rows.fnIntRingRow.loopsOut == Tryz.f10.resultTypes.toList.any (Tryz.prog.loopsFrom ·)) : Bool) = true := by kernel_rfl
theorem fact23 : ((Rows.fnIntRingRow.plainKeys == Tryz.prog.plainKeys) : Bool) = true := by kernel_rfl
theorem fact24 : (Rows.fnIntRingRow.shortTexts.isNone : Bool) = true := by kernel_rfl
theorem fact25 : (Tryz.prog.stopsHeard : Bool) = true := by kernel_rfl
theorem fact26 : (Tryz.prog.mayEnter : Bool) = true := by kernel_rfl
theorem fact27 : ((Rows.fnIntRingRow.lifted == Tryz.prog.liftsFinal) : Bool) = true := by kernel_rfl
theorem fact28 : ((Tryz.prog.make == some Rows.fnIntRingRow.make) : Bool) = true := by kernel_rfl
theorem fact29 : ((Rows.fnIntRingRow.kinds == (if Rows.fnIntRingRow.domain.isEmpty then [] else Tryz.f10.params.toList.map fun t => match Tryz.prog.underlying t with | some (.int k) => some k | _ => none)) : Bool) = true := by kernel_rfl
theorem fact30 : ((Rows.fnIntRingRow.pinned == Rows.fnIntRingRow.pinnedBy) : Bool) = true := by kernel_rfl
theorem fact31 : ((Rows.fnIntRingRow.veiled == (Tryz.f10.params.toList ++ Rows.fnIntRingSpec.plain.varTypes Tryz.prog ++ Tryz.f10.resultTypes.toList).any (Tryz.prog.veiledRec ·)) : Bool) = true := by kernel_rfl
theorem fact32 : (Rows.fnIntRingRow.veiledFits Tryz.prog Tryz.f10.params.toList (Tryz.f10.params.toList ++ Rows.fnIntRingSpec.plain.varTypes Tryz.prog ++ Tryz.f10.resultTypes.toList) : Bool) = true := by kernel_rfl
set_option maxRecDepth 100000 in
theorem closed : joinedFacts Tryz.prog 10 Tryz.f10 Rows.fnIntRingSpec Rows.fnIntRingRow = true := by
  unfold joinedFacts
  exact (and2 (and2 (and2 (and2 (and2 (and2 (and2 (and2 (and2 (and2 (and2 (and2 (and2 (and2 (and2 (and2 (and2 (and2 (and2 (and2 (and2 (and2 (and2 (and2 (and2 (and2 (and2 (and2 (and2 (and2 (and2 fact1 fact2) fact3) fact4) fact5) fact6) fact7) fact8) fact9) fact10) fact11) fact12) fact13) fact14) fact15) fact16) fact17) fact18) fact19) fact20) fact21) fact22) fact23) fact24) fact25) fact26) fact27) fact28) fact29) fact30) fact31) fact32)
end Go.Proofs.YtiohlcfdoleooaaGreatDoor.fnIntRing
