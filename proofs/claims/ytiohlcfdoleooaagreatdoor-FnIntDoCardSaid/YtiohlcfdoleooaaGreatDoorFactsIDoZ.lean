/-
  The closed facts of the row of laws.FnIntDo, one theorem each.
-/
import Derived.Test.YtiohlcfdoleooaaGreatDoorRows
import Derived.JoinedOf
import Derived.KernelRfl
namespace Go.Proofs.YtiohlcfdoleooaaGreatDoor.fnIntDo
open Go

theorem and2 {a b : Bool} (ha : a = true) (hb : b = true) : (a && b) = true := by rw [ha, hb]; rfl
theorem fact1 : (Rows.fnIntDoRow.wf (OpenSpec.ofChange Rows.fnIntDoSpec) : Bool) = true := by kernel_rfl
theorem fact2 : (laidOutB Tryz.prog : Bool) = true := by kernel_rfl
theorem fact3 : (mapsRowed Tryz.prog : Bool) = true := by kernel_rfl
theorem fact4 : (Tryz.f9.params.all (Tryz.prog.readableRec ·) : Bool) = true := by kernel_rfl
theorem fact5 : (namedTie Tryz.prog Rows.fnIntDoRow.named Rows.fnIntDoSpec.vars : Bool) = true := by kernel_rfl
theorem fact6 : ((Rows.fnIntDoRow.stops == []) : Bool) = true := by kernel_rfl
theorem fact7 : ((Tryz.prog.stops == []) : Bool) = true := by kernel_rfl
theorem fact8 : ((Rows.fnIntDoRow.knobs == []) : Bool) = true := by kernel_rfl
theorem fact9 : ((Tryz.prog.stopKnobs == []) : Bool) = true := by kernel_rfl
theorem fact10 : ((Rows.fnIntDoRow.inPlace == Tryz.prog.inPlace 9) : Bool) = true := by kernel_rfl
theorem fact11 : ((Rows.fnIntDoRow.unfollowed == Tryz.prog.unfollowed 9) : Bool) = true := by kernel_rfl
theorem fact12 : ((Rows.fnIntDoRow.recurses == Tryz.prog.recurses 9) : Bool) = true := by kernel_rfl
theorem fact13 : ((Rows.fnIntDoRow.named == Tryz.prog.varsNamed 9) : Bool) = true := by kernel_rfl
theorem fact14 : ((Rows.fnIntDoRow.maps == (Tryz.f9.params.toList ++ Rows.fnIntDoSpec.plain.varTypes Tryz.prog).any (Tryz.prog.mapsRec ·)) : Bool) = true := by kernel_rfl
theorem fact15 : ((Rows.fnIntDoRow.ifaces == (Tryz.f9.params.toList ++ Rows.fnIntDoSpec.plain.varTypes Tryz.prog).any (Tryz.prog.ifacesRec ·)) : Bool) = true := by kernel_rfl
theorem fact16 : ((Rows.fnIntDoRow.mapsOut == Tryz.prog.mapsAmong Tryz.f9.resultTypes.toList) : Bool) = true := by kernel_rfl
theorem fact17 : ((Rows.fnIntDoRow.loops == (Tryz.f9.params.toList ++ Rows.fnIntDoSpec.plain.varTypes Tryz.prog).any (Tryz.prog.loopsFrom ·)) : Bool) = true := by kernel_rfl
theorem fact18 : ((Rows.fnIntDoRow.wideKeys == (Tryz.f9.params.toList ++ Rows.fnIntDoSpec.plain.varTypes Tryz.prog ++ Tryz.f9.resultTypes.toList).any (Tryz.prog.wideKeysFrom ·)) : Bool) = true := by kernel_rfl
theorem fact19 : (Rows.fnIntDoSpec.vars.all (Tryz.prog.varReadable ·) : Bool) = true := by kernel_rfl
theorem fact20 : (Tryz.f9.resultTypes.all (fun t => Tryz.prog.readableRec t && decide (t < Tryz.prog.types.size)) : Bool) = true := by kernel_rfl
theorem fact21 : ((Rows.fnIntDoRow.ifacesOut == Tryz.f9.resultTypes.toList.any (Tryz.prog.ifacesRec ·)) : Bool) = true := by kernel_rfl
theorem fact22 : ((Rows.fnIntDoRow.loopsOut == Tryz.f9.resultTypes.toList.any (Tryz.prog.loopsFrom ·)) : Bool) = true := by kernel_rfl
theorem fact23 : ((Rows.fnIntDoRow.plainKeys == Tryz.prog.plainKeys) : Bool) = true := by kernel_rfl
theorem fact24 : (Rows.fnIntDoRow.shortTexts.isNone : Bool) = true := by kernel_rfl
theorem fact25 : (Tryz.prog.stopsHeard : Bool) = true := by kernel_rfl
theorem fact26 : (Tryz.prog.mayEnter : Bool) = true := by kernel_rfl
theorem fact27 : ((Rows.fnIntDoRow.lifted == Tryz.prog.liftsFinal) : Bool) = true := by kernel_rfl
theorem fact28 : ((Tryz.prog.make == some Rows.fnIntDoRow.make) : Bool) = true := by kernel_rfl
theorem fact29 : ((Rows.fnIntDoRow.kinds == (if Rows.fnIntDoRow.domain.isEmpty then [] else Tryz.f9.params.toList.map fun t => match Tryz.prog.underlying t with | some (.int k) => some k | _ => none)) : Bool) = true := by kernel_rfl
theorem fact30 : ((Rows.fnIntDoRow.pinned == Rows.fnIntDoRow.pinnedBy) : Bool) = true := by kernel_rfl
theorem fact31 : ((Rows.fnIntDoRow.veiled == (Tryz.f9.params.toList ++ Rows.fnIntDoSpec.plain.varTypes Tryz.prog ++ Tryz.f9.resultTypes.toList).any (Tryz.prog.veiledRec ·)) : Bool) = true := by kernel_rfl
theorem fact32 : (Rows.fnIntDoRow.veiledFits Tryz.prog Tryz.f9.params.toList (Tryz.f9.params.toList ++ Rows.fnIntDoSpec.plain.varTypes Tryz.prog ++ Tryz.f9.resultTypes.toList) : Bool) = true := by kernel_rfl
set_option maxRecDepth 100000 in
theorem closed : joinedFacts Tryz.prog 9 Tryz.f9 Rows.fnIntDoSpec Rows.fnIntDoRow = true := by
  unfold joinedFacts
  exact (and2 (and2 (and2 (and2 (and2 (and2 (and2 (and2 (and2 (and2 (and2 (and2 (and2 (and2 (and2 (and2 (and2 (and2 (and2 (and2 (and2 (and2 (and2 (and2 (and2 (and2 (and2 (and2 (and2 (and2 (and2 fact1 fact2) fact3) fact4) fact5) fact6) fact7) fact8) fact9) fact10) fact11) fact12) fact13) fact14) fact15) fact16) fact17) fact18) fact19) fact20) fact21) fact22) fact23) fact24) fact25) fact26) fact27) fact28) fact29) fact30) fact31) fact32)
end Go.Proofs.YtiohlcfdoleooaaGreatDoor.fnIntDo
