/-
  The closed facts of the row of laws.FnUintDo, one theorem each.
-/
import Derived.Test.YtiohlcfdoleooaaGreatDoorRows
import Derived.JoinedOf
import Derived.KernelRfl
namespace Go.Proofs.YtiohlcfdoleooaaGreatDoor.fnUintDo
open Go

theorem and2 {a b : Bool} (ha : a = true) (hb : b = true) : (a && b) = true := by rw [ha, hb]; rfl
theorem fact1 : (Rows.fnUintDoRow.wf (OpenSpec.ofChange Rows.fnUintDoSpec) : Bool) = true := by kernel_rfl
theorem fact2 : (laidOutB Tryz.prog : Bool) = true := by kernel_rfl
theorem fact3 : (mapsRowed Tryz.prog : Bool) = true := by kernel_rfl
theorem fact4 : (Tryz.f5.params.all (Tryz.prog.readableRec ·) : Bool) = true := by kernel_rfl
theorem fact5 : (namedTie Tryz.prog Rows.fnUintDoRow.named Rows.fnUintDoSpec.vars : Bool) = true := by kernel_rfl
theorem fact6 : ((Rows.fnUintDoRow.stops == []) : Bool) = true := by kernel_rfl
theorem fact7 : ((Tryz.prog.stops == []) : Bool) = true := by kernel_rfl
theorem fact8 : ((Rows.fnUintDoRow.knobs == []) : Bool) = true := by kernel_rfl
theorem fact9 : ((Tryz.prog.stopKnobs == []) : Bool) = true := by kernel_rfl
theorem fact10 : ((Rows.fnUintDoRow.inPlace == Tryz.prog.inPlace 5) : Bool) = true := by kernel_rfl
theorem fact11 : ((Rows.fnUintDoRow.unfollowed == Tryz.prog.unfollowed 5) : Bool) = true := by kernel_rfl
theorem fact12 : ((Rows.fnUintDoRow.recurses == Tryz.prog.recurses 5) : Bool) = true := by kernel_rfl
theorem fact13 : ((Rows.fnUintDoRow.named == Tryz.prog.varsNamed 5) : Bool) = true := by kernel_rfl
theorem fact14 : ((Rows.fnUintDoRow.maps == (Tryz.f5.params.toList ++ Rows.fnUintDoSpec.plain.varTypes Tryz.prog).any (Tryz.prog.mapsRec ·)) : Bool) = true := by kernel_rfl
theorem fact15 : ((Rows.fnUintDoRow.ifaces == (Tryz.f5.params.toList ++ Rows.fnUintDoSpec.plain.varTypes Tryz.prog).any (Tryz.prog.ifacesRec ·)) : Bool) = true := by kernel_rfl
theorem fact16 : ((Rows.fnUintDoRow.mapsOut == Tryz.prog.mapsAmong Tryz.f5.resultTypes.toList) : Bool) = true := by kernel_rfl
theorem fact17 : ((Rows.fnUintDoRow.loops == (Tryz.f5.params.toList ++ Rows.fnUintDoSpec.plain.varTypes Tryz.prog).any (Tryz.prog.loopsFrom ·)) : Bool) = true := by kernel_rfl
theorem fact18 : ((Rows.fnUintDoRow.wideKeys == (Tryz.f5.params.toList ++ Rows.fnUintDoSpec.plain.varTypes Tryz.prog ++ Tryz.f5.resultTypes.toList).any (Tryz.prog.wideKeysFrom ·)) : Bool) = true := by kernel_rfl
theorem fact19 : (Rows.fnUintDoSpec.vars.all (Tryz.prog.varReadable ·) : Bool) = true := by kernel_rfl
theorem fact20 : (Tryz.f5.resultTypes.all (fun t => Tryz.prog.readableRec t && decide (t < Tryz.prog.types.size)) : Bool) = true := by kernel_rfl
theorem fact21 : ((Rows.fnUintDoRow.ifacesOut == Tryz.f5.resultTypes.toList.any (Tryz.prog.ifacesRec ·)) : Bool) = true := by kernel_rfl
theorem fact22 : ((Rows.fnUintDoRow.loopsOut == Tryz.f5.resultTypes.toList.any (Tryz.prog.loopsFrom ·)) : Bool) = true := by kernel_rfl
theorem fact23 : ((Rows.fnUintDoRow.plainKeys == Tryz.prog.plainKeys) : Bool) = true := by kernel_rfl
theorem fact24 : (Rows.fnUintDoRow.shortTexts.isNone : Bool) = true := by kernel_rfl
theorem fact25 : (Tryz.prog.stopsHeard : Bool) = true := by kernel_rfl
theorem fact26 : (Tryz.prog.mayEnter : Bool) = true := by kernel_rfl
theorem fact27 : ((Rows.fnUintDoRow.lifted == Tryz.prog.liftsFinal) : Bool) = true := by kernel_rfl
theorem fact28 : ((Tryz.prog.make == some Rows.fnUintDoRow.make) : Bool) = true := by kernel_rfl
theorem fact29 : ((Rows.fnUintDoRow.kinds == (if Rows.fnUintDoRow.domain.isEmpty then [] else Tryz.f5.params.toList.map fun t => match Tryz.prog.underlying t with | some (.int k) => some k | _ => none)) : Bool) = true := by kernel_rfl
theorem fact30 : ((Rows.fnUintDoRow.pinned == Rows.fnUintDoRow.pinnedBy) : Bool) = true := by kernel_rfl
theorem fact31 : ((Rows.fnUintDoRow.veiled == (Tryz.f5.params.toList ++ Rows.fnUintDoSpec.plain.varTypes Tryz.prog ++ Tryz.f5.resultTypes.toList).any (Tryz.prog.veiledRec ·)) : Bool) = true := by kernel_rfl
theorem fact32 : (Rows.fnUintDoRow.veiledFits Tryz.prog Tryz.f5.params.toList (Tryz.f5.params.toList ++ Rows.fnUintDoSpec.plain.varTypes Tryz.prog ++ Tryz.f5.resultTypes.toList) : Bool) = true := by kernel_rfl
set_option maxRecDepth 100000 in
theorem closed : joinedFacts Tryz.prog 5 Tryz.f5 Rows.fnUintDoSpec Rows.fnUintDoRow = true := by
  unfold joinedFacts
  exact (and2 (and2 (and2 (and2 (and2 (and2 (and2 (and2 (and2 (and2 (and2 (and2 (and2 (and2 (and2 (and2 (and2 (and2 (and2 (and2 (and2 (and2 (and2 (and2 (and2 (and2 (and2 (and2 (and2 (and2 (and2 fact1 fact2) fact3) fact4) fact5) fact6) fact7) fact8) fact9) fact10) fact11) fact12) fact13) fact14) fact15) fact16) fact17) fact18) fact19) fact20) fact21) fact22) fact23) fact24) fact25) fact26) fact27) fact28) fact29) fact30) fact31) fact32)
end Go.Proofs.YtiohlcfdoleooaaGreatDoor.fnUintDo
