/-
  The closed facts of the row of laws.FnUintBytes, one theorem each.
-/
import Derived.Test.YtiohlcfdoleooaaGreatDoorRows
import Derived.JoinedOf
import Derived.KernelRfl
namespace Go.Proofs.YtiohlcfdoleooaaGreatDoor.fnUintBytes
open Go

theorem and2 {a b : Bool} (ha : a = true) (hb : b = true) : (a && b) = true := by rw [ha, hb]; rfl
theorem fact1 : (Rows.fnUintBytesRow.wf (OpenSpec.ofChange Rows.fnUintBytesSpec) : Bool) = true := by kernel_rfl
theorem fact2 : (laidOutB Tryz.prog : Bool) = true := by kernel_rfl
theorem fact3 : (mapsRowed Tryz.prog : Bool) = true := by kernel_rfl
theorem fact4 : (Tryz.f3.params.all (Tryz.prog.readableRec ·) : Bool) = true := by kernel_rfl
theorem fact5 : (namedTie Tryz.prog Rows.fnUintBytesRow.named Rows.fnUintBytesSpec.vars : Bool) = true := by kernel_rfl
theorem fact6 : ((Rows.fnUintBytesRow.stops == []) : Bool) = true := by kernel_rfl
theorem fact7 : ((Tryz.prog.stops == []) : Bool) = true := by kernel_rfl
theorem fact8 : ((Rows.fnUintBytesRow.knobs == []) : Bool) = true := by kernel_rfl
theorem fact9 : ((Tryz.prog.stopKnobs == []) : Bool) = true := by kernel_rfl
theorem fact10 : ((Rows.fnUintBytesRow.inPlace == Tryz.prog.inPlace 3) : Bool) = true := by kernel_rfl
theorem fact11 : ((Rows.fnUintBytesRow.unfollowed == Tryz.prog.unfollowed 3) : Bool) = true := by kernel_rfl
theorem fact12 : ((Rows.fnUintBytesRow.recurses == Tryz.prog.recurses 3) : Bool) = true := by kernel_rfl
theorem fact13 : ((Rows.fnUintBytesRow.named == Tryz.prog.varsNamed 3) : Bool) = true := by kernel_rfl
theorem fact14 : ((Rows.fnUintBytesRow.maps == (Tryz.f3.params.toList ++ Rows.fnUintBytesSpec.plain.varTypes Tryz.prog).any (Tryz.prog.mapsRec ·)) : Bool) = true := by kernel_rfl
theorem fact15 : ((Rows.fnUintBytesRow.ifaces == (Tryz.f3.params.toList ++ Rows.fnUintBytesSpec.plain.varTypes Tryz.prog).any (Tryz.prog.ifacesRec ·)) : Bool) = true := by kernel_rfl
theorem fact16 : ((Rows.fnUintBytesRow.mapsOut == Tryz.prog.mapsAmong Tryz.f3.resultTypes.toList) : Bool) = true := by kernel_rfl
theorem fact17 : ((Rows.fnUintBytesRow.loops == (Tryz.f3.params.toList ++ Rows.fnUintBytesSpec.plain.varTypes Tryz.prog).any (Tryz.prog.loopsFrom ·)) : Bool) = true := by kernel_rfl
theorem fact18 : ((Rows.fnUintBytesRow.wideKeys == (Tryz.f3.params.toList ++ Rows.fnUintBytesSpec.plain.varTypes Tryz.prog ++ Tryz.f3.resultTypes.toList).any (Tryz.prog.wideKeysFrom ·)) : Bool) = true := by kernel_rfl
theorem fact19 : (Rows.fnUintBytesSpec.vars.all (Tryz.prog.varReadable ·) : Bool) = true := by kernel_rfl
theorem fact20 : (Tryz.f3.resultTypes.all (fun t => Tryz.prog.readableRec t && decide (t < Tryz.prog.types.size)) : Bool) = true := by kernel_rfl
theorem fact21 : ((Rows.fnUintBytesRow.ifacesOut == Tryz.f3.resultTypes.toList.any (Tryz.prog.ifacesRec ·)) : Bool) = true := by kernel_rfl
theorem fact22 : ((Rows.fnUintBytesRow.loopsOut == Tryz.f3.resultTypes.toList.any (Tryz.prog.loopsFrom ·)) : Bool) = true := by kernel_rfl
theorem fact23 : ((Rows.fnUintBytesRow.plainKeys == Tryz.prog.plainKeys) : Bool) = true := by kernel_rfl
theorem fact24 : (Rows.fnUintBytesRow.shortTexts.isNone : Bool) = true := by kernel_rfl
theorem fact25 : (Tryz.prog.stopsHeard : Bool) = true := by kernel_rfl
theorem fact26 : (Tryz.prog.mayEnter : Bool) = true := by kernel_rfl
theorem fact27 : ((Rows.fnUintBytesRow.lifted == Tryz.prog.liftsFinal) : Bool) = true := by kernel_rfl
theorem fact28 : ((Tryz.prog.make == some Rows.fnUintBytesRow.make) : Bool) = true := by kernel_rfl
theorem fact29 : ((Rows.fnUintBytesRow.kinds == (if Rows.fnUintBytesRow.domain.isEmpty then [] else Tryz.f3.params.toList.map fun t => match Tryz.prog.underlying t with | some (.int k) => some k | _ => none)) : Bool) = true := by kernel_rfl
theorem fact30 : ((Rows.fnUintBytesRow.pinned == Rows.fnUintBytesRow.pinnedBy) : Bool) = true := by kernel_rfl
theorem fact31 : ((Rows.fnUintBytesRow.veiled == (Tryz.f3.params.toList ++ Rows.fnUintBytesSpec.plain.varTypes Tryz.prog ++ Tryz.f3.resultTypes.toList).any (Tryz.prog.veiledRec ·)) : Bool) = true := by kernel_rfl
theorem fact32 : (Rows.fnUintBytesRow.veiledFits Tryz.prog Tryz.f3.params.toList (Tryz.f3.params.toList ++ Rows.fnUintBytesSpec.plain.varTypes Tryz.prog ++ Tryz.f3.resultTypes.toList) : Bool) = true := by kernel_rfl
set_option maxRecDepth 100000 in
theorem closed : joinedFacts Tryz.prog 3 Tryz.f3 Rows.fnUintBytesSpec Rows.fnUintBytesRow = true := by
  unfold joinedFacts
  exact (and2 (and2 (and2 (and2 (and2 (and2 (and2 (and2 (and2 (and2 (and2 (and2 (and2 (and2 (and2 (and2 (and2 (and2 (and2 (and2 (and2 (and2 (and2 (and2 (and2 (and2 (and2 (and2 (and2 (and2 (and2 fact1 fact2) fact3) fact4) fact5) fact6) fact7) fact8) fact9) fact10) fact11) fact12) fact13) fact14) fact15) fact16) fact17) fact18) fact19) fact20) fact21) fact22) fact23) fact24) fact25) fact26) fact27) fact28) fact29) fact30) fact31) fact32)
end Go.Proofs.YtiohlcfdoleooaaGreatDoor.fnUintBytes
