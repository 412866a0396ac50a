/-
  The closed facts of the row of laws.FnUintAbout, one theorem each.
-/
import Derived.Test.YthipbglnaalhmaaGreatDoorRows
import Derived.JoinedOf
import Derived.KernelRfl
namespace Go.Proofs.YthipbglnaalhmaaGreatDoor.fnUintAbout
open Go

theorem and2 {a b : Bool} (ha : a = true) (hb : b = true) : (a && b) = true := by rw [ha, hb]; rfl
theorem fact1 : (Rows.fnUintAboutRow.wf (OpenSpec.ofChange Rows.fnUintAboutSpec) : Bool) = true := by kernel_rfl
theorem fact2 : (laidOutB Tryz.prog : Bool) = true := by kernel_rfl
theorem fact3 : (mapsRowed Tryz.prog : Bool) = true := by kernel_rfl
theorem fact4 : (Tryz.f6.params.all (Tryz.prog.readableRec ·) : Bool) = true := by kernel_rfl
theorem fact5 : (namedTie Tryz.prog Rows.fnUintAboutRow.named Rows.fnUintAboutSpec.vars : Bool) = true := by kernel_rfl
theorem fact6 : ((Rows.fnUintAboutRow.stops == []) : Bool) = true := by kernel_rfl
theorem fact7 : ((Tryz.prog.stops == []) : Bool) = true := by kernel_rfl
theorem fact8 : ((Rows.fnUintAboutRow.knobs == []) : Bool) = true := by kernel_rfl
theorem fact9 : ((Tryz.prog.stopKnobs == []) : Bool) = true := by kernel_rfl
theorem fact10 : ((Rows.fnUintAboutRow.inPlace == Tryz.prog.inPlace 6) : Bool) = true := by kernel_rfl
theorem fact11 : ((Rows.fnUintAboutRow.unfollowed == Tryz.prog.unfollowed 6) : Bool) = true := by kernel_rfl
theorem fact12 : ((Rows.fnUintAboutRow.recurses == Tryz.prog.recurses 6) : Bool) = true := by kernel_rfl
theorem fact13 : ((Rows.fnUintAboutRow.named == Tryz.prog.varsNamed 6) : Bool) = true := by kernel_rfl
theorem fact14 : ((Rows.fnUintAboutRow.maps == (Tryz.f6.params.toList ++ Rows.fnUintAboutSpec.plain.varTypes Tryz.prog).any (Tryz.prog.mapsRec ·)) : Bool) = true := by kernel_rfl
theorem fact15 : ((Rows.fnUintAboutRow.ifaces == (Tryz.f6.params.toList ++ Rows.fnUintAboutSpec.plain.varTypes Tryz.prog).any (Tryz.prog.ifacesRec ·)) : Bool) = true := by kernel_rfl
theorem fact16 : ((Rows.fnUintAboutRow.mapsOut == Tryz.prog.mapsAmong Tryz.f6.resultTypes.toList) : Bool) = true := by kernel_rfl
theorem fact17 : ((Rows.fnUintAboutRow.loops == (Tryz.f6.params.toList ++ Rows.fnUintAboutSpec.plain.varTypes Tryz.prog).any (Tryz.prog.loopsFrom ·)) : Bool) = true := by kernel_rfl
theorem fact18 : ((Rows.fnUintAboutRow.wideKeys == (Tryz.f6.params.toList ++ Rows.fnUintAboutSpec.plain.varTypes Tryz.prog ++ Tryz.f6.resultTypes.toList).any (Tryz.prog.wideKeysFrom ·)) : Bool) = true := by kernel_rfl
theorem fact19 : (Rows.fnUintAboutSpec.vars.all (Tryz.prog.varReadable ·) : Bool) = true := by kernel_rfl
theorem fact20 : (Tryz.f6.resultTypes.all (fun t => Tryz.prog.readableRec t && decide (t < Tryz.prog.types.size)) : Bool) = true := by kernel_rfl
theorem fact21 : ((Rows.fnUintAboutRow.ifacesOut == Tryz.f6.resultTypes.toList.any (Tryz.prog.ifacesRec ·)) : Bool) = true := by kernel_rfl
theorem fact22 : ((Rows.fnUintAboutRow.loopsOut == Tryz.f6.resultTypes.toList.any (Tryz.prog.loopsFrom ·)) : Bool) = true := by kernel_rfl
theorem fact23 : ((Rows.fnUintAboutRow.plainKeys == Tryz.prog.plainKeys) : Bool) = true := by kernel_rfl
theorem fact24 : (Rows.fnUintAboutRow.shortTexts.isNone : Bool) = true := by kernel_rfl
theorem fact25 : (Tryz.prog.stopsHeard : Bool) = true := by kernel_rfl
theorem fact26 : (Tryz.prog.mayEnter : Bool) = true := by kernel_rfl
theorem fact27 : ((Rows.fnUintAboutRow.lifted == Tryz.prog.liftsFinal) : Bool) = true := by kernel_rfl
theorem fact28 : ((Tryz.prog.make == some Rows.fnUintAboutRow.make) : Bool) = true := by kernel_rfl
theorem fact29 : ((Rows.fnUintAboutRow.kinds == (if Rows.fnUintAboutRow.domain.isEmpty then [] else Tryz.f6.params.toList.map fun t => match Tryz.prog.underlying t with | some (.int k) => some k | _ => none)) : Bool) = true := by kernel_rfl
theorem fact30 : ((Rows.fnUintAboutRow.pinned == Rows.fnUintAboutRow.pinnedBy) : Bool) = true := by kernel_rfl
theorem fact31 : ((Rows.fnUintAboutRow.veiled == (Tryz.f6.params.toList ++ Rows.fnUintAboutSpec.plain.varTypes Tryz.prog ++ Tryz.f6.resultTypes.toList).any (Tryz.prog.veiledRec ·)) : Bool) = true := by kernel_rfl
theorem fact32 : (Rows.fnUintAboutRow.veiledFits Tryz.prog Tryz.f6.params.toList (Tryz.f6.params.toList ++ Rows.fnUintAboutSpec.plain.varTypes Tryz.prog ++ Tryz.f6.resultTypes.toList) : Bool) = true := by kernel_rfl
set_option maxRecDepth 100000 in
theorem closed : joinedFacts Tryz.prog 6 Tryz.f6 Rows.fnUintAboutSpec Rows.fnUintAboutRow = true := by
  unfold joinedFacts
  exact (and2 (and2 (and2 (and2 (and2 (and2 (and2 (and2 (and2 (and2 (and2 (and2 (and2 (and2 (and2 (and2 (and2 (and2 (and2 (and2 (and2 (and2 (and2 (and2 (and2 (and2 (and2 (and2 (and2 (and2 (and2 fact1 fact2) fact3) fact4) fact5) fact6) fact7) fact8) fact9) fact10) fact11) fact12) fact13) fact14) fact15) fact16) fact17) fact18) fact19) fact20) fact21) fact22) fact23) fact24) fact25) fact26) fact27) fact28) fact29) fact30) fact31) fact32)
end Go.Proofs.YthipbglnaalhmaaGreatDoor.fnUintAbout
