/-
  The closed facts of the row of laws.FnIntRaw, one theorem each.
-/
import Derived.Test.YtiohlcfdoleooaaGreatDoorRows
import Derived.JoinedOf
import Derived.KernelRfl
namespace Go.Proofs.YtiohlcfdoleooaaGreatDoor.fnIntRaw
open Go

theorem and2 {a b : Bool} (ha : a = true) (hb : b = true) : (a && b) = true := by rw [ha, hb]; rfl
theorem fact1 : (Rows.fnIntRawRow.wf (OpenSpec.ofChange Rows.fnIntRawSpec) : Bool) = true := by kernel_rfl
theorem fact2 : (laidOutB Tryz.prog : Bool) = true := by kernel_rfl
theorem fact3 : (mapsRowed Tryz.prog : Bool) = true := by kernel_rfl
theorem fact4 : (Tryz.f12.params.all (Tryz.prog.readableRec ·) : Bool) = true := by kernel_rfl
theorem fact5 : (namedTie Tryz.prog Rows.fnIntRawRow.named Rows.fnIntRawSpec.vars : Bool) = true := by kernel_rfl
theorem fact6 : ((Rows.fnIntRawRow.stops == []) : Bool) = true := by kernel_rfl
theorem fact7 : ((Tryz.prog.stops == []) : Bool) = true := by kernel_rfl
theorem fact8 : ((Rows.fnIntRawRow.knobs == []) : Bool) = true := by kernel_rfl
theorem fact9 : ((Tryz.prog.stopKnobs == []) : Bool) = true := by kernel_rfl
theorem fact10 : ((Rows.fnIntRawRow.inPlace == Tryz.prog.inPlace 12) : Bool) = true := by kernel_rfl
theorem fact11 : ((Rows.fnIntRawRow.unfollowed == Tryz.prog.unfollowed 12) : Bool) = true := by kernel_rfl
theorem fact12 : ((Rows.fnIntRawRow.recurses == Tryz.prog.recurses 12) : Bool) = true := by kernel_rfl
theorem fact13 : ((Rows.fnIntRawRow.named == Tryz.prog.varsNamed 12) : Bool) = true := by kernel_rfl
theorem fact14 : ((Rows.fnIntRawRow.maps == (Tryz.f12.params.toList ++ Rows.fnIntRawSpec.plain.varTypes Tryz.prog).any (Tryz.prog.mapsRec ·)) : Bool) = true := by kernel_rfl
theorem fact15 : ((Rows.fnIntRawRow.ifaces == (Tryz.f12.params.toList ++ Rows.fnIntRawSpec.plain.varTypes Tryz.prog).any (Tryz.prog.ifacesRec ·)) : Bool) = true := by kernel_rfl
theorem fact16 : ((Rows.fnIntRawRow.mapsOut == Tryz.prog.mapsAmong Tryz.f12.resultTypes.toList) : Bool) = true := by kernel_rfl
theorem fact17 : ((Rows.fnIntRawRow.loops == (Tryz.f12.params.toList ++ Rows.fnIntRawSpec.plain.varTypes Tryz.prog).any (Tryz.prog.loopsFrom ·)) : Bool) = true := by kernel_rfl
theorem fact18 : ((Rows.fnIntRawRow.wideKeys == (Tryz.f12.params.toList ++ Rows.fnIntRawSpec.plain.varTypes Tryz.prog ++ Tryz.f12.resultTypes.toList).any (Tryz.prog.wideKeysFrom ·)) : Bool) = true := by kernel_rfl
theorem fact19 : (Rows.fnIntRawSpec.vars.all (Tryz.prog.varReadable ·) : Bool) = true := by kernel_rfl
theorem fact20 : (Tryz.f12.resultTypes.all (fun t => Tryz.prog.readableRec t && decide (t < Tryz.prog.types.size)) : Bool) = true := by kernel_rfl
theorem fact21 : ((Rows.fnIntRawRow.ifacesOut == Tryz.f12.resultTypes.toList.any (Tryz.prog.ifacesRec ·)) : Bool) = true := by kernel_rfl
theorem fact22 : ((Rows.fnIntRawRow.loopsOut == Tryz.f12.resultTypes.toList.any (Tryz.prog.loopsFrom ·)) : Bool) = true := by kernel_rfl
theorem fact23 : ((Rows.fnIntRawRow.plainKeys == Tryz.prog.plainKeys) : Bool) = true := by kernel_rfl
theorem fact24 : (Rows.fnIntRawRow.shortTexts.isNone : Bool) = true := by kernel_rfl
theorem fact25 : (Tryz.prog.stopsHeard : Bool) = true := by kernel_rfl
theorem fact26 : (Tryz.prog.mayEnter : Bool) = true := by kernel_rfl
theorem fact27 : ((Rows.fnIntRawRow.lifted == Tryz.prog.liftsFinal) : Bool) = true := by kernel_rfl
theorem fact28 : ((Tryz.prog.make == some Rows.fnIntRawRow.make) : Bool) = true := by kernel_rfl
theorem fact29 : ((Rows.fnIntRawRow.kinds == (if Rows.fnIntRawRow.domain.isEmpty then [] else Tryz.f12.params.toList.map fun t => match Tryz.prog.underlying t with | some (.int k) => some k | _ => none)) : Bool) = true := by kernel_rfl
theorem fact30 : ((Rows.fnIntRawRow.pinned == Rows.fnIntRawRow.pinnedBy) : Bool) = true := by kernel_rfl
theorem fact31 : ((Rows.fnIntRawRow.veiled == (Tryz.f12.params.toList ++ Rows.fnIntRawSpec.plain.varTypes Tryz.prog ++ Tryz.f12.resultTypes.toList).any (Tryz.prog.veiledRec ·)) : Bool) = true := by kernel_rfl
theorem fact32 : (Rows.fnIntRawRow.veiledFits Tryz.prog Tryz.f12.params.toList (Tryz.f12.params.toList ++ Rows.fnIntRawSpec.plain.varTypes Tryz.prog ++ Tryz.f12.resultTypes.toList) : Bool) = true := by kernel_rfl
set_option maxRecDepth 100000 in
theorem closed : joinedFacts Tryz.prog 12 Tryz.f12 Rows.fnIntRawSpec Rows.fnIntRawRow = true := by
  unfold joinedFacts
  exact (and2 (and2 (and2 (and2 (and2 (and2 (and2 (and2 (and2 (and2 (and2 (and2 (and2 (and2 (and2 (and2 (and2 (and2 (and2 (and2 (and2 (and2 (and2 (and2 (and2 (and2 (and2 (and2 (and2 (and2 (and2 fact1 fact2) fact3) fact4) fact5) fact6) fact7) fact8) fact9) fact10) fact11) fact12) fact13) fact14) fact15) fact16) fact17) fact18) fact19) fact20) fact21) fact22) fact23) fact24) fact25) fact26) fact27) fact28) fact29) fact30) fact31) fact32)
end Go.Proofs.YtiohlcfdoleooaaGreatDoor.fnIntRaw
