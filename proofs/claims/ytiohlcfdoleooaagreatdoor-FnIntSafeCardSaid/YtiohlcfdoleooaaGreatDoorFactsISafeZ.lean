/-
  The closed facts of the row of laws.FnIntSafe, one theorem each.
-/
import Derived.Test.YtiohlcfdoleooaaGreatDoorRows
import Derived.JoinedOf
import Derived.KernelRfl
namespace Go.Proofs.YtiohlcfdoleooaaGreatDoor.fnIntSafe
open Go

theorem and2 {a b : Bool} (ha : a = true) (hb : b = true) : (a && b) = true := by rw [ha, hb]; rfl
theorem fact1 : (Rows.fnIntSafeRow.wf (OpenSpec.ofChange Rows.fnIntSafeSpec) : Bool) = true := by kernel_rfl
theorem fact2 : (laidOutB Tryz.prog : Bool) = true := by kernel_rfl
theorem fact3 : (mapsRowed Tryz.prog : Bool) = true := by kernel_rfl
theorem fact4 : (Tryz.f11.params.all (Tryz.prog.readableRec ·) : Bool) = true := by kernel_rfl
theorem fact5 : (namedTie Tryz.prog Rows.fnIntSafeRow.named Rows.fnIntSafeSpec.vars : Bool) = true := by kernel_rfl
theorem fact6 : ((Rows.fnIntSafeRow.stops == []) : Bool) = true := by kernel_rfl
theorem fact7 : ((Tryz.prog.stops == []) : Bool) = true := by kernel_rfl
theorem fact8 : ((Rows.fnIntSafeRow.knobs == []) : Bool) = true := by kernel_rfl
theorem fact9 : ((Tryz.prog.stopKnobs == []) : Bool) = true := by kernel_rfl
theorem fact10 : ((Rows.fnIntSafeRow.inPlace == Tryz.prog.inPlace 11) : Bool) = true := by kernel_rfl
theorem fact11 : ((Rows.fnIntSafeRow.unfollowed == Tryz.prog.unfollowed 11) : Bool) = true := by kernel_rfl
theorem fact12 : ((Rows.fnIntSafeRow.recurses == Tryz.prog.recurses 11) : Bool) = true := by kernel_rfl
theorem fact13 : ((Rows.fnIntSafeRow.named == Tryz.prog.varsNamed 11) : Bool) = true := by kernel_rfl
theorem fact14 : ((Rows.fnIntSafeRow.maps == (Tryz.f11.params.toList ++ Rows.fnIntSafeSpec.plain.varTypes Tryz.prog).any (Tryz.prog.mapsRec ·)) : Bool) = true := by kernel_rfl
theorem fact15 : ((Rows.fnIntSafeRow.ifaces == (Tryz.f11.params.toList ++ Rows.fnIntSafeSpec.plain.varTypes Tryz.prog).any (Tryz.prog.ifacesRec ·)) : Bool) = true := by kernel_rfl
theorem fact16 : ((Rows.fnIntSafeRow.mapsOut == Tryz.prog.mapsAmong Tryz.f11.resultTypes.toList) : Bool) = true := by kernel_rfl
theorem fact17 : ((Rows.fnIntSafeRow.loops == (Tryz.f11.params.toList ++ Rows.fnIntSafeSpec.plain.varTypes Tryz.prog).any (Tryz.prog.loopsFrom ·)) : Bool) = true := by kernel_rfl
theorem fact18 : ((Rows.fnIntSafeRow.wideKeys == (Tryz.f11.params.toList ++ Rows.fnIntSafeSpec.plain.varTypes Tryz.prog ++ Tryz.f11.resultTypes.toList).any (Tryz.prog.wideKeysFrom ·)) : Bool) = true := by kernel_rfl
theorem fact19 : (Rows.fnIntSafeSpec.vars.all (Tryz.prog.varReadable ·) : Bool) = true := by kernel_rfl
theorem fact20 : (Tryz.f11.resultTypes.all (fun t => Tryz.prog.readableRec t && decide (t < Tryz.prog.types.size)) : Bool) = true := by kernel_rfl
theorem fact21 : ((Rows.fnIntSafeRow.ifacesOut == Tryz.f11.resultTypes.toList.any (Tryz.prog.ifacesRec ·)) : Bool) = true := by kernel_rfl
theorem fact22 : ((Rows.fnIntSafeRow.loopsOut == Tryz.f11.resultTypes.toList.any (Tryz.prog.loopsFrom ·)) : Bool) = true := by kernel_rfl
theorem fact23 : ((Rows.fnIntSafeRow.plainKeys == Tryz.prog.plainKeys) : Bool) = true := by kernel_rfl
theorem fact24 : (Rows.fnIntSafeRow.shortTexts.isNone : Bool) = true := by kernel_rfl
theorem fact25 : (Tryz.prog.stopsHeard : Bool) = true := by kernel_rfl
theorem fact26 : (Tryz.prog.mayEnter : Bool) = true := by kernel_rfl
theorem fact27 : ((Rows.fnIntSafeRow.lifted == Tryz.prog.liftsFinal) : Bool) = true := by kernel_rfl
theorem fact28 : ((Tryz.prog.make == some Rows.fnIntSafeRow.make) : Bool) = true := by kernel_rfl
theorem fact29 : ((Rows.fnIntSafeRow.kinds == (if Rows.fnIntSafeRow.domain.isEmpty then [] else Tryz.f11.params.toList.map fun t => match Tryz.prog.underlying t with | some (.int k) => some k | _ => none)) : Bool) = true := by kernel_rfl
theorem fact30 : ((Rows.fnIntSafeRow.pinned == Rows.fnIntSafeRow.pinnedBy) : Bool) = true := by kernel_rfl
theorem fact31 : ((Rows.fnIntSafeRow.veiled == (Tryz.f11.params.toList ++ Rows.fnIntSafeSpec.plain.varTypes Tryz.prog ++ Tryz.f11.resultTypes.toList).any (Tryz.prog.veiledRec ·)) : Bool) = true := by kernel_rfl
theorem fact32 : (Rows.fnIntSafeRow.veiledFits Tryz.prog Tryz.f11.params.toList (Tryz.f11.params.toList ++ Rows.fnIntSafeSpec.plain.varTypes Tryz.prog ++ Tryz.f11.resultTypes.toList) : Bool) = true := by kernel_rfl
set_option maxRecDepth 100000 in
theorem closed : joinedFacts Tryz.prog 11 Tryz.f11 Rows.fnIntSafeSpec Rows.fnIntSafeRow = true := by
  unfold joinedFacts
  exact (and2 (and2 (and2 (and2 (and2 (and2 (and2 (and2 (and2 (and2 (and2 (and2 (and2 (and2 (and2 (and2 (and2 (and2 (and2 (and2 (and2 (and2 (and2 (and2 (and2 (and2 (and2 (and2 (and2 (and2 (and2 fact1 fact2) fact3) fact4) fact5) fact6) fact7) fact8) fact9) fact10) fact11) fact12) fact13) fact14) fact15) fact16) fact17) fact18) fact19) fact20) fact21) fact22) fact23) fact24) fact25) fact26) fact27) fact28) fact29) fact30) fact31) fact32)
end Go.Proofs.YtiohlcfdoleooaaGreatDoor.fnIntSafe
