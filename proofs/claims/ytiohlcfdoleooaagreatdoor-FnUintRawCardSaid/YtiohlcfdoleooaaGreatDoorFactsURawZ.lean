/-
  The closed facts of the row of laws.FnUintRaw, one theorem each.
-/
import Derived.Test.YtiohlcfdoleooaaGreatDoorRows
import Derived.JoinedOf
import Derived.KernelRfl
namespace Go.Proofs.YtiohlcfdoleooaaGreatDoor.fnUintRaw
open Go

theorem and2 {a b : Bool} (ha : a = true) (hb : b = true) : (a && b) = true := by rw [ha, hb]; rfl
theorem fact1 : (Rows.fnUintRawRow.wf (OpenSpec.ofChange Rows.fnUintRawSpec) : Bool) = true := by kernel_rfl
theorem fact2 : (laidOutB Tryz.prog : Bool) = true := by kernel_rfl
theorem fact3 : (mapsRowed Tryz.prog : Bool) = true := by kernel_rfl
theorem fact4 : (Tryz.f7.params.all (Tryz.prog.readableRec ·) : Bool) = true := by kernel_rfl
theorem fact5 : (namedTie Tryz.prog Rows.fnUintRawRow.named Rows.fnUintRawSpec.vars : Bool) = true := by kernel_rfl
theorem fact6 : ((Rows.fnUintRawRow.stops == []) : Bool) = true := by kernel_rfl
theorem fact7 : ((Tryz.prog.stops == []) : Bool) = true := by kernel_rfl
theorem fact8 : ((Rows.fnUintRawRow.knobs == []) : Bool) = true := by kernel_rfl
theorem fact9 : ((Tryz.prog.stopKnobs == []) : Bool) = true := by kernel_rfl
theorem fact10 : ((Rows.fnUintRawRow.inPlace == Tryz.prog.inPlace 7) : Bool) = true := by kernel_rfl
theorem fact11 : ((Rows.fnUintRawRow.unfollowed == Tryz.prog.unfollowed 7) : Bool) = true := by kernel_rfl
theorem fact12 : ((Rows.fnUintRawRow.recurses == Tryz.prog.recurses 7) : Bool) = true := by kernel_rfl
theorem fact13 : ((Rows.fnUintRawRow.named == Tryz.prog.varsNamed 7) : Bool) = true := by kernel_rfl
theorem fact14 : ((Rows.fnUintRawRow.maps == (Tryz.f7.params.toList ++ Rows.fnUintRawSpec.plain.varTypes Tryz.prog).any (Tryz.prog.mapsRec ·)) : Bool) = true := by kernel_rfl
theorem fact15 : ((Rows.fnUintRawRow.ifaces == (Tryz.f7.params.toList ++ Rows.fnUintRawSpec.plain.varTypes Tryz.prog).any (Tryz.prog.ifacesRec ·)) : Bool) = true := by kernel_rfl
theorem fact16 : ((Rows.fnUintRawRow.mapsOut == Tryz.prog.mapsAmong Tryz.f7.resultTypes.toList) : Bool) = true := by kernel_rfl
theorem fact17 : ((Rows.fnUintRawRow.loops == (Tryz.f7.params.toList ++ Rows.fnUintRawSpec.plain.varTypes Tryz.prog).any (Tryz.prog.loopsFrom ·)) : Bool) = true := by kernel_rfl
theorem fact18 : ((Rows.fnUintRawRow.wideKeys == (Tryz.f7.params.toList ++ Rows.fnUintRawSpec.plain.varTypes Tryz.prog ++ Tryz.f7.resultTypes.toList).any (Tryz.prog.wideKeysFrom ·)) : Bool) = true := by kernel_rfl
theorem fact19 : (Rows.fnUintRawSpec.vars.all (Tryz.prog.varReadable ·) : Bool) = true := by kernel_rfl
theorem fact20 : (Tryz.f7.resultTypes.all (fun t => Tryz.prog.readableRec t && decide (t < Tryz.prog.types.size)) : Bool) = true := by kernel_rfl
theorem fact21 : ((Rows.fnUintRawRow.ifacesOut == Tryz.f7.resultTypes.toList.any (Tryz.prog.ifacesRec ·)) : Bool) = true := by kernel_rfl
theorem fact22 : ((Rows.fnUintRawRow.loopsOut == Tryz.f7.resultTypes.toList.any (Tryz.prog.loopsFrom ·)) : Bool) = true := by kernel_rfl
theorem fact23 : ((Rows.fnUintRawRow.plainKeys == Tryz.prog.plainKeys) : Bool) = true := by kernel_rfl
theorem fact24 : (Rows.fnUintRawRow.shortTexts.isNone : Bool) = true := by kernel_rfl
theorem fact25 : (Tryz.prog.stopsHeard : Bool) = true := by kernel_rfl
theorem fact26 : (Tryz.prog.mayEnter : Bool) = true := by kernel_rfl
theorem fact27 : ((Rows.fnUintRawRow.lifted == Tryz.prog.liftsFinal) : Bool) = true := by kernel_rfl
theorem fact28 : ((Tryz.prog.make == some Rows.fnUintRawRow.make) : Bool) = true := by kernel_rfl
theorem fact29 : ((Rows.fnUintRawRow.kinds == (if Rows.fnUintRawRow.domain.isEmpty then [] else Tryz.f7.params.toList.map fun t => match Tryz.prog.underlying t with | some (.int k) => some k | _ => none)) : Bool) = true := by kernel_rfl
theorem fact30 : ((Rows.fnUintRawRow.pinned == Rows.fnUintRawRow.pinnedBy) : Bool) = true := by kernel_rfl
theorem fact31 : ((Rows.fnUintRawRow.veiled == (Tryz.f7.params.toList ++ Rows.fnUintRawSpec.plain.varTypes Tryz.prog ++ Tryz.f7.resultTypes.toList).any (Tryz.prog.veiledRec ·)) : Bool) = true := by kernel_rfl
theorem fact32 : (Rows.fnUintRawRow.veiledFits Tryz.prog Tryz.f7.params.toList (Tryz.f7.params.toList ++ Rows.fnUintRawSpec.plain.varTypes Tryz.prog ++ Tryz.f7.resultTypes.toList) : Bool) = true := by kernel_rfl
set_option maxRecDepth 100000 in
theorem closed : joinedFacts Tryz.prog 7 Tryz.f7 Rows.fnUintRawSpec Rows.fnUintRawRow = true := by
  unfold joinedFacts
  exact (and2 (and2 (and2 (and2 (and2 (and2 (and2 (and2 (and2 (and2 (and2 (and2 (and2 (and2 (and2 (and2 (and2 (and2 (and2 (and2 (and2 (and2 (and2 (and2 (and2 (and2 (and2 (and2 (and2 (and2 (and2 fact1 fact2) fact3) fact4) fact5) fact6) fact7) fact8) fact9) fact10) fact11) fact12) fact13) fact14) fact15) fact16) fact17) fact18) fact19) fact20) fact21) fact22) fact23) fact24) fact25) fact26) fact27) fact28) fact29) fact30) fact31) fact32)
end Go.Proofs.YtiohlcfdoleooaaGreatDoor.fnUintRaw
