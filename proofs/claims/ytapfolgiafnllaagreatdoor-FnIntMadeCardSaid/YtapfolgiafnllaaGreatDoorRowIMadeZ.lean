/-
For every int64, uint64 and int16, impl.IntMade and IntMadeUint give the texts of the two numbers, and impl.IntDecimal, for up to 200 noughts, that of the first one with so many noughts behind it, where that fits, and fails otherwise and where the third number is negative: the law FnIntMade returns true.
Conditions: none beside the given statement's own (the law itself speaks of texts that spec.Int takes; the listed package-level variables start as the program's text lays them, which the card ties).
-/
import Derived.Test.YtapfolgiafnllaaGreatDoorLawIMadeZ
import Derived.Test.YtapfolgiafnllaaGreatDoorFactsIMadeZ
import Derived.Test.YtapfolgiafnllaaGreatDoorSeatFactsZ
import Derived.Test.YtapfolgiafnllaaGreatDoorTie
import Derived.Test.YtapfolgiafnllaaGreatDoorCards
import Derived.ProofKit
import Derived.OpenShut
import Derived.ShutString
import Derived.ChangeOld
import Derived.SizedLaws
import Derived.LaidMore
import Derived.Stop.Joined
import Derived.Stop.LaidErr
import Derived.SevenTiedAt
namespace Go.Proofs.YtapfolgiafnllaaGreatDoor.fnIntMade
open Go.ChangeShapes Go.WideShapes Go.ChangeAt Go.RowKit
open Go.ChangeMaps (open_string shut_string)
theorem own : ownKnob Tryz.prog.godebug = none := by kernel_rfl
theorem gE : Tryz.prog.globalNamed "io.EOF" = some 2 := by kernel_rfl
theorem tE : (Tryz.prog.globals[2]?).map (·.type) = some 64 := by kernel_rfl
theorem cellsE : Tryz.prog.cellsOf 119 = 1 := by kernel_rfl
theorem cellsS : Tryz.prog.cellsOf 9 = 1 := by kernel_rfl
theorem star : "*" ++ "errors.errorString" = "*errors.errorString" := by decide
theorem rowE (u : TypeId) (h : Tryz.prog.typeName? 3 u = some "*errors.errorString") : u = 117 :=
  typeName_ptr_named (nm := "errors.errorString") (by rw [star]; kernel_rfl) (by kernel_rfl) (by decide) u (by rw [star]; exact h)

/-- The door's own heap meets the condition. -/
theorem door_met (os : Os) (args : Array Value) : laidMetH Tryz.prog Rows.fnIntMadeRow.laid ((World.doorLaid Tryz.prog 400 os).forCall (fun _ _ => 0) ⟨#[], args, []⟩).memory :=
  laidMetH_of_parts3 (fuel := 8) (laidMet_of_run' 8 (by kernel_rfl) (by kernel_rfl)) (by kernel_rfl) (by kernel_rfl)

theorem gL : Tryz.prog.globalNamed "pub-marlinspike/pub/bigall.leafSize" = some 7 := by kernel_rfl
theorem tL : (Tryz.prog.globals[7]?).map (·.type) = some 3 := by kernel_rfl
theorem gK : Tryz.prog.globalNamed "pub-marlinspike/pub/bigall.karatsubaThreshold" = some 5 := by kernel_rfl
theorem tK : (Tryz.prog.globals[5]?).map (·.type) = some 3 := by kernel_rfl
theorem lit_head {n : String} {k : IntKind} {z : Int} {r : List (String × DataW Unit)} {W : World} {g : Nat} {t : TypeId} (h : laidMet Tryz.prog ((n, .lit (.int k z)) :: r) W)
    (hg : Tryz.prog.globalNamed n = some g) (ht : (Tryz.prog.globals[g]?).map (·.type) = some t) (hi : Tryz.prog.underlying t = some (.int k)) : W.cell? ⟨g, 0, none⟩ = some (.int k z) := by
  obtain ⟨ps, ⟨g0, t0, cs0, f0, p0, q0, hg0, ht0, hv0, hd0, _, _⟩, _, _⟩ := h
  obtain rfl := Option.some.inj (hg.symm.trans hg0)
  obtain rfl := Option.some.inj (ht.symm.trans ht0)
  obtain ⟨n0, h1, h2, _⟩ := DataW.trod_int hi hd0
  obtain ⟨l0⟩ := cs0
  have h3 : l0 = [.int k n0] := h1
  subst h3
  have e := congrArg Prod.fst h2
  simp only [DataW.lit.injEq, Lit.int.injEq, true_and] at e
  subst e
  simpa using World.var?_cell hg0 hv0 0
theorem gS : Tryz.prog.globalNamed "pub-marlinspike/pub/bigall.basicSqrThreshold" = some 3 := by kernel_rfl
theorem tS : (Tryz.prog.globals[3]?).map (·.type) = some 3 := by kernel_rfl
theorem gT : Tryz.prog.globalNamed "pub-marlinspike/pub/bigall.karatsubaSqrThreshold" = some 4 := by kernel_rfl
theorem tT : (Tryz.prog.globals[4]?).map (·.type) = some 3 := by kernel_rfl
/-- What the condition gives the walks. -/
theorem of_laid {W : World} (h : laidMetH Tryz.prog Rows.fnIntMadeRow.laid W) : ∃ p, EofIs W p ∧ LeafIs W ∧ KaraIs W ∧ SqrIs W := by
  rw [MakeChecks.laidMetH_plain _ _ _ (by kernel_rfl)] at h
  have h2 := h.tail.tail
  obtain ⟨a, s, hv, _⟩ := laid_sentinel h2 gE tE Tryz.underlying64 rowE Tryz.underlying117 Tryz.underlying119 rfl rfl Tryz.underlying9 cellsE cellsS
  have hc : W.cell? ⟨2, 0, none⟩ = some (.iface 117 (.pointer (some a))) := by simpa using World.var?_cell gE hv 0
  exact ⟨a, hc, lit_head h2.tail.tail.tail gL tL Tryz.underlying3, lit_head h2.tail.tail.tail.tail.tail gK tK Tryz.underlying3, ⟨lit_head h2.tail.tail.tail.tail.tail.tail gS tS Tryz.underlying3, lit_head h2.tail.tail.tail.tail.tail.tail.tail gT tT Tryz.underlying3⟩⟩

theorem wf_i16 {a : Int} (h : (Lit.int .i16 a).wf = true) : -32768 ≤ a ∧ a < 32768 := by
  have h2 : (decide (IntKind.i16.min ≤ a) && decide (a ≤ IntKind.i16.max)) = true := h
  rw [Bool.and_eq_true, decide_eq_true_eq, decide_eq_true_eq] at h2
  have e1 : IntKind.i16.min = -32768 := by decide
  have e2 : IntKind.i16.max = 32767 := by decide
  omega
theorem wf_i64 {a : Int} (h : (Lit.int .i64 a).wf = true) : -9223372036854775808 ≤ a ∧ a < 9223372036854775808 := by
  have h2 : (decide (IntKind.i64.min ≤ a) && decide (a ≤ IntKind.i64.max)) = true := h
  rw [Bool.and_eq_true, decide_eq_true_eq, decide_eq_true_eq] at h2
  have e1 : IntKind.i64.min = -9223372036854775808 := by decide
  have e2 : IntKind.i64.max = 9223372036854775807 := by decide
  omega
theorem wf_u64 {a : Int} (h : (Lit.int .u64 a).wf = true) : 0 ≤ a ∧ a < 18446744073709551616 := by
  have h2 : (decide (IntKind.u64.min ≤ a) && decide (a ≤ IntKind.u64.max)) = true := h
  rw [Bool.and_eq_true, decide_eq_true_eq, decide_eq_true_eq] at h2
  have e1 : IntKind.u64.min = 0 := by decide
  have e2 : IntKind.u64.max = 18446744073709551615 := by decide
  omega

set_option maxRecDepth 100000 in
theorem lifted (os : Os) (started : os.Started) (H : Type) (enc : TypeId × Value → H) :
    ReturnsInHanded {} Tryz.checked os 4 .any (fun w args => (Rows.fnIntMadeSpec.pre enc Tryz.prog Tryz.f4 [] false w args ∧ laidMetH Tryz.prog Rows.fnIntMadeRow.laid w) ∧ sizedMet enc Tryz.prog Tryz.f4 (OpenSpec.ofChange Rows.fnIntMadeSpec) false w args)
      (Rows.fnIntMadeSpec.post enc Tryz.prog Tryz.f4 false true false false) := by
  refine returnsInHanded_of_change_and (C := Tryz.checked) (X := fun w _ => laidMetH Tryz.prog Rows.fnIntMadeRow.laid w) (fun _ _ _ hh h => h.of_heap hh) own started (by kernel_rfl) Tryz.func4
    (ChangeSpec.witness_shaped (enc := enc) (C := Tryz.checked) (os := os) (X := fun w _ => laidMetH Tryz.prog Rows.fnIntMadeRow.laid w) false (World.doorLaid Tryz.prog 400 os) #[.int .i64 0, .int .u64 0, .int .i16 0] 8 rfl (World.shaped_of_RefB (by kernel_rfl) (by kernel_rfl)) (by kernel_rfl) (by kernel_rfl) (by kernel_rfl) (door_met os _)) ?_
  intro W base args ds gs before hval0 hW hcnd hsz0 hL _
  have hsz : (DataW.weightsEach Tryz.prog (Tryz.f4.params.toList ++ Rows.fnIntMadeSpec.plain.varTypes Tryz.prog) (ds ++ gs)).all (· ≤ reachBytes) = true := hsz0
  have hval : ∀ (j : Nat) t v, Tryz.f4.params[j]? = some t → args[j]? = some v → Value.okWide Tryz.prog W .any base t v := hval0
  have hW' := hW
  obtain ⟨p, q, hA0, hV, rfl, hfz, hnd⟩ := hW
  have hA : DataW.TrodAll enc Tryz.prog W 0 (fun _ => true) true Tryz.f4.params.toList args.toList ds p := hA0
  rw [Tryz.params4] at hA hval hsz
  obtain ⟨v0, vs0, d0, ds0, p0, q0, hargs, rfl, rfl, h0, r0⟩ := trodAll_cons hA
  obtain ⟨v1, vs1, d1, ds1, p1, q1, rfl, rfl, rfl, h1, r1⟩ := trodAll_cons r0
  obtain ⟨v2, vs2, d2, ds2, p2, q2, rfl, rfl, rfl, h2, r2⟩ := trodAll_cons r1
  obtain ⟨rfl, rfl, rfl⟩ := trodAll_nil r2
  obtain rfl : args = #[v0, v1, v2] := by cases args; simp_all
  obtain ⟨rfl, rfl⟩ := trodVars_none hV
  obtain ⟨a0, rfl, rfl, rfl, w0⟩ := open_int Tryz.underlying2 (hval 0 2 v0 rfl rfl) h0
  obtain ⟨a1, rfl, rfl, rfl, w1⟩ := open_int Tryz.underlying22 (hval 1 22 v1 rfl rfl) h1
  obtain ⟨a2, rfl, rfl, rfl, w2⟩ := open_int Tryz.underlying36 (hval 2 36 v2 rfl rfl) h2
  obtain ⟨pe, hpe, hleaf, hkara, hsqr⟩ := of_laid hL
  clear hA0 hval0 hsz0 hsz
  have b0 := wf_i64 w0
  have b1 := wf_u64 w1
  obtain ⟨n1, rfl⟩ := Int.eq_ofNat_of_zero_le b1.1
  have b2 := wf_i16 w2
  have hwalk := fnIntMade_walk a0 n1 a2 pe W b0 (by omega) b2 hpe hleaf hkara hsqr
  refine hwalk.mono fun e W' ⟨he, bel⟩ => ?_
  subst he
  exact ⟨_, rfl, _, _, _, [], _, [], hW', trodAll_mk1 (shut_bool Tryz.underlying4 _), (trodAll_cons_mk (shut_int Tryz.underlying2 w0) (trodAll_cons_mk (shut_int Tryz.underlying22 w1) (trodAll_cons_mk (shut_int Tryz.underlying36 w2) trodAll_mk0))), rfl, bel.frame _, fun h => by cases h⟩
theorem over : Rows.FnIntMadeSaid :=
  OpenClaim.holds_of_wide 4 Tryz.f4 rfl rfl rfl rfl rfl rfl rfl ⟨rfl, rfl, rfl, rfl, rfl⟩ rfl rfl rfl rfl rfl (by kernel_rfl) Tryz.func4 closed
    (of_decide_eq_true (by kernel_rfl)) (by unfold Func.isWrapper; first | (rw [if_pos (by decide +kernel)]; kernel_rfl) | (rw [if_neg (by decide +kernel)]; exact ⟨rfl, rfl⟩))
    (fun os started H enc _ => lifted os started H enc)
end Go.Proofs.YtapfolgiafnllaaGreatDoor.fnIntMade
namespace Go.Proofs.YtapfolgiafnllaaGreatDoor
set_option maxRecDepth 100000 in
theorem fnIntMade_wf : Rows.fnIntMadeRow.wfByText (OpenSpec.ofChange Rows.fnIntMadeSpec) = true := by kernel_rfl
set_option maxRecDepth 100000 in
theorem fnIntMade_goes : false = Rows.fnIntMadeRow.goesBy Tryz.pinned.checked.prog := by kernel_rfl
set_option maxRecDepth 100000 in
theorem fnIntMade_holds : Rows.FnIntMadeCardSaid :=
  Claim7.holds_tied_plain_at .later [] [.data, .data, .sentinel, .sentinel, .sentinel, .data, .data, .data, .data, .data, .sentinel, .sentinel] true (true, "e247721a5a8b1a8ace9b1116f3af14c6d5e88de7c8204abb37eacb2fd89fd4ca") true
    fnIntMade.over (fun _ h => by cases h) fnIntMade_wf (fun _ h => by cases h) fnIntMade_row_tie rfl ⟨rfl, rfl⟩ seatMain rfl
    (fun f fn hf hfn => by
      obtain rfl : f = 4 := Option.some.inj ((show Tryz.prog.funcNamed "pub-marlinspike/laws.FnIntMade" = some 4 by kernel_rfl).symm.trans hf) |>.symm
      obtain rfl : fn = Tryz.f4 := (Option.some.inj (Tryz.func4.symm.trans hfn)).symm
      exact ⟨seatLooks, fun j t ht => by
        rw [Tryz.params4] at ht
        have hm : t ∈ [2, 22, 36] := by simpa using Array.mem_of_getElem? ht
        have hall : ([2, 22, 36].all fun u => !Tryz.prog.wantsStandIn u) = true := by kernel_rfl
        exact (show Tryz.prog.wantsStandIn t = false by simpa using List.all_eq_true.1 hall t hm)⟩)
    fnIntMade_goes
#print axioms fnIntMade_holds
end Go.Proofs.YtapfolgiafnllaaGreatDoor
