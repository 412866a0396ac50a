/-
  impl.IntRaw.
-/
import Derived.Test.YtiohlcfdoleooaaGreatDoorIntDoGZ
import Derived.Test.YtiohlcfdoleooaaGreatDoorIntRawAZ
namespace Go.Proofs.YtiohlcfdoleooaaGreatDoor
open Go.RowKit

set_option maxRecDepth 100000 in
set_option maxHeartbeats 4000000 in
theorem intRawC_walk (op : Nat) (n : Int) (l : List UInt8) (p e1 e2 : Addr) (b1 b2 b3 b4 : Nat) (w : World) (hok : readOk l = true) (hl : l.length ≤ 1000) (hn : -9223372036854775808 ≤ n ∧ n < 9223372036854775808) (hp : EofIs w p) (hleaf : LeafIs w) (hkara : KaraIs w) (hdiv : DivIs w) (herr : ErrsAre w e1 e2) (hop : op ≤ 4)
    (h1 : w.heap[b1]? = some (.cells #[.string (S l)] 9 (0, 0))) (h2 : w.heap[b2]? = some (.cells #[.int .i64 (op : Int)] 3 (0, 0))) (h3 : w.heap[b3]? = some (.cells #[.int .i64 n] 2 (0, 0))) (h4 : w.heap[b4]? = some (.cells #[.string ⟨#[]⟩] 9 (0, 0)))
    (ox : overI (readZ l) = false) :
    Calls Tryz.prog 111 #[.pointer (some ⟨b1, 0, none⟩), .pointer (some ⟨b2, 0, none⟩), .pointer (some ⟨b3, 0, none⟩), .pointer (some ⟨b4, 0, none⟩)] w (DoPost w b4 (iRes op (readZ l) n)) := by
  have c1 := one_cell h1
  have lt1 := iter_lt h1
  have lt2 := iter_lt h2
  have lt3 := iter_lt h3
  have lt4 := iter_lt h4
  have H2 := Lib.hid h2
  have H3 := Lib.hid h3
  have H4 := Lib.hid h4
  have HU := Lib.hid (integer_walk l p w hok hl hp ox)
  have HOX := Lib.hid ox
  have HKA := Lib.hid hkara
  have HDI := Lib.hid hdiv
  have HER := Lib.hid herr
  have HLF := Lib.hid hleaf
  have HFIN : Hid (∀ (w' : World) (g : Nat) (z : Int), Below w.heap.size w w' → IntAt w' g z → overI z = false → Calls Tryz.prog 98 #[.agg #[.pointer (some ⟨g, 0, none⟩)]] w' fun e w6 => e = .returned (.string (S (zText z))) ∧ Below w.heap.size w w6 ∧ w6.heap[b4]? = some (.cells #[.string ⟨#[]⟩] 9 (0, 0))) := by
    refine Lib.hid fun w' g z hb hi oz => (intStringI_walk g z w' hi (overI_len oz) (HLF.out.below hb)).mono ?_
    rintro e w6 ⟨rfl, hb6⟩
    exact ⟨rfl, bt hb hb6, ((bt hb hb6).block b4 lt4).trans H4.out⟩
  clear h1 h2 h3 h4 hp hleaf hkara hdiv herr ox
  have HV : Hid (∀ w1, Below w.heap.size w w1 → ∀ o, (w1.alloc o).cell? ⟨b2, 0, none⟩ = some (.int .i64 (op : Int)) ∧ (w1.alloc o).cell? ⟨b3, 0, none⟩ = some (.int .i64 n)) := Lib.hid fun w1 hb o => ⟨one_cell (heap_old ((hb.block b2 lt2).trans H2.out)), one_cell (heap_old ((hb.block b3 lt3).trans H3.out))⟩
  rcases (show op = 0 ∨ op = 1 ∨ op = 2 ∨ op = 3 ∨ op = 4 by omega) with rfl | rfl | rfl | rfl | rfl
  · cases oz : overI ((readZ l) + n) with
    | false =>
      have HOZ := Lib.hid oz
      have HPO : Hid (iRes 0 (readZ l) n = some ((readZ l) + n)) := Lib.hid (iRes_some (z := (readZ l) + n) rfl oz)
      clear oz
      rw [HPO.out]
      go_enter Tryz.func111, Tryz.ntmps111
      go_wp2_with fail
      refine HU.out.mono ?_
      rintro e w1 ⟨g1, rfl, hi1, hb1, _⟩
      have HI1 := Lib.hid (hi1.below (below_a1 w1 (.cells #[.pointer (some ⟨g1, 0, none⟩)] 80)))
      have HB1 := Lib.hid (bt hb1 (below_a1 w1 (.cells #[.pointer (some ⟨g1, 0, none⟩)] 80)))
      have c2 := (HV.out w1 hb1 (.cells #[.pointer (some ⟨g1, 0, none⟩)] 80)).1
      have c3 := (HV.out w1 hb1 (.cells #[.pointer (some ⟨g1, 0, none⟩)] 80)).2
      have e0 : ((0 : Nat) : Int) = 0 := rfl
      rw [e0] at c2
      clear e0
      clear hi1 hb1
      go_wp2_with fail
      refine (addRaw_walk g1 n _ _ hn HI1.out HOX.out HOZ.out).mono ?_
      rintro e w5 ⟨g5, rfl, hi5, hb5, _⟩
      have HI5 := Lib.hid hi5
      have HB5 := Lib.hid (bt HB1.out hb5)
      clear hi5 hb5
      go_wp2_with fail
      refine (HFIN.out w5 g5 _ HB5.out HI5.out HOZ.out).mono ?_
      rintro e w6 ⟨rfl, hb6, k4⟩
      have c4 := one_cell k4
      have f4 := one_free k4 0
      have K4' := Lib.hid k4
      have HB6 := Lib.hid hb6
      clear k4 hb6
      go_wp2_with fail
      go_end0
      exact ⟨rfl, Ext.setCell (D := fun k => k = b4) (p := ⟨b4, 0, none⟩) (Ext.of_below HB6.out) (fun _ => rfl) _, one_set K4'.out⟩
    | true =>
      have HOZ := Lib.hid oz
      have HPO : Hid (iRes 0 (readZ l) n = none) := Lib.hid (iRes_over rfl oz)
      clear oz
      rw [HPO.out]
      go_enter Tryz.func111, Tryz.ntmps111
      go_wp2_with fail
      refine HU.out.mono ?_
      rintro e w1 ⟨g1, rfl, hi1, hb1, _⟩
      have HI1 := Lib.hid (hi1.below (below_a1 w1 (.cells #[.pointer (some ⟨g1, 0, none⟩)] 80)))
      have HB1 := Lib.hid (bt hb1 (below_a1 w1 (.cells #[.pointer (some ⟨g1, 0, none⟩)] 80)))
      have c2 := (HV.out w1 hb1 (.cells #[.pointer (some ⟨g1, 0, none⟩)] 80)).1
      have c3 := (HV.out w1 hb1 (.cells #[.pointer (some ⟨g1, 0, none⟩)] 80)).2
      have e0 : ((0 : Nat) : Int) = 0 := rfl
      rw [e0] at c2
      clear e0
      clear hi1 hb1
      go_wp2_with fail
      refine (addRaw_panic g1 n _ e1 e2 _ hn HI1.out (HER.out.below HB1.out) HOX.out HOZ.out).mono ?_
      rintro e w5 ⟨t5, v5, rfl, hb5⟩
      have HB5 := Lib.hid (bt HB1.out hb5)
      clear hb5
      go_wp2_with fail
      have hp : DoPost w b4 none (.panicked [{ v := .iface t5 v5, recovered := false }]) w5 := ⟨_, _, rfl, HB5.out⟩
      exact ⟨rfl, hp⟩
  · cases oz : overI ((readZ l) - n) with
    | false =>
      have HOZ := Lib.hid oz
      have HPO : Hid (iRes 1 (readZ l) n = some ((readZ l) - n)) := Lib.hid (iRes_some (z := (readZ l) - n) rfl oz)
      clear oz
      rw [HPO.out]
      go_enter Tryz.func111, Tryz.ntmps111
      go_wp2_with fail
      refine HU.out.mono ?_
      rintro e w1 ⟨g1, rfl, hi1, hb1, _⟩
      have HI1 := Lib.hid (hi1.below (below_a1 w1 (.cells #[.pointer (some ⟨g1, 0, none⟩)] 80)))
      have HB1 := Lib.hid (bt hb1 (below_a1 w1 (.cells #[.pointer (some ⟨g1, 0, none⟩)] 80)))
      have c2 := (HV.out w1 hb1 (.cells #[.pointer (some ⟨g1, 0, none⟩)] 80)).1
      have c3 := (HV.out w1 hb1 (.cells #[.pointer (some ⟨g1, 0, none⟩)] 80)).2
      have e0 : ((1 : Nat) : Int) = 1 := rfl
      rw [e0] at c2
      clear e0
      clear hi1 hb1
      go_wp2_with fail
      refine (subRaw_walk g1 n _ _ hn HI1.out HOX.out HOZ.out).mono ?_
      rintro e w5 ⟨g5, rfl, hi5, hb5, _⟩
      have HI5 := Lib.hid hi5
      have HB5 := Lib.hid (bt HB1.out hb5)
      clear hi5 hb5
      go_wp2_with fail
      refine (HFIN.out w5 g5 _ HB5.out HI5.out HOZ.out).mono ?_
      rintro e w6 ⟨rfl, hb6, k4⟩
      have c4 := one_cell k4
      have f4 := one_free k4 0
      have K4' := Lib.hid k4
      have HB6 := Lib.hid hb6
      clear k4 hb6
      go_wp2_with fail
      go_end0
      exact ⟨rfl, Ext.setCell (D := fun k => k = b4) (p := ⟨b4, 0, none⟩) (Ext.of_below HB6.out) (fun _ => rfl) _, one_set K4'.out⟩
    | true =>
      have HOZ := Lib.hid oz
      have HPO : Hid (iRes 1 (readZ l) n = none) := Lib.hid (iRes_over rfl oz)
      clear oz
      rw [HPO.out]
      go_enter Tryz.func111, Tryz.ntmps111
      go_wp2_with fail
      refine HU.out.mono ?_
      rintro e w1 ⟨g1, rfl, hi1, hb1, _⟩
      have HI1 := Lib.hid (hi1.below (below_a1 w1 (.cells #[.pointer (some ⟨g1, 0, none⟩)] 80)))
      have HB1 := Lib.hid (bt hb1 (below_a1 w1 (.cells #[.pointer (some ⟨g1, 0, none⟩)] 80)))
      have c2 := (HV.out w1 hb1 (.cells #[.pointer (some ⟨g1, 0, none⟩)] 80)).1
      have c3 := (HV.out w1 hb1 (.cells #[.pointer (some ⟨g1, 0, none⟩)] 80)).2
      have e0 : ((1 : Nat) : Int) = 1 := rfl
      rw [e0] at c2
      clear e0
      clear hi1 hb1
      go_wp2_with fail
      refine (subRaw_panic g1 n _ e1 e2 _ hn HI1.out (HER.out.below HB1.out) HOX.out HOZ.out).mono ?_
      rintro e w5 ⟨t5, v5, rfl, hb5⟩
      have HB5 := Lib.hid (bt HB1.out hb5)
      clear hb5
      go_wp2_with fail
      have hp : DoPost w b4 none (.panicked [{ v := .iface t5 v5, recovered := false }]) w5 := ⟨_, _, rfl, HB5.out⟩
      exact ⟨rfl, hp⟩
  · cases oz : overI ((readZ l) * n) with
    | false =>
      have HOZ := Lib.hid oz
      have HPO : Hid (iRes 2 (readZ l) n = some ((readZ l) * n)) := Lib.hid (iRes_some (z := (readZ l) * n) rfl oz)
      clear oz
      rw [HPO.out]
      go_enter Tryz.func111, Tryz.ntmps111
      go_wp2_with fail
      refine HU.out.mono ?_
      rintro e w1 ⟨g1, rfl, hi1, hb1, _⟩
      have HI1 := Lib.hid (hi1.below (below_a1 w1 (.cells #[.pointer (some ⟨g1, 0, none⟩)] 80)))
      have HB1 := Lib.hid (bt hb1 (below_a1 w1 (.cells #[.pointer (some ⟨g1, 0, none⟩)] 80)))
      have c2 := (HV.out w1 hb1 (.cells #[.pointer (some ⟨g1, 0, none⟩)] 80)).1
      have c3 := (HV.out w1 hb1 (.cells #[.pointer (some ⟨g1, 0, none⟩)] 80)).2
      have e0 : ((2 : Nat) : Int) = 2 := rfl
      rw [e0] at c2
      clear e0
      clear hi1 hb1
      go_wp2_with fail
      refine (mulRaw_walk g1 n _ _ hn HI1.out (HKA.out.below HB1.out) HOX.out HOZ.out).mono ?_
      rintro e w5 ⟨g5, rfl, hi5, hb5, _⟩
      have HI5 := Lib.hid hi5
      have HB5 := Lib.hid (bt HB1.out hb5)
      clear hi5 hb5
      go_wp2_with fail
      refine (HFIN.out w5 g5 _ HB5.out HI5.out HOZ.out).mono ?_
      rintro e w6 ⟨rfl, hb6, k4⟩
      have c4 := one_cell k4
      have f4 := one_free k4 0
      have K4' := Lib.hid k4
      have HB6 := Lib.hid hb6
      clear k4 hb6
      go_wp2_with fail
      go_end0
      exact ⟨rfl, Ext.setCell (D := fun k => k = b4) (p := ⟨b4, 0, none⟩) (Ext.of_below HB6.out) (fun _ => rfl) _, one_set K4'.out⟩
    | true =>
      have HOZ := Lib.hid oz
      have HPO : Hid (iRes 2 (readZ l) n = none) := Lib.hid (iRes_over rfl oz)
      clear oz
      rw [HPO.out]
      go_enter Tryz.func111, Tryz.ntmps111
      go_wp2_with fail
      refine HU.out.mono ?_
      rintro e w1 ⟨g1, rfl, hi1, hb1, _⟩
      have HI1 := Lib.hid (hi1.below (below_a1 w1 (.cells #[.pointer (some ⟨g1, 0, none⟩)] 80)))
      have HB1 := Lib.hid (bt hb1 (below_a1 w1 (.cells #[.pointer (some ⟨g1, 0, none⟩)] 80)))
      have c2 := (HV.out w1 hb1 (.cells #[.pointer (some ⟨g1, 0, none⟩)] 80)).1
      have c3 := (HV.out w1 hb1 (.cells #[.pointer (some ⟨g1, 0, none⟩)] 80)).2
      have e0 : ((2 : Nat) : Int) = 2 := rfl
      rw [e0] at c2
      clear e0
      clear hi1 hb1
      go_wp2_with fail
      refine (mulRaw_panic g1 n _ e1 e2 _ hn HI1.out (HER.out.below HB1.out) (HKA.out.below HB1.out) HOX.out HOZ.out).mono ?_
      rintro e w5 ⟨t5, v5, rfl, hb5⟩
      have HB5 := Lib.hid (bt HB1.out hb5)
      clear hb5
      go_wp2_with fail
      have hp : DoPost w b4 none (.panicked [{ v := .iface t5 v5, recovered := false }]) w5 := ⟨_, _, rfl, HB5.out⟩
      exact ⟨rfl, hp⟩
  · by_cases hn0 : n = 0
    · have HN0 := Lib.hid hn0
      have HPO : Hid (iRes 3 (readZ l) n = none) := Lib.hid (iRes_none (if_pos hn0))
      clear hn0
      rw [HPO.out]
      go_enter Tryz.func111, Tryz.ntmps111
      go_wp2_with fail
      refine HU.out.mono ?_
      rintro e w1 ⟨g1, rfl, hi1, hb1, _⟩
      have HI1 := Lib.hid (hi1.below (below_a1 w1 (.cells #[.pointer (some ⟨g1, 0, none⟩)] 80)))
      have HB1 := Lib.hid (bt hb1 (below_a1 w1 (.cells #[.pointer (some ⟨g1, 0, none⟩)] 80)))
      have c2 := (HV.out w1 hb1 (.cells #[.pointer (some ⟨g1, 0, none⟩)] 80)).1
      have c3 := (HV.out w1 hb1 (.cells #[.pointer (some ⟨g1, 0, none⟩)] 80)).2
      have e0 : ((3 : Nat) : Int) = 3 := rfl
      rw [e0] at c2
      clear e0
      clear hi1 hb1
      go_wp2_with fail
      refine (quoRaw_panic g1 n _ e1 e2 _ hn HN0.out HI1.out (HER.out.below HB1.out)).mono ?_
      rintro e w5 ⟨t5, v5, rfl, hb5⟩
      have HB5 := Lib.hid (bt HB1.out hb5)
      clear hb5
      go_wp2_with fail
      have hp : DoPost w b4 none (.panicked [{ v := .iface t5 v5, recovered := false }]) w5 := ⟨_, _, rfl, HB5.out⟩
      exact ⟨rfl, hp⟩
    · have HN0 := Lib.hid hn0
      have HOZ : Hid (overI ((readZ l).tdiv n) = false) := Lib.hid (quoI_fits HOX.out)
      have HPO : Hid (iRes 3 (readZ l) n = some ((readZ l).tdiv n)) := Lib.hid (iRes_some (z := (readZ l).tdiv n) (if_neg hn0) HOZ.out)
      clear hn0
      rw [HPO.out]
      go_enter Tryz.func111, Tryz.ntmps111
      go_wp2_with fail
      refine HU.out.mono ?_
      rintro e w1 ⟨g1, rfl, hi1, hb1, _⟩
      have HI1 := Lib.hid (hi1.below (below_a1 w1 (.cells #[.pointer (some ⟨g1, 0, none⟩)] 80)))
      have HB1 := Lib.hid (bt hb1 (below_a1 w1 (.cells #[.pointer (some ⟨g1, 0, none⟩)] 80)))
      have c2 := (HV.out w1 hb1 (.cells #[.pointer (some ⟨g1, 0, none⟩)] 80)).1
      have c3 := (HV.out w1 hb1 (.cells #[.pointer (some ⟨g1, 0, none⟩)] 80)).2
      have e0 : ((3 : Nat) : Int) = 3 := rfl
      rw [e0] at c2
      clear e0
      clear hi1 hb1
      go_wp2_with fail
      refine (quoRaw_walk g1 n _ _ hn HN0.out HI1.out (HDI.out.below HB1.out HDI.out.lt) HOX.out).mono ?_
      rintro e w5 ⟨g5, rfl, hi5, hb5, _⟩
      have HI5 := Lib.hid hi5
      have HB5 := Lib.hid (bt HB1.out hb5)
      clear hi5 hb5
      go_wp2_with fail
      refine (HFIN.out w5 g5 _ HB5.out HI5.out HOZ.out).mono ?_
      rintro e w6 ⟨rfl, hb6, k4⟩
      have c4 := one_cell k4
      have f4 := one_free k4 0
      have K4' := Lib.hid k4
      have HB6 := Lib.hid hb6
      clear k4 hb6
      go_wp2_with fail
      go_end0
      exact ⟨rfl, Ext.setCell (D := fun k => k = b4) (p := ⟨b4, 0, none⟩) (Ext.of_below HB6.out) (fun _ => rfl) _, one_set K4'.out⟩
  · by_cases hn0 : n = 0
    · have HN0 := Lib.hid hn0
      have HPO : Hid (iRes 4 (readZ l) n = none) := Lib.hid (iRes_none (if_pos hn0))
      clear hn0
      rw [HPO.out]
      go_enter Tryz.func111, Tryz.ntmps111
      go_wp2_with fail
      refine HU.out.mono ?_
      rintro e w1 ⟨g1, rfl, hi1, hb1, _⟩
      have HI1 := Lib.hid (hi1.below (below_a1 w1 (.cells #[.pointer (some ⟨g1, 0, none⟩)] 80)))
      have HB1 := Lib.hid (bt hb1 (below_a1 w1 (.cells #[.pointer (some ⟨g1, 0, none⟩)] 80)))
      have c2 := (HV.out w1 hb1 (.cells #[.pointer (some ⟨g1, 0, none⟩)] 80)).1
      have c3 := (HV.out w1 hb1 (.cells #[.pointer (some ⟨g1, 0, none⟩)] 80)).2
      have e0 : ((4 : Nat) : Int) = 4 := rfl
      rw [e0] at c2
      clear e0
      clear hi1 hb1
      go_wp2_with fail
      refine (modRaw_panic g1 n _ e1 e2 _ hn HN0.out HI1.out (HER.out.below HB1.out)).mono ?_
      rintro e w5 ⟨t5, v5, rfl, hb5⟩
      have HB5 := Lib.hid (bt HB1.out hb5)
      clear hb5
      go_wp2_with fail
      have hp : DoPost w b4 none (.panicked [{ v := .iface t5 v5, recovered := false }]) w5 := ⟨_, _, rfl, HB5.out⟩
      exact ⟨rfl, hp⟩
    · have HN0 := Lib.hid hn0
      have HOZ : Hid (overI (modZ (readZ l) n) = false) := Lib.hid (modI_fits hn0 (overI_i64 hn))
      have HPO : Hid (iRes 4 (readZ l) n = some (modZ (readZ l) n)) := Lib.hid (iRes_some (z := modZ (readZ l) n) (refZ_mod hn0) HOZ.out)
      clear hn0
      rw [HPO.out]
      go_enter Tryz.func111, Tryz.ntmps111
      go_wp2_with fail
      refine HU.out.mono ?_
      rintro e w1 ⟨g1, rfl, hi1, hb1, _⟩
      have HI1 := Lib.hid (hi1.below (below_a1 w1 (.cells #[.pointer (some ⟨g1, 0, none⟩)] 80)))
      have HB1 := Lib.hid (bt hb1 (below_a1 w1 (.cells #[.pointer (some ⟨g1, 0, none⟩)] 80)))
      have c2 := (HV.out w1 hb1 (.cells #[.pointer (some ⟨g1, 0, none⟩)] 80)).1
      have c3 := (HV.out w1 hb1 (.cells #[.pointer (some ⟨g1, 0, none⟩)] 80)).2
      have e0 : ((4 : Nat) : Int) = 4 := rfl
      rw [e0] at c2
      clear e0
      clear hi1 hb1
      go_wp2_with fail
      refine (modRaw_walk g1 n _ _ hn HN0.out HI1.out (HDI.out.below HB1.out HDI.out.lt) HOX.out).mono ?_
      rintro e w5 ⟨g5, rfl, hi5, hb5, _⟩
      have HI5 := Lib.hid hi5
      have HB5 := Lib.hid (bt HB1.out hb5)
      clear hi5 hb5
      go_wp2_with fail
      refine (HFIN.out w5 g5 _ HB5.out HI5.out HOZ.out).mono ?_
      rintro e w6 ⟨rfl, hb6, k4⟩
      have c4 := one_cell k4
      have f4 := one_free k4 0
      have K4' := Lib.hid k4
      have HB6 := Lib.hid hb6
      clear k4 hb6
      go_wp2_with fail
      go_end0
      exact ⟨rfl, Ext.setCell (D := fun k => k = b4) (p := ⟨b4, 0, none⟩) (Ext.of_below HB6.out) (fun _ => rfl) _, one_set K4'.out⟩

set_option maxRecDepth 100000 in
theorem callCIntRaw : ∀ (caps : Array Value) (w : World), (callFunc 111 caps).run Tryz.prog w = .ok (.enter 111 caps) w := fun _ _ => by rfl
set_option maxRecDepth 100000 in
set_option maxHeartbeats 2000000 in
theorem intRaw_walk (op : Nat) (n : Int) (l : List UInt8) (p e1 e2 : Addr) (w : World) (hok : readOk l = true) (hl : l.length ≤ 1000) (hn : -9223372036854775808 ≤ n ∧ n < 9223372036854775808) (hp : EofIs w p) (hleaf : LeafIs w) (hkara : KaraIs w) (hdiv : DivIs w) (herr : ErrsAre w e1 e2) (hop : op ≤ 4) (ox : overI (readZ l) = false) :
    Calls Tryz.prog 41 #[.int .i64 (op : Int), .string (S l), .int .i64 n] w fun e w' => e = .returned (.tuple #[.string (S (outT (iRes op (readZ l) n))), .bool (iRes op (readZ l) n).isSome]) ∧ Below w.heap.size w w' := by
  have hmf : ∀ (fn : Fn) (first cap : Array Value) (w : World), (Instr.makeFunc fn first cap).run Tryz.prog w = .ok (.func fn first cap) w := fun _ _ _ _ => rfl
  obtain ⟨R, hR⟩ : ∃ R, iRes op (readZ l) n = R := ⟨_, rfl⟩
  rw [hR]
  have HS : Hid (Calls Tryz.prog 48 #[.func (.func 111) #[] #[.pointer (some ⟨w.heap.size + 1, 0, none⟩), .pointer (some ⟨w.heap.size, 0, none⟩), .pointer (some ⟨w.heap.size + 1 + 1, 0, none⟩), .pointer (some ⟨w.heap.size + 1 + 1 + 1, 0, none⟩)]]
      ((((w.alloc (.cells #[.int .i64 (op : Int)] 3)).alloc (.cells #[.string (S l)] 9)).alloc (.cells #[.int .i64 n] 2)).alloc (.cells #[.string ⟨#[]⟩] 9))
      fun e w' => e = .returned (.bool R.isSome) ∧ Below w.heap.size w w' ∧ w'.heap[w.heap.size + 1 + 1 + 1]? = some (.cells #[.string (S (outT R))] 9 (0, 0))) := by
    apply Lib.hid
    have k0 : ((((w.alloc (.cells #[.int .i64 (op : Int)] 3)).alloc (.cells #[.string (S l)] 9)).alloc (.cells #[.int .i64 n] 2)).alloc (.cells #[.string ⟨#[]⟩] 9)).heap[w.heap.size]? = some (.cells #[.int .i64 (op : Int)] 3 (0, 0)) := heap_old (heap_old (heap_old (heap_here _ _)))
    have k1 : ((((w.alloc (.cells #[.int .i64 (op : Int)] 3)).alloc (.cells #[.string (S l)] 9)).alloc (.cells #[.int .i64 n] 2)).alloc (.cells #[.string ⟨#[]⟩] 9)).heap[w.heap.size + 1]? = some (.cells #[.string (S l)] 9 (0, 0)) := heap_old (heap_old (heap_at _ _ (heap_size_alloc _ _)))
    have k2 : ((((w.alloc (.cells #[.int .i64 (op : Int)] 3)).alloc (.cells #[.string (S l)] 9)).alloc (.cells #[.int .i64 n] 2)).alloc (.cells #[.string ⟨#[]⟩] 9)).heap[w.heap.size + 1 + 1]? = some (.cells #[.int .i64 n] 2 (0, 0)) := heap_old (heap_at _ _ (by simp only [heap_size_alloc]))
    have k3 : ((((w.alloc (.cells #[.int .i64 (op : Int)] 3)).alloc (.cells #[.string (S l)] 9)).alloc (.cells #[.int .i64 n] 2)).alloc (.cells #[.string ⟨#[]⟩] 9)).heap[w.heap.size + 1 + 1 + 1]? = some (.cells #[.string ⟨#[]⟩] 9 (0, 0)) := heap_at _ _ (by simp only [heap_size_alloc])
    have hb : Below w.heap.size w ((((w.alloc (.cells #[.int .i64 (op : Int)] 3)).alloc (.cells #[.string (S l)] 9)).alloc (.cells #[.int .i64 n] 2)).alloc (.cells #[.string ⟨#[]⟩] 9)) := bt (below_a2 _ _ _) (below_a2 _ _ _)
    obtain ⟨wa, hwa⟩ : ∃ wa, (((w.alloc (.cells #[.int .i64 (op : Int)] 3)).alloc (.cells #[.string (S l)] 9)).alloc (.cells #[.int .i64 n] 2)).alloc (.cells #[.string ⟨#[]⟩] 9) = wa := ⟨_, rfl⟩
    rw [hwa] at k0 k1 k2 k3 hb ⊢
    clear hwa
    have lt3 := iter_lt k3
    have hb0 := hb
    have hC := intRawC_walk op n l p e1 e2 _ _ _ _ (wa.alloc (.cells #[.bool false] 4)) hok hl hn ((hp.below hb).below (below_a1 _ _)) ((hleaf.below hb).below (below_a1 _ _)) ((hkara.below hb).below (below_a1 _ _)) ((hdiv.below hb hdiv.lt).below (below_a1 _ _) (hdiv.below hb hdiv.lt).lt) ((herr.below hb0).below (below_a1 _ _)) hop (heap_old k1) (heap_old k0) (heap_old k2) (heap_old k3) ox
    rw [hR] at hC
    cases R with
    | some z =>
      refine safe_ret 111 _ wa (fun w' => Below w.heap.size w w' ∧ w'.heap[w.heap.size + 1 + 1 + 1]? = some (.cells #[.string (S (zText z))] 9 (0, 0))) (callCIntRaw _) ?_
      refine hC.mono ?_
      rintro e w1 ⟨rfl, he, j3⟩
      refine ⟨rfl, (he.block wa.heap.size (by rw [heap_size_alloc]; omega) (by omega)).trans (heap_here _ _), ?_, ?_⟩
      · refine Below.setCell (Below.setCell ?_ (by show w.heap.size ≤ wa.heap.size; omega) _) (by show w.heap.size ≤ wa.heap.size; omega) _
        exact (hb.trans ((below_a1 wa _).mono (by omega))).trans (he.below (by rw [heap_size_alloc]; omega) (fun k hk => by omega))
      · exact ((one_other (by show w.heap.size + 1 + 1 + 1 ≠ wa.heap.size; omega)).trans (one_other (by show w.heap.size + 1 + 1 + 1 ≠ wa.heap.size; omega))).trans j3
    | none =>
      refine safe_panics 111 _ wa (fun w' => Below w.heap.size w w' ∧ w'.heap[w.heap.size + 1 + 1 + 1]? = some (.cells #[.string (S [])] 9 (0, 0))) (callCIntRaw _) ?_
      refine hC.mono ?_
      rintro e w1 ⟨t, v, rfl, hb1⟩
      refine ⟨t, v, rfl, (hb1.block wa.heap.size (by rw [heap_size_alloc]; omega)).trans (heap_here _ _), ?_, ?_⟩
      · exact ((hb.trans ((below_a1 wa _).mono (by omega))).trans (hb1.mono (by rw [heap_size_alloc]; omega))).setCell (p := ⟨wa.heap.size, 0, none⟩) (by show w.heap.size ≤ wa.heap.size; omega) _
      · exact ((one_other (by show w.heap.size + 1 + 1 + 1 ≠ wa.heap.size; omega)).trans (hb1.block _ (by rw [heap_size_alloc]; omega))).trans (heap_old k3)
  clear hR hp hleaf hkara hdiv herr ox hok hop
  cases R with
  | some z =>
    obtain ⟨T, hT⟩ : ∃ T, outT (some z) = T := ⟨_, rfl⟩
    rw [hT] at HS ⊢
    have e0 : (some z).isSome = true := rfl
    rw [e0] at HS ⊢
    clear hT e0
    go_enter Tryz.func41, Tryz.ntmps41
    go_wp2_with fail
    refine HS.out.mono ?_
    rintro e w1 ⟨rfl, hb, k3⟩
    have c3 := one_cell k3
    have f3 := one_free k3 0
    have K3 := Lib.hid k3
    clear k3
    go_wp2_with fail
    have e3 := one_set (u := .string (S T)) K3.out
    have d3 := one_cell e3
    exact bodyPost_ret (v := .tuple #[.string (S T), .bool true]) (by simp [results, Tryz.results41, go_sem, d3]) rfl ⟨rfl, hb.setCell (p := ⟨w.heap.size + 1 + 1 + 1, 0, none⟩) (by show w.heap.size ≤ w.heap.size + 1 + 1 + 1; omega) _⟩
  | none =>
    have e0 : (none : Option Int).isSome = false := rfl
    have e1 : outT none = [] := rfl
    rw [e1, e0] at HS ⊢
    clear e0 e1
    go_enter Tryz.func41, Tryz.ntmps41
    go_wp2_with fail
    refine HS.out.mono ?_
    rintro e w1 ⟨rfl, hb, k3⟩
    have c3 := one_cell k3
    have f3 := one_free k3 0
    have K3 := Lib.hid k3
    clear k3
    go_wp2_with fail
    have e3 := one_set (u := .string ⟨#[]⟩) K3.out
    have d3 := one_cell e3
    exact bodyPost_ret (v := .tuple #[.string ⟨#[]⟩, .bool false]) (by simp [results, Tryz.results41, go_sem, d3]) rfl ⟨rfl, hb.setCell (p := ⟨w.heap.size + 1 + 1 + 1, 0, none⟩) (by show w.heap.size ≤ w.heap.size + 1 + 1 + 1; omega) _⟩
end Go.Proofs.YtiohlcfdoleooaaGreatDoor
