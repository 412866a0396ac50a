/-
  impl.IntSafe.
-/
import Derived.Test.YtiohlcfdoleooaaGreatDoorIntDoGZ
namespace Go.Proofs.YtiohlcfdoleooaaGreatDoor
open Go.RowKit

/-- What IntSafe's closure lays down. -/
def SafeDoPost (w : World) (b4 b5 : Nat) (r : Option Int) (e : Ending) (w' : World) : Prop :=
  e = .returned (.tuple #[]) ∧ Ext (fun k => k = b4 ∨ k = b5) w w' ∧ w'.heap[b4]? = some (.cells #[.string (S (outT r))] 9 (0, 0)) ∧ w'.heap[b5]? = some (.cells #[.bool r.isSome] 4 (0, 0))

set_option maxRecDepth 100000 in
set_option maxHeartbeats 4000000 in
theorem intSafeC_walk (op : Nat) (l1 l2 : List UInt8) (p e1 e2 : Addr) (b1 b2 b3 b4 b5 : Nat) (w : World) (hok1 : readOk l1 = true) (hok2 : readOk l2 = true) (hl1 : l1.length ≤ 1000) (hl2 : l2.length ≤ 1000) (hp : EofIs w p) (hleaf : LeafIs w) (hkara : KaraIs w) (hdiv : DivIs w) (herr : ErrsAre w e1 e2) (hop : op ≤ 4) (h45 : b4 ≠ b5)
    (h1 : w.heap[b1]? = some (.cells #[.string (S l1)] 9 (0, 0))) (h2 : w.heap[b2]? = some (.cells #[.string (S l2)] 9 (0, 0))) (h3 : w.heap[b3]? = some (.cells #[.int .i64 (op : Int)] 3 (0, 0))) (h4 : w.heap[b4]? = some (.cells #[.string ⟨#[]⟩] 9 (0, 0))) (h5 : w.heap[b5]? = some (.cells #[.bool false] 4 (0, 0)))
    (ox : overI (readZ l1) = false) (oy : overI (readZ l2) = false) :
    Calls Tryz.prog 105 #[.pointer (some ⟨b1, 0, none⟩), .pointer (some ⟨b2, 0, none⟩), .pointer (some ⟨b3, 0, none⟩), .pointer (some ⟨b4, 0, none⟩), .pointer (some ⟨b5, 0, none⟩)] w (SafeDoPost w b4 b5 (iRes op (readZ l1) (readZ l2))) := by
  have c1 := one_cell h1
  have c2 := one_cell h2
  have lt1 := iter_lt h1
  have lt2 := iter_lt h2
  have lt3 := iter_lt h3
  have lt4 := iter_lt h4
  have lt0 := hp.lt
  have H2 := Lib.hid h2
  have H3 := Lib.hid h3
  have H4 := Lib.hid h4
  have H5 := Lib.hid h5
  have lt5 := iter_lt h5
  have HU1 := Lib.hid (fun (w2 : World) (hp2 : EofIs w2 p) => integer_walk l1 p w2 hok1 hl1 hp2 ox)
  have HU2 := Lib.hid (fun (w2 : World) (hp2 : EofIs w2 p) => integer_walk l2 p w2 hok2 hl2 hp2 oy)
  have HOX := Lib.hid ox
  have HOY := Lib.hid oy
  have HKA := Lib.hid hkara
  have HDI := Lib.hid hdiv
  have HER := Lib.hid herr
  have HP := Lib.hid hp
  have HLF := Lib.hid hleaf
  clear h1 h2 h3 h4 h5 hp hleaf hkara hdiv herr ox oy
  go_enter Tryz.func105, Tryz.ntmps105
  go_upto_region 0 with fail
  go_cut [5, 6] (fun xv yv wx => PairVarsI w (readZ l1) (readZ l2) xv yv wx)
  case first =>
    have hkept : w.cell? ⟨b1, 0, none⟩ = some (.string (S l1)) ∧ w.cell? ⟨b2, 0, none⟩ = some (.string (S l2)) ∧ DoMI w p w := ⟨c1, c2, Below.refl _ _, HP.out⟩
    go_region_held3 (fun w' => w'.cell? ⟨b1, 0, none⟩ = some (.string (S l1)) ∧ w'.cell? ⟨b2, 0, none⟩ = some (.string (S l2)) ∧ DoMI w p w')
      (first | assumption | exact dom_growI (by assumption) hgr | ((repeat' first | exact SW2.out | exact SW1.out | exact hkept | refine dom_setI ?_ (by dsimp only; omega) (by dsimp only; omega) (by dsimp only; omega) (by dsimp only; omega) | refine dom_growI ?_ (below_a1 _ _) | refine dom_drewI ?_); done))
      (first
        | (go_at_call 79; (with_reducible refine (HU1.out _ ?_).mono ?_); (go_split_ands; exact DoMI.eof (by assumption)); rintro e w1 ⟨g1, rfl, hi1, hgr, _⟩; have hgl1 := hi1.lt; have HI1 := Lib.hid hi1; have HB1 := Lib.hid hgr; have SW1 := Lib.hid (by first | exact dom_growI (dom_drewI hkept) hgr | exact dom_growI (dom_drewI (dom_growI hkept (below_a1 _ _))) hgr | exact dom_growI (dom_drewI (dom_growI (dom_growI hkept (below_a1 _ _)) (below_a1 _ _))) hgr); have hsz1 : w.heap.size ≤ w1.heap.size := (by first | exact hgr.size | exact Nat.le_of_lt (early_cellDI hgr).1 | exact Nat.le_of_lt (Nat.lt_of_succ_lt (early_cellD2I hgr).1)); (try (have E1 := Lib.hid (early_cellDI (w1 := w) hgr))); (try (have E2 := Lib.hid (early_cellD2I (w1 := w) hgr))); clear hi1)
        | (go_at_call 79; (with_reducible refine (HU2.out _ ?_).mono ?_); (go_split_ands; exact DoMI.eof (by assumption)); rintro e w2 ⟨g2, rfl, hi2, hgr, hfr2⟩; have hgl2 : w1.heap.size ≤ g2 := (by first | exact hfr2 | (have hq := hfr2; rw [heap_size_drew, heap_size_alloc] at hq; omega) | (have hq := hfr2; rw [heap_size_alloc] at hq; omega) | (have hq := hfr2; rw [heap_size_alloc, heap_size_alloc] at hq; omega)); have HI2 := Lib.hid hi2; have HB2 := Lib.hid hgr; (first | (have F0 := E1.out; clear F0) | (have F0 := E2.out; clear F0) | (try (have q3 := (early_cellI (w1 := w1) hgr).2; have q3l := (early_cellI (w1 := w1) hgr).1; have q4 := fun o => (early_oldI q3 o).1; have q5 := fun o => (early_oldI q3 o).2; have q9 := one_cell q3; have q10 := one_free q3 0; have hn3 := fun v => (late_cellI q3l v).1; have hn4 := fun v => (late_cellI q3l v).2; have Q3 := Lib.hid q3; clear q3))); (try (have q3 := early_cell2I (w1 := w1) hgr; have q20 := one_cell q3.1; have q21 := one_free q3.1 0; have q22 := one_cell q3.2.1; have q23 := one_free q3.2.1 0; have q24 := q3.2.2; have Q4 := Lib.hid q3; clear q3)); (try (have e1 := E1.out; have q3 := early_cellI (w1 := w1) hgr; have r3 : w2.heap[w.heap.size]? = some (.cells #[.pointer none] 80 (0, 0)) := (early_onI (heap_old e1.2) hgr); have s1 := one_cell r3; have s2 := one_free r3 0; have s3 := one_cell q3.2; have s4 := one_free q3.2 0; have hlt := e1.1; have hn1 : w.heap.size ≠ w1.heap.size := Nat.ne_of_lt hlt; have hn2 := hn1.symm; have s5 := fun v => (after_setI q3.2 hn2 v).1; have s6 := fun v => (after_setI q3.2 hn2 v).2; have s7 := fun v => (after_setI r3 hn1 v).1; have s8 := fun v => (after_setI r3 hn1 v).2; have F2 := Lib.hid (And.intro r3 q3.2); clear e1 q3 r3)); (try (have e1 := E1.out; have r3 := early_onI e1.2 hgr; have s1 := one_cell r3; have s2 := one_free r3 0; have s3 := fun o => (early_oldI r3 o).1; have s4 := fun o => (early_oldI r3 o).2; have r3l := iter_lt r3; have hlt := e1.1; have s5 := fun v => (late_cellI r3l v).1; have s6 := fun v => (late_cellI r3l v).2; have F3 := Lib.hid r3; clear e1 r3)); (try (have e2 := E2.out; have r3 := early_onI e2.2.1 hgr; have r4 := early_onI e2.2.2 hgr; have s1 := one_cell r3; have s2 := one_free r3 0; have s3 := one_cell r4; have s4 := one_free r4 0; have hlt := e2.1; have F1 := Lib.hid (And.intro r3 r4); clear e2 r3 r4)); have SW2 := Lib.hid (dom_growI (by first | exact SW1.out | exact dom_growI SW1.out (below_a1 _ _) | exact dom_growI (dom_growI SW1.out (below_a1 _ _)) (below_a1 _ _)) hgr); have hsz2 : w1.heap.size ≤ w2.heap.size := (by first | exact hgr.size | (have hq := hgr.size; rw [heap_size_alloc] at hq; omega) | (have hq := hgr.size; rw [heap_size_alloc, heap_size_alloc] at hq; omega)); have q1 : ∀ X, ((w2.alloc X).alloc (.cells #[.pointer none] 80)).cell? ⟨w2.heap.size + 1, 0, none⟩ = some (.pointer none) := fun X => one_cell (heap_at _ _ (heap_size_alloc _ _)); have q2 : ∀ X, ((w2.alloc X).alloc (.cells #[.pointer none] 80)).frozen? ⟨w2.heap.size + 1, 0, none⟩ = false := fun X => one_free (heap_at _ _ (heap_size_alloc _ _)) 0; clear hi2))
    all_goals (clear HU1 HU2)
    all_goals (go_wp2_with fail)
    all_goals go_meet
    all_goals (have I1 := (by first | exact HI1.out.below HB2.out | exact (HI1.out.below (below_a1 _ _)).below HB2.out | exact ((HI1.out.below (below_a1 _ _)).below (below_a1 _ _)).below HB2.out : IntAt w2 g1 (readZ l1)))
    all_goals (have I2 := HI2.out; have B2 := SW2.out.2.2.below)
    all_goals with_reducible first
      | exact (pair_vars_newI (by omega) I1 I2 B2).1
      | exact (pair_vars_newI (by omega) I1 I2 B2).2
      | exact (pair_vars_mixI (by omega) F3.out I1 I2 B2 (by omega)).1
      | exact (pair_vars_mixI (by omega) F3.out I1 I2 B2 (by omega)).2
      | exact (pair_vars_mixI (by omega) Q3.out I1 I2 B2 (by omega)).1
      | exact (pair_vars_mixI (by omega) Q3.out I1 I2 B2 (by omega)).2
      | exact pair_endI (by omega) F1.out.1 F1.out.2 (by omega) I1 I2 B2 (by omega) (by omega)
      | exact pair_endI (by omega) F1.out.2 F1.out.1 (by omega) I1 I2 B2 (by omega) (by omega)
      | exact pair_endI (by omega) F2.out.1 F2.out.2 (by omega) I1 I2 B2 (by omega) (by omega)
      | exact pair_endI (by omega) F2.out.2 F2.out.1 (by omega) I1 I2 B2 (by omega) (by omega)
      | exact pair_endI (by omega) Q4.out.1 Q4.out.2.1 (by omega) I1 I2 B2 (by omega) (by omega)
      | exact pair_endI (by omega) Q4.out.2.1 Q4.out.1 (by omega) I1 I2 B2 (by omega) (by omega)
  case rest =>
    obtain ⟨gx, gy, bx, by2, rfl, rfl, hbx, hby, hix, hiy, hbw, hxy⟩ := hcut
    have hba := below_a1 wc (.cells #[.pointer none] 80)
    obtain ⟨wa, hwa⟩ : ∃ wa, wc.alloc (.cells #[.pointer none] 80) = wa := ⟨_, rfl⟩
    have kr : wa.heap[wc.heap.size]? = some (.cells #[.pointer none] 80 (0, 0)) := by rw [← hwa]; exact heap_here _ _
    rw [hwa] at hba
    have hbwa := bt hbw hba
    obtain ⟨r, hr⟩ : ∃ r, wc.heap.size = r := ⟨_, rfl⟩
    have hrw : w.heap.size ≤ r := by rw [← hr]; exact hbw.size
    rw [hr] at kr
    have k3 := (hbwa.block b3 lt3).trans H3.out
    have c3 := one_cell k3
    have cx := one_cell ((hba.block bx (iter_lt hbx)).trans hbx)
    have cy := one_cell ((hba.block by2 (iter_lt hby)).trans hby)
    have cr := one_cell kr
    have fr := one_free kr 0
    have KR := Lib.hid kr
    have HIX := Lib.hid (hix.below hba)
    have HIY := Lib.hid (hiy.below hba)
    have HBW := Lib.hid hbwa
    have HXY := Lib.hid hxy
    have HRW := Lib.hid hrw
    have H45 := Lib.hid h45
    have HWA := Lib.hid hwa
    have HR := Lib.hid hr
    clear k3 hbx hby hix hiy hbw c1 c2 hxy kr hba hbwa hwa hrw hr
    have HFIN : Hid (∀ (w' : World) (g : Nat) (z : Int), Below w.heap.size w w' → IntAt w' g z → overI z = false → Calls Tryz.prog 98 #[.agg #[.pointer (some ⟨g, 0, none⟩)]] w' fun e w6 => e = .returned (.string (S (zText z))) ∧ Below w.heap.size w w6 ∧ w6.heap[b4]? = some (.cells #[.string ⟨#[]⟩] 9 (0, 0)) ∧ w6.heap[b5]? = some (.cells #[.bool false] 4 (0, 0))) := by
      refine Lib.hid fun w' g z hb hi oz => (intStringI_walk g z w' hi (overI_len oz) (HLF.out.below hb)).mono ?_
      rintro e w6 ⟨rfl, hb6⟩
      exact ⟨rfl, bt hb hb6, ((bt hb hb6).block b4 lt4).trans H4.out, ((bt hb hb6).block b5 lt5).trans H5.out⟩
    have HNO : Hid (∀ (w' : World), Below w.heap.size w w' → SafeDoPost w b4 b5 none (.returned (.tuple #[])) w') := Lib.hid fun w' hb => ⟨rfl, Ext.of_below hb, (hb.block b4 lt4).trans H4.out, (hb.block b5 lt5).trans H5.out⟩
    rcases (show op = 0 ∨ op = 1 ∨ op = 2 ∨ op = 3 ∨ op = 4 by omega) with rfl | rfl | rfl | rfl | rfl
    · have e0 : ((0 : Nat) : Int) = 0 := rfl
      rw [e0] at c3
      clear e0
      cases oz : overI (readZ l1 + readZ l2) with
      | false =>
        have HOZ := Lib.hid oz
        have HPO : Hid (iRes 0 (readZ l1) (readZ l2) = some (readZ l1 + readZ l2)) := Lib.hid (iRes_some (z := (readZ l1 + readZ l2)) (rfl) HOZ.out)
        clear oz
        go_upto_region 2 with fail
        rw [HWA.out, HR.out]
        go_wp2_with fail
        refine (safeAdd2_walk gx gy _ _ _ HIX.out HIY.out HOX.out HOY.out HOZ.out).mono ?_
        rintro e w5 ⟨g5, rfl, hi5, hb5, _⟩
        have kr5 := (hb5.block r (iter_lt KR.out)).trans KR.out
        have d5 := one_cell kr5
        have f5 := one_free kr5 0
        have ks := one_set (u := .pointer (some ⟨g5, 0, none⟩)) kr5
        have ds := one_cell ks
        have HI5 := Lib.hid (hi5.store kr5 (by decide) (by decide) (.pointer (some ⟨g5, 0, none⟩)) (o := 0))
        have HB5 := Lib.hid ((bt HBW.out hb5).setCell (p := ⟨r, 0, none⟩) HRW.out (.pointer (some ⟨g5, 0, none⟩)))
        clear hi5 hb5 kr5 ks cr fr cx cy c3
        go_wp2_with fail
        refine (HFIN.out _ g5 _ HB5.out HI5.out HOZ.out).mono ?_
        rintro e w6 ⟨rfl, hb6, k4, k5⟩
        have c4 := one_cell k4
        have f4 := one_free k4 0
        have c5 := fun v => one_cell ((one_other (u := v) (a := ⟨b4, 0, none⟩) (by exact H45.out.symm)).trans k5)
        have q5 := fun v => one_free ((one_other (u := v) (a := ⟨b4, 0, none⟩) (by exact H45.out.symm)).trans k5) 0
        have K4 := Lib.hid k4
        have K5 := Lib.hid k5
        have HB6 := Lib.hid hb6
        clear k4 k5 hb6
        go_wp2_with fail
        go_end0
        rw [HPO.out]
        exact ⟨rfl, Ext.setCell (D := fun k => k = b4 ∨ k = b5) (p := ⟨b5, 0, none⟩) (Ext.setCell (D := fun k => k = b4 ∨ k = b5) (p := ⟨b4, 0, none⟩) (Ext.of_below HB6.out) (fun _ => .inl rfl) _) (fun _ => .inr rfl) _, (one_other (by exact H45.out)).trans (one_set K4.out), one_set ((one_other (by exact H45.out.symm)).trans K5.out)⟩
      | true =>
        have HOZ := Lib.hid oz
        have HPO : Hid (iRes 0 (readZ l1) (readZ l2) = none) := Lib.hid (iRes_over rfl oz)
        clear oz
        go_upto_region 2 with fail
        rw [HWA.out, HR.out]
        go_wp2_with fail
        refine (safeAdd2_over gx gy _ _ e1 e2 _ HIX.out HIY.out (HER.out.below HBW.out) HOX.out HOY.out HOZ.out).mono ?_
        rintro e w5 ⟨p5, rfl, hb5⟩
        have kr5 := (hb5.block r (iter_lt KR.out)).trans KR.out
        have d5 := one_cell kr5
        have f5 := one_free kr5 0
        have HB5 := Lib.hid ((bt HBW.out hb5).setCell (p := ⟨r, 0, none⟩) HRW.out (.pointer none))
        clear hb5 kr5 cr fr cx cy c3
        go_wp2_with fail
        go_end0
        rw [HPO.out]
        exact HNO.out _ HB5.out
    · have e0 : ((1 : Nat) : Int) = 1 := rfl
      rw [e0] at c3
      clear e0
      cases oz : overI (readZ l1 - readZ l2) with
      | false =>
        have HOZ := Lib.hid oz
        have HPO : Hid (iRes 1 (readZ l1) (readZ l2) = some (readZ l1 - readZ l2)) := Lib.hid (iRes_some (z := (readZ l1 - readZ l2)) (rfl) HOZ.out)
        clear oz
        go_upto_region 2 with fail
        rw [HWA.out, HR.out]
        go_wp2_with fail
        refine (safeSub2_walk gx gy _ _ _ HIX.out HIY.out HOX.out HOY.out HOZ.out).mono ?_
        rintro e w5 ⟨g5, rfl, hi5, hb5, _⟩
        have kr5 := (hb5.block r (iter_lt KR.out)).trans KR.out
        have d5 := one_cell kr5
        have f5 := one_free kr5 0
        have ks := one_set (u := .pointer (some ⟨g5, 0, none⟩)) kr5
        have ds := one_cell ks
        have HI5 := Lib.hid (hi5.store kr5 (by decide) (by decide) (.pointer (some ⟨g5, 0, none⟩)) (o := 0))
        have HB5 := Lib.hid ((bt HBW.out hb5).setCell (p := ⟨r, 0, none⟩) HRW.out (.pointer (some ⟨g5, 0, none⟩)))
        clear hi5 hb5 kr5 ks cr fr cx cy c3
        go_wp2_with fail
        refine (HFIN.out _ g5 _ HB5.out HI5.out HOZ.out).mono ?_
        rintro e w6 ⟨rfl, hb6, k4, k5⟩
        have c4 := one_cell k4
        have f4 := one_free k4 0
        have c5 := fun v => one_cell ((one_other (u := v) (a := ⟨b4, 0, none⟩) (by exact H45.out.symm)).trans k5)
        have q5 := fun v => one_free ((one_other (u := v) (a := ⟨b4, 0, none⟩) (by exact H45.out.symm)).trans k5) 0
        have K4 := Lib.hid k4
        have K5 := Lib.hid k5
        have HB6 := Lib.hid hb6
        clear k4 k5 hb6
        go_wp2_with fail
        go_end0
        rw [HPO.out]
        exact ⟨rfl, Ext.setCell (D := fun k => k = b4 ∨ k = b5) (p := ⟨b5, 0, none⟩) (Ext.setCell (D := fun k => k = b4 ∨ k = b5) (p := ⟨b4, 0, none⟩) (Ext.of_below HB6.out) (fun _ => .inl rfl) _) (fun _ => .inr rfl) _, (one_other (by exact H45.out)).trans (one_set K4.out), one_set ((one_other (by exact H45.out.symm)).trans K5.out)⟩
      | true =>
        have HOZ := Lib.hid oz
        have HPO : Hid (iRes 1 (readZ l1) (readZ l2) = none) := Lib.hid (iRes_over rfl oz)
        clear oz
        go_upto_region 2 with fail
        rw [HWA.out, HR.out]
        go_wp2_with fail
        refine (safeSub2_over gx gy _ _ e1 e2 _ HIX.out HIY.out (HER.out.below HBW.out) HOX.out HOY.out HOZ.out).mono ?_
        rintro e w5 ⟨p5, rfl, hb5⟩
        have kr5 := (hb5.block r (iter_lt KR.out)).trans KR.out
        have d5 := one_cell kr5
        have f5 := one_free kr5 0
        have HB5 := Lib.hid ((bt HBW.out hb5).setCell (p := ⟨r, 0, none⟩) HRW.out (.pointer none))
        clear hb5 kr5 cr fr cx cy c3
        go_wp2_with fail
        go_end0
        rw [HPO.out]
        exact HNO.out _ HB5.out
    · have e0 : ((2 : Nat) : Int) = 2 := rfl
      rw [e0] at c3
      clear e0
      cases oz : overI (readZ l1 * readZ l2) with
      | false =>
        have HOZ := Lib.hid oz
        have HPO : Hid (iRes 2 (readZ l1) (readZ l2) = some (readZ l1 * readZ l2)) := Lib.hid (iRes_some (z := (readZ l1 * readZ l2)) (rfl) HOZ.out)
        clear oz
        go_upto_region 2 with fail
        rw [HWA.out, HR.out]
        go_wp2_with fail
        refine (safeMul2_walk gx gy _ _ _ HIX.out HIY.out HXY.out (HKA.out.below HBW.out) HOX.out HOY.out HOZ.out).mono ?_
        rintro e w5 ⟨g5, rfl, hi5, hb5, _⟩
        have kr5 := (hb5.block r (iter_lt KR.out)).trans KR.out
        have d5 := one_cell kr5
        have f5 := one_free kr5 0
        have ks := one_set (u := .pointer (some ⟨g5, 0, none⟩)) kr5
        have ds := one_cell ks
        have HI5 := Lib.hid (hi5.store kr5 (by decide) (by decide) (.pointer (some ⟨g5, 0, none⟩)) (o := 0))
        have HB5 := Lib.hid ((bt HBW.out hb5).setCell (p := ⟨r, 0, none⟩) HRW.out (.pointer (some ⟨g5, 0, none⟩)))
        clear hi5 hb5 kr5 ks cr fr cx cy c3
        go_wp2_with fail
        refine (HFIN.out _ g5 _ HB5.out HI5.out HOZ.out).mono ?_
        rintro e w6 ⟨rfl, hb6, k4, k5⟩
        have c4 := one_cell k4
        have f4 := one_free k4 0
        have c5 := fun v => one_cell ((one_other (u := v) (a := ⟨b4, 0, none⟩) (by exact H45.out.symm)).trans k5)
        have q5 := fun v => one_free ((one_other (u := v) (a := ⟨b4, 0, none⟩) (by exact H45.out.symm)).trans k5) 0
        have K4 := Lib.hid k4
        have K5 := Lib.hid k5
        have HB6 := Lib.hid hb6
        clear k4 k5 hb6
        go_wp2_with fail
        go_end0
        rw [HPO.out]
        exact ⟨rfl, Ext.setCell (D := fun k => k = b4 ∨ k = b5) (p := ⟨b5, 0, none⟩) (Ext.setCell (D := fun k => k = b4 ∨ k = b5) (p := ⟨b4, 0, none⟩) (Ext.of_below HB6.out) (fun _ => .inl rfl) _) (fun _ => .inr rfl) _, (one_other (by exact H45.out)).trans (one_set K4.out), one_set ((one_other (by exact H45.out.symm)).trans K5.out)⟩
      | true =>
        have HOZ := Lib.hid oz
        have HPO : Hid (iRes 2 (readZ l1) (readZ l2) = none) := Lib.hid (iRes_over rfl oz)
        clear oz
        go_upto_region 2 with fail
        rw [HWA.out, HR.out]
        go_wp2_with fail
        refine (safeMul2_over gx gy _ _ e1 e2 _ HIX.out HIY.out (HER.out.below HBW.out) HXY.out (HKA.out.below HBW.out) HOX.out HOY.out HOZ.out).mono ?_
        rintro e w5 ⟨p5, rfl, hb5⟩
        have kr5 := (hb5.block r (iter_lt KR.out)).trans KR.out
        have d5 := one_cell kr5
        have f5 := one_free kr5 0
        have HB5 := Lib.hid ((bt HBW.out hb5).setCell (p := ⟨r, 0, none⟩) HRW.out (.pointer none))
        clear hb5 kr5 cr fr cx cy c3
        go_wp2_with fail
        go_end0
        rw [HPO.out]
        exact HNO.out _ HB5.out
    · have e0 : ((3 : Nat) : Int) = 3 := rfl
      rw [e0] at c3
      clear e0
      by_cases hy0 : readZ l2 = 0
      · have HIY0 : Hid (IntAt wa gy 0) := Lib.hid (by have h := HIY.out; rw [hy0] at h; exact h)
        have HPO : Hid (iRes 3 (readZ l1) (readZ l2) = none) := Lib.hid (iRes_none (if_pos hy0))
        clear hy0
        go_upto_region 2 with fail
        rw [HWA.out, HR.out]
        go_wp2_with fail
        refine (safeQuo2_zero gx gy _ e1 e2 _ HIX.out HIY0.out (HER.out.below HBW.out)).mono ?_
        rintro e w5 ⟨p5, rfl, hb5⟩
        have kr5 := (hb5.block r (iter_lt KR.out)).trans KR.out
        have d5 := one_cell kr5
        have f5 := one_free kr5 0
        have HB5 := Lib.hid ((bt HBW.out hb5).setCell (p := ⟨r, 0, none⟩) HRW.out (.pointer none))
        clear hb5 kr5 cr fr cx cy c3
        go_wp2_with fail
        go_end0
        rw [HPO.out]
        exact HNO.out _ HB5.out
      · have HOZ : Hid (overI ((readZ l1).tdiv (readZ l2)) = false) := Lib.hid (quoI_fits HOX.out)
        have HY0 := Lib.hid hy0
        have HPO : Hid (iRes 3 (readZ l1) (readZ l2) = some ((readZ l1).tdiv (readZ l2))) := Lib.hid (iRes_some (z := ((readZ l1).tdiv (readZ l2))) (if_neg hy0) HOZ.out)
        clear hy0
        go_upto_region 2 with fail
        rw [HWA.out, HR.out]
        go_wp2_with fail
        refine (safeQuo2_walk gx gy _ _ _ HIX.out HIY.out HXY.out (HDI.out.below HBW.out HDI.out.lt) HY0.out HOX.out HOY.out).mono ?_
        rintro e w5 ⟨g5, rfl, hi5, hb5, _⟩
        have kr5 := (hb5.block r (iter_lt KR.out)).trans KR.out
        have d5 := one_cell kr5
        have f5 := one_free kr5 0
        have ks := one_set (u := .pointer (some ⟨g5, 0, none⟩)) kr5
        have ds := one_cell ks
        have HI5 := Lib.hid (hi5.store kr5 (by decide) (by decide) (.pointer (some ⟨g5, 0, none⟩)) (o := 0))
        have HB5 := Lib.hid ((bt HBW.out hb5).setCell (p := ⟨r, 0, none⟩) HRW.out (.pointer (some ⟨g5, 0, none⟩)))
        clear hi5 hb5 kr5 ks cr fr cx cy c3
        go_wp2_with fail
        refine (HFIN.out _ g5 _ HB5.out HI5.out HOZ.out).mono ?_
        rintro e w6 ⟨rfl, hb6, k4, k5⟩
        have c4 := one_cell k4
        have f4 := one_free k4 0
        have c5 := fun v => one_cell ((one_other (u := v) (a := ⟨b4, 0, none⟩) (by exact H45.out.symm)).trans k5)
        have q5 := fun v => one_free ((one_other (u := v) (a := ⟨b4, 0, none⟩) (by exact H45.out.symm)).trans k5) 0
        have K4 := Lib.hid k4
        have K5 := Lib.hid k5
        have HB6 := Lib.hid hb6
        clear k4 k5 hb6
        go_wp2_with fail
        go_end0
        rw [HPO.out]
        exact ⟨rfl, Ext.setCell (D := fun k => k = b4 ∨ k = b5) (p := ⟨b5, 0, none⟩) (Ext.setCell (D := fun k => k = b4 ∨ k = b5) (p := ⟨b4, 0, none⟩) (Ext.of_below HB6.out) (fun _ => .inl rfl) _) (fun _ => .inr rfl) _, (one_other (by exact H45.out)).trans (one_set K4.out), one_set ((one_other (by exact H45.out.symm)).trans K5.out)⟩
    · have e0 : ((4 : Nat) : Int) = 4 := rfl
      rw [e0] at c3
      clear e0
      by_cases hy0 : readZ l2 = 0
      · have HIY0 : Hid (IntAt wa gy 0) := Lib.hid (by have h := HIY.out; rw [hy0] at h; exact h)
        have HPO : Hid (iRes 4 (readZ l1) (readZ l2) = none) := Lib.hid (iRes_none (if_pos hy0))
        clear hy0
        go_upto_region 2 with fail
        rw [HWA.out, HR.out]
        go_wp2_with fail
        refine (safeMod2_zero gx gy _ e1 e2 _ HIX.out HIY0.out (HER.out.below HBW.out)).mono ?_
        rintro e w5 ⟨p5, rfl, hb5⟩
        have kr5 := (hb5.block r (iter_lt KR.out)).trans KR.out
        have d5 := one_cell kr5
        have f5 := one_free kr5 0
        have HB5 := Lib.hid ((bt HBW.out hb5).setCell (p := ⟨r, 0, none⟩) HRW.out (.pointer none))
        clear hb5 kr5 cr fr cx cy c3
        go_wp2_with fail
        go_end0
        rw [HPO.out]
        exact HNO.out _ HB5.out
      · have HOZ : Hid (overI (modZ (readZ l1) (readZ l2)) = false) := Lib.hid (modI_fits hy0 HOY.out)
        have HY0 := Lib.hid hy0
        have HPO : Hid (iRes 4 (readZ l1) (readZ l2) = some (modZ (readZ l1) (readZ l2))) := Lib.hid (iRes_some (z := (modZ (readZ l1) (readZ l2))) (refZ_mod hy0) HOZ.out)
        clear hy0
        go_upto_region 2 with fail
        rw [HWA.out, HR.out]
        go_wp2_with fail
        refine (safeMod2_walk gx gy _ _ _ HIX.out HIY.out HXY.out (HDI.out.below HBW.out HDI.out.lt) HY0.out HOX.out HOY.out).mono ?_
        rintro e w5 ⟨g5, rfl, hi5, hb5, _⟩
        have kr5 := (hb5.block r (iter_lt KR.out)).trans KR.out
        have d5 := one_cell kr5
        have f5 := one_free kr5 0
        have ks := one_set (u := .pointer (some ⟨g5, 0, none⟩)) kr5
        have ds := one_cell ks
        have HI5 := Lib.hid (hi5.store kr5 (by decide) (by decide) (.pointer (some ⟨g5, 0, none⟩)) (o := 0))
        have HB5 := Lib.hid ((bt HBW.out hb5).setCell (p := ⟨r, 0, none⟩) HRW.out (.pointer (some ⟨g5, 0, none⟩)))
        clear hi5 hb5 kr5 ks cr fr cx cy c3
        go_wp2_with fail
        refine (HFIN.out _ g5 _ HB5.out HI5.out HOZ.out).mono ?_
        rintro e w6 ⟨rfl, hb6, k4, k5⟩
        have c4 := one_cell k4
        have f4 := one_free k4 0
        have c5 := fun v => one_cell ((one_other (u := v) (a := ⟨b4, 0, none⟩) (by exact H45.out.symm)).trans k5)
        have q5 := fun v => one_free ((one_other (u := v) (a := ⟨b4, 0, none⟩) (by exact H45.out.symm)).trans k5) 0
        have K4 := Lib.hid k4
        have K5 := Lib.hid k5
        have HB6 := Lib.hid hb6
        clear k4 k5 hb6
        go_wp2_with fail
        go_end0
        rw [HPO.out]
        exact ⟨rfl, Ext.setCell (D := fun k => k = b4 ∨ k = b5) (p := ⟨b5, 0, none⟩) (Ext.setCell (D := fun k => k = b4 ∨ k = b5) (p := ⟨b4, 0, none⟩) (Ext.of_below HB6.out) (fun _ => .inl rfl) _) (fun _ => .inr rfl) _, (one_other (by exact H45.out)).trans (one_set K4.out), one_set ((one_other (by exact H45.out.symm)).trans K5.out)⟩

set_option maxRecDepth 100000 in
theorem callCIntSafe : ∀ (caps : Array Value) (w : World), (callFunc 105 caps).run Tryz.prog w = .ok (.enter 105 caps) w := fun _ _ => by rfl
set_option maxRecDepth 100000 in
set_option maxHeartbeats 2000000 in
theorem intSafe_walk (op : Nat) (l1 l2 : List UInt8) (p e1 e2 : Addr) (w : World) (hok1 : readOk l1 = true) (hok2 : readOk l2 = true) (hl1 : l1.length ≤ 1000) (hl2 : l2.length ≤ 1000) (hp : EofIs w p) (hleaf : LeafIs w) (hkara : KaraIs w) (hdiv : DivIs w) (herr : ErrsAre w e1 e2) (hop : op ≤ 4) (ox : overI (readZ l1) = false) (oy : overI (readZ l2) = false) :
    Calls Tryz.prog 39 #[.int .i64 (op : Int), .string (S l1), .string (S l2)] w fun e w' => e = .returned (.tuple #[.string (S (outT (iRes op (readZ l1) (readZ l2)))), .bool (iRes op (readZ l1) (readZ l2)).isSome]) ∧ Below w.heap.size w w' := by
  have hmf : ∀ (fn : Fn) (first cap : Array Value) (w : World), (Instr.makeFunc fn first cap).run Tryz.prog w = .ok (.func fn first cap) w := fun _ _ _ _ => rfl
  obtain ⟨R, hR⟩ : ∃ R, iRes op (readZ l1) (readZ l2) = R := ⟨_, rfl⟩
  rw [hR]
  obtain ⟨T, hT⟩ : ∃ T, outT R = T := ⟨_, rfl⟩
  obtain ⟨rb, hrb⟩ : ∃ rb, R.isSome = rb := ⟨_, rfl⟩
  have hTe : rb = false → T = [] := by
    intro h
    rw [← hrb] at h
    rw [← hT]
    cases R with
    | none => rfl
    | some z => cases h
  have HS : Hid (Calls Tryz.prog 48 #[.func (.func 105) #[] #[.pointer (some ⟨w.heap.size + 1, 0, none⟩), .pointer (some ⟨w.heap.size + 1 + 1, 0, none⟩), .pointer (some ⟨w.heap.size, 0, none⟩), .pointer (some ⟨w.heap.size + 1 + 1 + 1, 0, none⟩), .pointer (some ⟨w.heap.size + 1 + 1 + 1 + 1, 0, none⟩)]]
      (((((w.alloc (.cells #[.int .i64 (op : Int)] 3)).alloc (.cells #[.string (S l1)] 9)).alloc (.cells #[.string (S l2)] 9)).alloc (.cells #[.string ⟨#[]⟩] 9)).alloc (.cells #[.bool false] 4))
      fun e w' => e = .returned (.bool true) ∧ Below w.heap.size w w' ∧ w'.heap[w.heap.size + 1 + 1 + 1]? = some (.cells #[.string (S T)] 9 (0, 0)) ∧ w'.heap[w.heap.size + 1 + 1 + 1 + 1]? = some (.cells #[.bool rb] 4 (0, 0))) := by
    apply Lib.hid
    have k0 : (((((w.alloc (.cells #[.int .i64 (op : Int)] 3)).alloc (.cells #[.string (S l1)] 9)).alloc (.cells #[.string (S l2)] 9)).alloc (.cells #[.string ⟨#[]⟩] 9)).alloc (.cells #[.bool false] 4)).heap[w.heap.size]? = some (.cells #[.int .i64 (op : Int)] 3 (0, 0)) := heap_old (heap_old (heap_old (heap_old (heap_here _ _))))
    have k1 : (((((w.alloc (.cells #[.int .i64 (op : Int)] 3)).alloc (.cells #[.string (S l1)] 9)).alloc (.cells #[.string (S l2)] 9)).alloc (.cells #[.string ⟨#[]⟩] 9)).alloc (.cells #[.bool false] 4)).heap[w.heap.size + 1]? = some (.cells #[.string (S l1)] 9 (0, 0)) := heap_old (heap_old (heap_old (heap_at _ _ (heap_size_alloc _ _))))
    have k2 : (((((w.alloc (.cells #[.int .i64 (op : Int)] 3)).alloc (.cells #[.string (S l1)] 9)).alloc (.cells #[.string (S l2)] 9)).alloc (.cells #[.string ⟨#[]⟩] 9)).alloc (.cells #[.bool false] 4)).heap[w.heap.size + 1 + 1]? = some (.cells #[.string (S l2)] 9 (0, 0)) := heap_old (heap_old (heap_at _ _ (by simp only [heap_size_alloc])))
    have k3 : (((((w.alloc (.cells #[.int .i64 (op : Int)] 3)).alloc (.cells #[.string (S l1)] 9)).alloc (.cells #[.string (S l2)] 9)).alloc (.cells #[.string ⟨#[]⟩] 9)).alloc (.cells #[.bool false] 4)).heap[w.heap.size + 1 + 1 + 1]? = some (.cells #[.string ⟨#[]⟩] 9 (0, 0)) := heap_old (heap_at _ _ (by simp only [heap_size_alloc]))
    have k4 : (((((w.alloc (.cells #[.int .i64 (op : Int)] 3)).alloc (.cells #[.string (S l1)] 9)).alloc (.cells #[.string (S l2)] 9)).alloc (.cells #[.string ⟨#[]⟩] 9)).alloc (.cells #[.bool false] 4)).heap[w.heap.size + 1 + 1 + 1 + 1]? = some (.cells #[.bool false] 4 (0, 0)) := heap_at _ _ (by simp only [heap_size_alloc])
    have hb : Below w.heap.size w (((((w.alloc (.cells #[.int .i64 (op : Int)] 3)).alloc (.cells #[.string (S l1)] 9)).alloc (.cells #[.string (S l2)] 9)).alloc (.cells #[.string ⟨#[]⟩] 9)).alloc (.cells #[.bool false] 4)) := bt (bt (below_a2 _ _ _) (below_a2 _ _ _)) (below_a1 _ _)
    obtain ⟨wa, hwa⟩ : ∃ wa, ((((w.alloc (.cells #[.int .i64 (op : Int)] 3)).alloc (.cells #[.string (S l1)] 9)).alloc (.cells #[.string (S l2)] 9)).alloc (.cells #[.string ⟨#[]⟩] 9)).alloc (.cells #[.bool false] 4) = wa := ⟨_, rfl⟩
    rw [hwa] at k0 k1 k2 k3 k4 hb ⊢
    clear hwa
    have lt3 := iter_lt k3
    have lt4 := iter_lt k4
    have hC := intSafeC_walk op l1 l2 p e1 e2 _ _ _ _ _ (wa.alloc (.cells #[.bool false] 4)) hok1 hok2 hl1 hl2 ((hp.below hb).below (below_a1 _ _)) ((hleaf.below hb).below (below_a1 _ _)) ((hkara.below hb).below (below_a1 _ _)) ((hdiv.below hb hdiv.lt).below (below_a1 _ _) (hdiv.below hb hdiv.lt).lt) ((herr.below hb).below (below_a1 _ _)) hop (by omega) (heap_old k1) (heap_old k2) (heap_old k0) (heap_old k3) (heap_old k4) ox oy
    rw [hR] at hC
    unfold SafeDoPost at hC
    rw [hT, hrb] at hC
    refine safe_ret 105 _ wa (fun w' => Below w.heap.size w w' ∧ w'.heap[w.heap.size + 1 + 1 + 1]? = some (.cells #[.string (S T)] 9 (0, 0)) ∧ w'.heap[w.heap.size + 1 + 1 + 1 + 1]? = some (.cells #[.bool rb] 4 (0, 0))) (callCIntSafe _) ?_
    refine hC.mono ?_
    rintro e w1 ⟨rfl, he, j3, j4⟩
    refine ⟨rfl, (he.block wa.heap.size (by rw [heap_size_alloc]; omega) (by omega)).trans (heap_here _ _), ?_, ?_, ?_⟩
    · refine Below.setCell (Below.setCell ?_ (by show w.heap.size ≤ wa.heap.size; omega) _) (by show w.heap.size ≤ wa.heap.size; omega) _
      exact (hb.trans ((below_a1 wa _).mono (by omega))).trans (he.below (by rw [heap_size_alloc]; omega) (fun k hk => by omega))
    · exact ((one_other (by show w.heap.size + 1 + 1 + 1 ≠ wa.heap.size; omega)).trans (one_other (by show w.heap.size + 1 + 1 + 1 ≠ wa.heap.size; omega))).trans j3
    · exact ((one_other (by show w.heap.size + 1 + 1 + 1 + 1 ≠ wa.heap.size; omega)).trans (one_other (by show w.heap.size + 1 + 1 + 1 + 1 ≠ wa.heap.size; omega))).trans j4
  rw [hT, hrb]
  clear hR hp hleaf hkara hdiv herr ox oy hok1 hok2 hop hT hrb
  cases rb with
  | true =>
    clear hTe
    go_enter Tryz.func39, Tryz.ntmps39
    go_wp2_with fail
    refine HS.out.mono ?_
    rintro e w1 ⟨rfl, hb, k3, k4⟩
    have c3 := one_cell k3
    have f3 := one_free k3 0
    have c4 := one_cell k4
    have f4 := one_free k4 0
    have K3 := Lib.hid k3
    have K4 := Lib.hid k4
    have c5 := fun v => one_cell ((one_other (u := v) (a := ⟨w.heap.size + 1 + 1 + 1, 0, none⟩) (by show w.heap.size + 1 + 1 + 1 + 1 ≠ w.heap.size + 1 + 1 + 1; omega)).trans k4)
    have f5 := fun v => one_free ((one_other (u := v) (a := ⟨w.heap.size + 1 + 1 + 1, 0, none⟩) (by show w.heap.size + 1 + 1 + 1 + 1 ≠ w.heap.size + 1 + 1 + 1; omega)).trans k4) 0
    have HB := Lib.hid hb
    clear k3 k4 hb
    go_wp2_with fail
    have e3 := one_set (u := .string (S T)) K3.out
    have e4 := one_set (u := .bool true) ((one_other (u := .string (S T)) (a := ⟨w.heap.size + 1 + 1 + 1, 0, none⟩) (by show w.heap.size + 1 + 1 + 1 + 1 ≠ w.heap.size + 1 + 1 + 1; omega)).trans K4.out)
    have d3 := one_cell ((one_other (u := .bool true) (a := ⟨w.heap.size + 1 + 1 + 1 + 1, 0, none⟩) (by show w.heap.size + 1 + 1 + 1 ≠ w.heap.size + 1 + 1 + 1 + 1; omega)).trans e3)
    have d4 := one_cell e4
    exact bodyPost_ret (v := .tuple #[.string (S T), .bool true]) (by simp [results, Tryz.results39, go_sem, d3, d4]) rfl ⟨rfl, (HB.out.setCell (p := ⟨w.heap.size + 1 + 1 + 1, 0, none⟩) (by show w.heap.size ≤ w.heap.size + 1 + 1 + 1; omega) _).setCell (p := ⟨w.heap.size + 1 + 1 + 1 + 1, 0, none⟩) (by show w.heap.size ≤ w.heap.size + 1 + 1 + 1 + 1; omega) _⟩
  | false =>
    have hT0 := hTe rfl
    subst hT0
    clear hTe
    go_enter Tryz.func39, Tryz.ntmps39
    go_wp2_with fail
    refine HS.out.mono ?_
    rintro e w1 ⟨rfl, hb, k3, k4⟩
    have c3 := one_cell k3
    have f3 := one_free k3 0
    have c4 := one_cell k4
    have f4 := one_free k4 0
    have K3 := Lib.hid k3
    have K4 := Lib.hid k4
    have c5 := fun v => one_cell ((one_other (u := v) (a := ⟨w.heap.size + 1 + 1 + 1, 0, none⟩) (by show w.heap.size + 1 + 1 + 1 + 1 ≠ w.heap.size + 1 + 1 + 1; omega)).trans k4)
    have f5 := fun v => one_free ((one_other (u := v) (a := ⟨w.heap.size + 1 + 1 + 1, 0, none⟩) (by show w.heap.size + 1 + 1 + 1 + 1 ≠ w.heap.size + 1 + 1 + 1; omega)).trans k4) 0
    have HB := Lib.hid hb
    clear k3 k4 hb
    go_wp2_with fail
    have e3 := one_set (u := .string ⟨#[]⟩) K3.out
    have e4 := one_set (u := .bool false) ((one_other (u := .string ⟨#[]⟩) (a := ⟨w.heap.size + 1 + 1 + 1, 0, none⟩) (by show w.heap.size + 1 + 1 + 1 + 1 ≠ w.heap.size + 1 + 1 + 1; omega)).trans K4.out)
    have d3 := one_cell ((one_other (u := .bool false) (a := ⟨w.heap.size + 1 + 1 + 1 + 1, 0, none⟩) (by show w.heap.size + 1 + 1 + 1 ≠ w.heap.size + 1 + 1 + 1 + 1; omega)).trans e3)
    have d4 := one_cell e4
    exact bodyPost_ret (v := .tuple #[.string ⟨#[]⟩, .bool false]) (by simp [results, Tryz.results39, go_sem, d3, d4]) rfl ⟨rfl, (HB.out.setCell (p := ⟨w.heap.size + 1 + 1 + 1, 0, none⟩) (by show w.heap.size ≤ w.heap.size + 1 + 1 + 1; omega) _).setCell (p := ⟨w.heap.size + 1 + 1 + 1 + 1, 0, none⟩) (by show w.heap.size ≤ w.heap.size + 1 + 1 + 1 + 1; omega) _⟩
end Go.Proofs.YtiohlcfdoleooaaGreatDoor
