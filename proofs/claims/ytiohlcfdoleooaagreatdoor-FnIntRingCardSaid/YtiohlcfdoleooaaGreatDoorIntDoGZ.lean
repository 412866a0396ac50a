/-
  impl.IntDo, whatever is done.
-/
import Derived.Test.YtiohlcfdoleooaaGreatDoorBn02Z
import Derived.Test.YtiohlcfdoleooaaGreatDoorBn28Z
import Derived.Test.YtiohlcfdoleooaaGreatDoorBn25Z
import Derived.Test.YtiohlcfdoleooaaGreatDoorIntDoZ
import Derived.Test.YtiohlcfdoleooaaGreatDoorBn24Z
namespace Go.Proofs.YtiohlcfdoleooaaGreatDoor
open Go.RowKit

/-- What IntDo hands back: none where it panics. -/
def iRes (op : Nat) (x y : Int) : Option Int :=
  match refZ op x y with
  | some z => if overI z = true then none else some z
  | none => none
theorem iRes_some {op : Nat} {x y z : Int} (h : refZ op x y = some z) (ho : overI z = false) : iRes op x y = some z := by
  unfold iRes
  rw [h]
  exact if_neg (by rw [ho]; decide)
theorem iRes_over {op : Nat} {x y z : Int} (h : refZ op x y = some z) (ho : overI z = true) : iRes op x y = none := by
  unfold iRes
  rw [h]
  exact if_pos ho
theorem iRes_none {op : Nat} {x y : Int} (h : refZ op x y = none) : iRes op x y = none := by
  unfold iRes
  rw [h]
theorem refZ_mod {x y : Int} (hy : y ≠ 0) : refZ 4 x y = some (modZ x y) := if_neg hy
theorem refZ_min (x y : Int) : refZ 5 x y = some (minZ x y) := by
  have h : minZ x y = if x < y then x else y := by
    unfold minZ sgnC
    split <;> split <;> (try split at *) <;> (try split at *) <;> omega
  rw [h]
  rfl
theorem refZ_max (x y : Int) : refZ 6 x y = some (maxZ x y) := by
  have h : maxZ x y = if x < y then y else x := by
    unfold maxZ sgnC
    split <;> split <;> (try split at *) <;> (try split at *) <;> omega
  rw [h]
  rfl
/-- Two variables that hold two different Ints. -/
def PairVarsI (w : World) (x y : Int) (xv yv : Value) (wx : World) : Prop :=
  ∃ gx gy bx b2, xv = .pointer (some ⟨bx, 0, none⟩) ∧ yv = .pointer (some ⟨b2, 0, none⟩) ∧ wx.heap[bx]? = some (.cells #[.pointer (some ⟨gx, 0, none⟩)] 80 (0, 0)) ∧ wx.heap[b2]? = some (.cells #[.pointer (some ⟨gy, 0, none⟩)] 80 (0, 0)) ∧
    IntAt wx gx x ∧ IntAt wx gy y ∧ Below w.heap.size w wx ∧ gy ≠ gx
theorem pair_endI {w W : World} {x y : Int} {g1 g2 a b : Nat} (hne12 : g2 ≠ g1) (h4 : W.heap[a]? = some (.cells #[.pointer none] 80 (0, 0))) (h5 : W.heap[b]? = some (.cells #[.pointer none] 80 (0, 0))) (hne : a ≠ b) (i1 : IntAt W g1 x) (i2 : IntAt W g2 y) (hb : Below w.heap.size w W) (l4 : w.heap.size ≤ a) (l5 : w.heap.size ≤ b) :
    PairVarsI w x y (.pointer (some ⟨a, 0, none⟩)) (.pointer (some ⟨b, 0, none⟩)) ((W.setCell ⟨a, 0, none⟩ (.pointer (some ⟨g1, 0, none⟩))).setCell ⟨b, 0, none⟩ (.pointer (some ⟨g2, 0, none⟩))) := by
  obtain ⟨W1, hW1⟩ : ∃ W1, W.setCell ⟨a, 0, none⟩ (.pointer (some ⟨g1, 0, none⟩)) = W1 := ⟨_, rfl⟩
  have k4 : W1.heap[a]? = some (.cells #[.pointer (some ⟨g1, 0, none⟩)] 80 (0, 0)) := by rw [← hW1]; exact one_set h4
  have k5 : W1.heap[b]? = some (.cells #[.pointer none] 80 (0, 0)) := by rw [← hW1]; exact (one_other (by exact hne.symm)).trans h5
  have j1 : IntAt W1 g1 x := by rw [← hW1]; exact i1.store h4 (by decide) (by decide) _
  have j2 : IntAt W1 g2 y := by rw [← hW1]; exact i2.store h4 (by decide) (by decide) _
  have b1 : Below w.heap.size w W1 := by rw [← hW1]; exact hb.setCell (p := ⟨a, 0, none⟩) l4 _
  rw [hW1]
  exact ⟨g1, g2, a, b, rfl, rfl, (one_other (by exact hne)).trans k4, one_set k5, j1.store k5 (by decide) (by decide) _, j2.store k5 (by decide) (by decide) _, b1.setCell (p := ⟨b, 0, none⟩) l5 _, hne12⟩
theorem pair_vars_newI {w W : World} {x y : Int} {g1 g2 : Nat} (hne12 : g2 ≠ g1) (i1 : IntAt W g1 x) (i2 : IntAt W g2 y) (hb : Below w.heap.size w W) :
    PairVarsI w x y (.pointer (some ⟨W.heap.size, 0, none⟩)) (.pointer (some ⟨W.heap.size + 1, 0, none⟩)) ((W.alloc (.cells #[.pointer (some ⟨g1, 0, none⟩)] 80)).alloc (.cells #[.pointer (some ⟨g2, 0, none⟩)] 80)) ∧
    PairVarsI w x y (.pointer (some ⟨W.heap.size + 1, 0, none⟩)) (.pointer (some ⟨W.heap.size, 0, none⟩)) ((W.alloc (.cells #[.pointer (some ⟨g2, 0, none⟩)] 80)).alloc (.cells #[.pointer (some ⟨g1, 0, none⟩)] 80)) :=
  ⟨⟨g1, g2, _, _, rfl, rfl, heap_old (heap_here _ _), heap_at _ _ (heap_size_alloc _ _), i1.below (below_a2 _ _ _), i2.below (below_a2 _ _ _), bt hb (below_a2 _ _ _), hne12⟩,
   ⟨g1, g2, _, _, rfl, rfl, heap_at _ _ (heap_size_alloc _ _), heap_old (heap_here _ _), i1.below (below_a2 _ _ _), i2.below (below_a2 _ _ _), bt hb (below_a2 _ _ _), hne12⟩⟩
theorem pair_vars_mixI {w W : World} {x y : Int} {g1 g2 a : Nat} (hne12 : g2 ≠ g1) (h : W.heap[a]? = some (.cells #[.pointer none] 80 (0, 0))) (i1 : IntAt W g1 x) (i2 : IntAt W g2 y) (hb : Below w.heap.size w W) (l : w.heap.size ≤ a) :
    PairVarsI w x y (.pointer (some ⟨a, 0, none⟩)) (.pointer (some ⟨W.heap.size, 0, none⟩)) ((W.setCell ⟨a, 0, none⟩ (.pointer (some ⟨g1, 0, none⟩))).alloc (.cells #[.pointer (some ⟨g2, 0, none⟩)] 80)) ∧
    PairVarsI w x y (.pointer (some ⟨W.heap.size, 0, none⟩)) (.pointer (some ⟨a, 0, none⟩)) ((W.setCell ⟨a, 0, none⟩ (.pointer (some ⟨g2, 0, none⟩))).alloc (.cells #[.pointer (some ⟨g1, 0, none⟩)] 80)) :=
  ⟨⟨g1, g2, _, _, rfl, rfl, heap_old (one_set h), heap_at _ _ (World.size_setCell _ _ _), (i1.store h (by decide) (by decide) _).below (below_a1 _ _), (i2.store h (by decide) (by decide) _).below (below_a1 _ _), bt (hb.setCell (p := ⟨a, 0, none⟩) l _) (below_a1 _ _), hne12⟩,
   ⟨g1, g2, _, _, rfl, rfl, heap_at _ _ (World.size_setCell _ _ _), heap_old (one_set h), (i1.store h (by decide) (by decide) _).below (below_a1 _ _), (i2.store h (by decide) (by decide) _).below (below_a1 _ _), bt (hb.setCell (p := ⟨a, 0, none⟩) l _) (below_a1 _ _), hne12⟩⟩
set_option maxRecDepth 100000 in
set_option maxHeartbeats 4000000 in
theorem intDoC_walk (op : Nat) (l1 l2 : List UInt8) (p e1 e2 : Addr) (b1 b2 b3 b4 : Nat) (w : World) (hok1 : readOk l1 = true) (hok2 : readOk l2 = true) (hl1 : l1.length ≤ 1000) (hl2 : l2.length ≤ 1000) (hp : EofIs w p) (hleaf : LeafIs w) (hkara : KaraIs w) (hdiv : DivIs w) (herr : ErrsAre w e1 e2) (hop : op ≤ 6)
    (h1 : w.heap[b1]? = some (.cells #[.string (S l1)] 9 (0, 0))) (h2 : w.heap[b2]? = some (.cells #[.string (S l2)] 9 (0, 0))) (h3 : w.heap[b3]? = some (.cells #[.int .i64 (op : Int)] 3 (0, 0))) (h4 : w.heap[b4]? = some (.cells #[.string ⟨#[]⟩] 9 (0, 0)))
    (ox : overI (readZ l1) = false) (oy : overI (readZ l2) = false) :
    Calls Tryz.prog 96 #[.pointer (some ⟨b1, 0, none⟩), .pointer (some ⟨b2, 0, none⟩), .pointer (some ⟨b3, 0, none⟩), .pointer (some ⟨b4, 0, none⟩)] w (DoPost w b4 (iRes op (readZ l1) (readZ l2))) := by
  have c1 := one_cell h1
  have c2 := one_cell h2
  have lt1 := iter_lt h1
  have lt2 := iter_lt h2
  have lt3 := iter_lt h3
  have lt4 := iter_lt h4
  have lt0 := hp.lt
  have H2 := Lib.hid h2
  have H3 := Lib.hid h3
  have H4 := Lib.hid h4
  have HU1 := Lib.hid (fun (w2 : World) (hp2 : EofIs w2 p) => integer_walk l1 p w2 hok1 hl1 hp2 ox)
  have HU2 := Lib.hid (fun (w2 : World) (hp2 : EofIs w2 p) => integer_walk l2 p w2 hok2 hl2 hp2 oy)
  have HOX := Lib.hid ox
  have HOY := Lib.hid oy
  have HKA := Lib.hid hkara
  have HDI := Lib.hid hdiv
  have HER := Lib.hid herr
  have HP := Lib.hid hp
  have HLF := Lib.hid hleaf
  clear h1 h2 h3 h4 hp hleaf hkara hdiv herr ox oy
  go_enter Tryz.func96, Tryz.ntmps96
  go_upto_region 0 with fail
  go_cut [4, 5] (fun xv yv wx => PairVarsI w (readZ l1) (readZ l2) xv yv wx)
  case first =>
    have hkept : w.cell? ⟨b1, 0, none⟩ = some (.string (S l1)) ∧ w.cell? ⟨b2, 0, none⟩ = some (.string (S l2)) ∧ DoMI w p w := ⟨c1, c2, Below.refl _ _, HP.out⟩
    go_region_held3 (fun w' => w'.cell? ⟨b1, 0, none⟩ = some (.string (S l1)) ∧ w'.cell? ⟨b2, 0, none⟩ = some (.string (S l2)) ∧ DoMI w p w')
      (first | assumption | exact dom_growI (by assumption) hgr | ((repeat' first | exact SW2.out | exact SW1.out | exact hkept | refine dom_setI ?_ (by dsimp only; omega) (by dsimp only; omega) (by dsimp only; omega) (by dsimp only; omega) | refine dom_growI ?_ (below_a1 _ _) | refine dom_drewI ?_); done))
      (first
        | (go_at_call 79; (with_reducible refine (HU1.out _ ?_).mono ?_); (go_split_ands; exact DoMI.eof (by assumption)); rintro e w1 ⟨g1, rfl, hi1, hgr, _⟩; have hgl1 := hi1.lt; have HI1 := Lib.hid hi1; have HB1 := Lib.hid hgr; have SW1 := Lib.hid (by first | exact dom_growI (dom_drewI hkept) hgr | exact dom_growI (dom_drewI (dom_growI hkept (below_a1 _ _))) hgr | exact dom_growI (dom_drewI (dom_growI (dom_growI hkept (below_a1 _ _)) (below_a1 _ _))) hgr); have hsz1 : w.heap.size ≤ w1.heap.size := (by first | exact hgr.size | exact Nat.le_of_lt (early_cellDI hgr).1 | exact Nat.le_of_lt (Nat.lt_of_succ_lt (early_cellD2I hgr).1)); (try (have E1 := Lib.hid (early_cellDI (w1 := w) hgr))); (try (have E2 := Lib.hid (early_cellD2I (w1 := w) hgr))); clear hi1)
        | (go_at_call 79; (with_reducible refine (HU2.out _ ?_).mono ?_); (go_split_ands; exact DoMI.eof (by assumption)); rintro e w2 ⟨g2, rfl, hi2, hgr, hfr2⟩; have hgl2 : w1.heap.size ≤ g2 := (by first | exact hfr2 | (have hq := hfr2; rw [heap_size_drew, heap_size_alloc] at hq; omega) | (have hq := hfr2; rw [heap_size_alloc] at hq; omega) | (have hq := hfr2; rw [heap_size_alloc, heap_size_alloc] at hq; omega)); have HI2 := Lib.hid hi2; have HB2 := Lib.hid hgr; (first | (have F0 := E1.out; clear F0) | (have F0 := E2.out; clear F0) | (try (have q3 := (early_cellI (w1 := w1) hgr).2; have q3l := (early_cellI (w1 := w1) hgr).1; have q4 := fun o => (early_oldI q3 o).1; have q5 := fun o => (early_oldI q3 o).2; have q9 := one_cell q3; have q10 := one_free q3 0; have hn3 := fun v => (late_cellI q3l v).1; have hn4 := fun v => (late_cellI q3l v).2; have Q3 := Lib.hid q3; clear q3))); (try (have q3 := early_cell2I (w1 := w1) hgr; have q20 := one_cell q3.1; have q21 := one_free q3.1 0; have q22 := one_cell q3.2.1; have q23 := one_free q3.2.1 0; have q24 := q3.2.2; have Q4 := Lib.hid q3; clear q3)); (try (have e1 := E1.out; have q3 := early_cellI (w1 := w1) hgr; have r3 : w2.heap[w.heap.size]? = some (.cells #[.pointer none] 80 (0, 0)) := (early_onI (heap_old e1.2) hgr); have s1 := one_cell r3; have s2 := one_free r3 0; have s3 := one_cell q3.2; have s4 := one_free q3.2 0; have hlt := e1.1; have hn1 : w.heap.size ≠ w1.heap.size := Nat.ne_of_lt hlt; have hn2 := hn1.symm; have s5 := fun v => (after_setI q3.2 hn2 v).1; have s6 := fun v => (after_setI q3.2 hn2 v).2; have s7 := fun v => (after_setI r3 hn1 v).1; have s8 := fun v => (after_setI r3 hn1 v).2; have F2 := Lib.hid (And.intro r3 q3.2); clear e1 q3 r3)); (try (have e1 := E1.out; have r3 := early_onI e1.2 hgr; have s1 := one_cell r3; have s2 := one_free r3 0; have s3 := fun o => (early_oldI r3 o).1; have s4 := fun o => (early_oldI r3 o).2; have r3l := iter_lt r3; have hlt := e1.1; have s5 := fun v => (late_cellI r3l v).1; have s6 := fun v => (late_cellI r3l v).2; have F3 := Lib.hid r3; clear e1 r3)); (try (have e2 := E2.out; have r3 := early_onI e2.2.1 hgr; have r4 := early_onI e2.2.2 hgr; have s1 := one_cell r3; have s2 := one_free r3 0; have s3 := one_cell r4; have s4 := one_free r4 0; have hlt := e2.1; have F1 := Lib.hid (And.intro r3 r4); clear e2 r3 r4)); have SW2 := Lib.hid (dom_growI (by first | exact SW1.out | exact dom_growI SW1.out (below_a1 _ _) | exact dom_growI (dom_growI SW1.out (below_a1 _ _)) (below_a1 _ _)) hgr); have hsz2 : w1.heap.size ≤ w2.heap.size := (by first | exact hgr.size | (have hq := hgr.size; rw [heap_size_alloc] at hq; omega) | (have hq := hgr.size; rw [heap_size_alloc, heap_size_alloc] at hq; omega)); have q1 : ∀ X, ((w2.alloc X).alloc (.cells #[.pointer none] 80)).cell? ⟨w2.heap.size + 1, 0, none⟩ = some (.pointer none) := fun X => one_cell (heap_at _ _ (heap_size_alloc _ _)); have q2 : ∀ X, ((w2.alloc X).alloc (.cells #[.pointer none] 80)).frozen? ⟨w2.heap.size + 1, 0, none⟩ = false := fun X => one_free (heap_at _ _ (heap_size_alloc _ _)) 0; clear hi2))
    all_goals (clear HU1 HU2)
    all_goals (go_wp2_with fail)
    all_goals go_meet
    all_goals (have I1 := (by first | exact HI1.out.below HB2.out | exact (HI1.out.below (below_a1 _ _)).below HB2.out | exact ((HI1.out.below (below_a1 _ _)).below (below_a1 _ _)).below HB2.out : IntAt w2 g1 (readZ l1)))
    all_goals (have I2 := HI2.out; have B2 := SW2.out.2.2.below)
    all_goals with_reducible first
      | exact (pair_vars_newI (by omega) I1 I2 B2).1
      | exact (pair_vars_newI (by omega) I1 I2 B2).2
      | exact (pair_vars_mixI (by omega) F3.out I1 I2 B2 (by omega)).1
      | exact (pair_vars_mixI (by omega) F3.out I1 I2 B2 (by omega)).2
      | exact (pair_vars_mixI (by omega) Q3.out I1 I2 B2 (by omega)).1
      | exact (pair_vars_mixI (by omega) Q3.out I1 I2 B2 (by omega)).2
      | exact pair_endI (by omega) F1.out.1 F1.out.2 (by omega) I1 I2 B2 (by omega) (by omega)
      | exact pair_endI (by omega) F1.out.2 F1.out.1 (by omega) I1 I2 B2 (by omega) (by omega)
      | exact pair_endI (by omega) F2.out.1 F2.out.2 (by omega) I1 I2 B2 (by omega) (by omega)
      | exact pair_endI (by omega) F2.out.2 F2.out.1 (by omega) I1 I2 B2 (by omega) (by omega)
      | exact pair_endI (by omega) Q4.out.1 Q4.out.2.1 (by omega) I1 I2 B2 (by omega) (by omega)
      | exact pair_endI (by omega) Q4.out.2.1 Q4.out.1 (by omega) I1 I2 B2 (by omega) (by omega)
  case rest =>
    obtain ⟨gx, gy, bx, by2, rfl, rfl, hbx, hby, hix, hiy, hbw, hxy⟩ := hcut
    have k3 := (hbw.block b3 lt3).trans H3.out
    have k4 := (hbw.block b4 lt4).trans H4.out
    have c3 := one_cell k3
    have cx := one_cell hbx
    have cy := one_cell hby
    have K4 := Lib.hid k4
    have HIX := Lib.hid hix
    have HIY := Lib.hid hiy
    have HBW := Lib.hid hbw
    have HXY := Lib.hid hxy
    clear k3 k4 hbx hby hix hiy hbw c1 c2 hxy
    have HFIN : Hid (∀ (w' : World) (g : Nat) (z : Int), Below w.heap.size w w' → IntAt w' g z → overI z = false → Calls Tryz.prog 98 #[.agg #[.pointer (some ⟨g, 0, none⟩)]] w' fun e w6 => e = .returned (.string (S (zText z))) ∧ Below w.heap.size w w6 ∧ w6.heap[b4]? = some (.cells #[.string ⟨#[]⟩] 9 (0, 0))) := by
      refine Lib.hid fun w' g z hb hi oz => (intStringI_walk g z w' hi (overI_len oz) (HLF.out.below hb)).mono ?_
      rintro e w6 ⟨rfl, hb6⟩
      exact ⟨rfl, bt hb hb6, ((bt hb hb6).block b4 lt4).trans H4.out⟩
    rcases (show op = 0 ∨ op = 1 ∨ op = 2 ∨ op = 3 ∨ op = 4 ∨ op = 5 ∨ op = 6 by omega) with rfl | rfl | rfl | rfl | rfl | rfl | rfl
    · have e0 : ((0 : Nat) : Int) = 0 := rfl
      rw [e0] at c3
      clear e0
      cases oz : overI (readZ l1 + readZ l2) with
      | false =>
        have HOZ := Lib.hid oz
        have HPO : Hid (iRes 0 (readZ l1) (readZ l2) = some (readZ l1 + readZ l2)) := Lib.hid (iRes_some (z := (readZ l1 + readZ l2)) (rfl) HOZ.out)
        clear oz
        go_wp2_with fail
        refine (intAdd2_walk gx gy _ _ _ HIX.out HIY.out HOX.out HOY.out HOZ.out).mono ?_
        rintro e w5 ⟨g5, rfl, hi5, hb5, _⟩
        have HI5 := Lib.hid hi5
        have HB5 := Lib.hid (bt HBW.out hb5)
        clear hi5 hb5
        go_wp2_with fail
        refine (HFIN.out w5 g5 _ HB5.out HI5.out HOZ.out).mono ?_
        rintro e w6 ⟨rfl, hb6, k4⟩
        have c4 := one_cell k4
        have f4 := one_free k4 0
        have K4' := Lib.hid k4
        have HB6 := Lib.hid hb6
        clear k4 hb6
        go_wp2_with fail
        go_end0
        rw [HPO.out]
        exact ⟨rfl, Ext.setCell (D := fun k => k = b4) (p := ⟨b4, 0, none⟩) (Ext.of_below HB6.out) (fun _ => rfl) _, one_set K4'.out⟩
      | true =>
        have HOZ := Lib.hid oz
        have HPO : Hid (iRes 0 (readZ l1) (readZ l2) = none) := Lib.hid (iRes_over rfl oz)
        clear oz
        go_wp2_with fail
        refine (intAdd2_panic gx gy _ _ e1 e2 _ HIX.out HIY.out (HER.out.below HBW.out) HOX.out HOY.out HOZ.out).mono ?_
        rintro e w5 ⟨t5, v5, rfl, hb5⟩
        have HB5 := Lib.hid (bt HBW.out hb5)
        clear hb5
        go_wp2_with fail
        have hp : DoPost w b4 (iRes 0 (readZ l1) (readZ l2)) (.panicked [{ v := .iface t5 v5, recovered := false }]) w5 := by rw [HPO.out]; exact ⟨_, _, rfl, HB5.out⟩
        exact ⟨rfl, hp⟩
    · have e0 : ((1 : Nat) : Int) = 1 := rfl
      rw [e0] at c3
      clear e0
      cases oz : overI (readZ l1 - readZ l2) with
      | false =>
        have HOZ := Lib.hid oz
        have HPO : Hid (iRes 1 (readZ l1) (readZ l2) = some (readZ l1 - readZ l2)) := Lib.hid (iRes_some (z := (readZ l1 - readZ l2)) (rfl) HOZ.out)
        clear oz
        go_wp2_with fail
        refine (intSub2_walk gx gy _ _ _ HIX.out HIY.out HOX.out HOY.out HOZ.out).mono ?_
        rintro e w5 ⟨g5, rfl, hi5, hb5, _⟩
        have HI5 := Lib.hid hi5
        have HB5 := Lib.hid (bt HBW.out hb5)
        clear hi5 hb5
        go_wp2_with fail
        refine (HFIN.out w5 g5 _ HB5.out HI5.out HOZ.out).mono ?_
        rintro e w6 ⟨rfl, hb6, k4⟩
        have c4 := one_cell k4
        have f4 := one_free k4 0
        have K4' := Lib.hid k4
        have HB6 := Lib.hid hb6
        clear k4 hb6
        go_wp2_with fail
        go_end0
        rw [HPO.out]
        exact ⟨rfl, Ext.setCell (D := fun k => k = b4) (p := ⟨b4, 0, none⟩) (Ext.of_below HB6.out) (fun _ => rfl) _, one_set K4'.out⟩
      | true =>
        have HOZ := Lib.hid oz
        have HPO : Hid (iRes 1 (readZ l1) (readZ l2) = none) := Lib.hid (iRes_over rfl oz)
        clear oz
        go_wp2_with fail
        refine (intSub2_panic gx gy _ _ e1 e2 _ HIX.out HIY.out (HER.out.below HBW.out) HOX.out HOY.out HOZ.out).mono ?_
        rintro e w5 ⟨t5, v5, rfl, hb5⟩
        have HB5 := Lib.hid (bt HBW.out hb5)
        clear hb5
        go_wp2_with fail
        have hp : DoPost w b4 (iRes 1 (readZ l1) (readZ l2)) (.panicked [{ v := .iface t5 v5, recovered := false }]) w5 := by rw [HPO.out]; exact ⟨_, _, rfl, HB5.out⟩
        exact ⟨rfl, hp⟩
    · have e0 : ((2 : Nat) : Int) = 2 := rfl
      rw [e0] at c3
      clear e0
      cases oz : overI (readZ l1 * readZ l2) with
      | false =>
        have HOZ := Lib.hid oz
        have HPO : Hid (iRes 2 (readZ l1) (readZ l2) = some (readZ l1 * readZ l2)) := Lib.hid (iRes_some (z := (readZ l1 * readZ l2)) (rfl) HOZ.out)
        clear oz
        go_wp2_with fail
        refine (intMul2_walk gx gy _ _ _ HIX.out HIY.out HXY.out (HKA.out.below HBW.out) HOX.out HOY.out HOZ.out).mono ?_
        rintro e w5 ⟨g5, rfl, hi5, hb5, _⟩
        have HI5 := Lib.hid hi5
        have HB5 := Lib.hid (bt HBW.out hb5)
        clear hi5 hb5
        go_wp2_with fail
        refine (HFIN.out w5 g5 _ HB5.out HI5.out HOZ.out).mono ?_
        rintro e w6 ⟨rfl, hb6, k4⟩
        have c4 := one_cell k4
        have f4 := one_free k4 0
        have K4' := Lib.hid k4
        have HB6 := Lib.hid hb6
        clear k4 hb6
        go_wp2_with fail
        go_end0
        rw [HPO.out]
        exact ⟨rfl, Ext.setCell (D := fun k => k = b4) (p := ⟨b4, 0, none⟩) (Ext.of_below HB6.out) (fun _ => rfl) _, one_set K4'.out⟩
      | true =>
        have HOZ := Lib.hid oz
        have HPO : Hid (iRes 2 (readZ l1) (readZ l2) = none) := Lib.hid (iRes_over rfl oz)
        clear oz
        go_wp2_with fail
        refine (intMul2_panic gx gy _ _ e1 e2 _ HIX.out HIY.out (HER.out.below HBW.out) HXY.out (HKA.out.below HBW.out) HOX.out HOY.out HOZ.out).mono ?_
        rintro e w5 ⟨t5, v5, rfl, hb5⟩
        have HB5 := Lib.hid (bt HBW.out hb5)
        clear hb5
        go_wp2_with fail
        have hp : DoPost w b4 (iRes 2 (readZ l1) (readZ l2)) (.panicked [{ v := .iface t5 v5, recovered := false }]) w5 := by rw [HPO.out]; exact ⟨_, _, rfl, HB5.out⟩
        exact ⟨rfl, hp⟩
    · have e0 : ((3 : Nat) : Int) = 3 := rfl
      rw [e0] at c3
      clear e0
      by_cases hy0 : readZ l2 = 0
      · have HY00 := Lib.hid hy0
        have HPO : Hid (iRes 3 (readZ l1) (readZ l2) = none) := Lib.hid (iRes_none (if_pos hy0))
        clear hy0
        go_wp2_with fail
        refine (intQuo2_panic gx gy _ _ e1 e2 _ HIX.out HIY.out (HER.out.below HBW.out) HY00.out).mono ?_
        rintro e w5 ⟨t5, v5, rfl, hb5⟩
        have HB5 := Lib.hid (bt HBW.out hb5)
        clear hb5
        go_wp2_with fail
        have hp : DoPost w b4 (iRes 3 (readZ l1) (readZ l2)) (.panicked [{ v := .iface t5 v5, recovered := false }]) w5 := by rw [HPO.out]; exact ⟨_, _, rfl, HB5.out⟩
        exact ⟨rfl, hp⟩
      · have HOZ : Hid (overI ((readZ l1).tdiv (readZ l2)) = false) := Lib.hid (quoI_fits HOX.out)
        have HY0 := Lib.hid hy0
        have HPO : Hid (iRes 3 (readZ l1) (readZ l2) = some ((readZ l1).tdiv (readZ l2))) := Lib.hid (iRes_some (z := ((readZ l1).tdiv (readZ l2))) (if_neg hy0) HOZ.out)
        clear hy0
        go_wp2_with fail
        refine (intQuo2_walk gx gy _ _ _ HIX.out HIY.out HXY.out (HDI.out.below HBW.out HDI.out.lt) HY0.out HOX.out HOY.out).mono ?_
        rintro e w5 ⟨g5, rfl, hi5, hb5, _⟩
        have HI5 := Lib.hid hi5
        have HB5 := Lib.hid (bt HBW.out hb5)
        clear hi5 hb5
        go_wp2_with fail
        refine (HFIN.out w5 g5 _ HB5.out HI5.out HOZ.out).mono ?_
        rintro e w6 ⟨rfl, hb6, k4⟩
        have c4 := one_cell k4
        have f4 := one_free k4 0
        have K4' := Lib.hid k4
        have HB6 := Lib.hid hb6
        clear k4 hb6
        go_wp2_with fail
        go_end0
        rw [HPO.out]
        exact ⟨rfl, Ext.setCell (D := fun k => k = b4) (p := ⟨b4, 0, none⟩) (Ext.of_below HB6.out) (fun _ => rfl) _, one_set K4'.out⟩
    · have e0 : ((4 : Nat) : Int) = 4 := rfl
      rw [e0] at c3
      clear e0
      by_cases hy0 : readZ l2 = 0
      · have HY00 := Lib.hid hy0
        have HPO : Hid (iRes 4 (readZ l1) (readZ l2) = none) := Lib.hid (iRes_none (if_pos hy0))
        clear hy0
        go_wp2_with fail
        refine (intMod2_panic gx gy _ _ e1 e2 _ HIX.out HIY.out (HER.out.below HBW.out) HY00.out).mono ?_
        rintro e w5 ⟨t5, v5, rfl, hb5⟩
        have HB5 := Lib.hid (bt HBW.out hb5)
        clear hb5
        go_wp2_with fail
        have hp : DoPost w b4 (iRes 4 (readZ l1) (readZ l2)) (.panicked [{ v := .iface t5 v5, recovered := false }]) w5 := by rw [HPO.out]; exact ⟨_, _, rfl, HB5.out⟩
        exact ⟨rfl, hp⟩
      · have HOZ : Hid (overI (modZ (readZ l1) (readZ l2)) = false) := Lib.hid (modI_fits hy0 HOY.out)
        have HY0 := Lib.hid hy0
        have HPO : Hid (iRes 4 (readZ l1) (readZ l2) = some (modZ (readZ l1) (readZ l2))) := Lib.hid (iRes_some (z := (modZ (readZ l1) (readZ l2))) (refZ_mod hy0) HOZ.out)
        clear hy0
        go_wp2_with fail
        refine (intMod2_walk gx gy _ _ _ HIX.out HIY.out HXY.out (HDI.out.below HBW.out HDI.out.lt) HY0.out HOX.out HOY.out).mono ?_
        rintro e w5 ⟨g5, rfl, hi5, hb5, _⟩
        have HI5 := Lib.hid hi5
        have HB5 := Lib.hid (bt HBW.out hb5)
        clear hi5 hb5
        go_wp2_with fail
        refine (HFIN.out w5 g5 _ HB5.out HI5.out HOZ.out).mono ?_
        rintro e w6 ⟨rfl, hb6, k4⟩
        have c4 := one_cell k4
        have f4 := one_free k4 0
        have K4' := Lib.hid k4
        have HB6 := Lib.hid hb6
        clear k4 hb6
        go_wp2_with fail
        go_end0
        rw [HPO.out]
        exact ⟨rfl, Ext.setCell (D := fun k => k = b4) (p := ⟨b4, 0, none⟩) (Ext.of_below HB6.out) (fun _ => rfl) _, one_set K4'.out⟩
    · have e0 : ((5 : Nat) : Int) = 5 := rfl
      rw [e0] at c3
      clear e0
      have HOZ : Hid (overI (minZ (readZ l1) (readZ l2)) = false) := Lib.hid (by unfold minZ; split <;> first | exact HOX.out | exact HOY.out)
      have HPO : Hid (iRes 5 (readZ l1) (readZ l2) = some (minZ (readZ l1) (readZ l2))) := Lib.hid (iRes_some (z := (minZ (readZ l1) (readZ l2))) (refZ_min _ _) HOZ.out)
      go_wp2_with fail
      refine (MinInt_walk gx gy _ _ _ HIX.out HIY.out (by have := overI_w4 HOX.out; omega) (by have := overI_w4 HOY.out; omega)).mono ?_
      rintro e w5 ⟨g5, rfl, hi5, hb5, _⟩
      have HI5 := Lib.hid hi5
      have HB5 := Lib.hid (bt HBW.out hb5)
      clear hi5 hb5
      go_wp2_with fail
      refine (HFIN.out w5 g5 _ HB5.out HI5.out HOZ.out).mono ?_
      rintro e w6 ⟨rfl, hb6, k4⟩
      have c4 := one_cell k4
      have f4 := one_free k4 0
      have K4' := Lib.hid k4
      have HB6 := Lib.hid hb6
      clear k4 hb6
      go_wp2_with fail
      go_end0
      rw [HPO.out]
      exact ⟨rfl, Ext.setCell (D := fun k => k = b4) (p := ⟨b4, 0, none⟩) (Ext.of_below HB6.out) (fun _ => rfl) _, one_set K4'.out⟩
    · have e0 : ((6 : Nat) : Int) = 6 := rfl
      rw [e0] at c3
      clear e0
      have HOZ : Hid (overI (maxZ (readZ l1) (readZ l2)) = false) := Lib.hid (by unfold maxZ; split <;> first | exact HOX.out | exact HOY.out)
      have HPO : Hid (iRes 6 (readZ l1) (readZ l2) = some (maxZ (readZ l1) (readZ l2))) := Lib.hid (iRes_some (z := (maxZ (readZ l1) (readZ l2))) (refZ_max _ _) HOZ.out)
      go_wp2_with fail
      refine (MaxInt_walk gx gy _ _ _ HIX.out HIY.out (by have := overI_w4 HOX.out; omega) (by have := overI_w4 HOY.out; omega)).mono ?_
      rintro e w5 ⟨g5, rfl, hi5, hb5, _⟩
      have HI5 := Lib.hid hi5
      have HB5 := Lib.hid (bt HBW.out hb5)
      clear hi5 hb5
      go_wp2_with fail
      refine (HFIN.out w5 g5 _ HB5.out HI5.out HOZ.out).mono ?_
      rintro e w6 ⟨rfl, hb6, k4⟩
      have c4 := one_cell k4
      have f4 := one_free k4 0
      have K4' := Lib.hid k4
      have HB6 := Lib.hid hb6
      clear k4 hb6
      go_wp2_with fail
      go_end0
      rw [HPO.out]
      exact ⟨rfl, Ext.setCell (D := fun k => k = b4) (p := ⟨b4, 0, none⟩) (Ext.of_below HB6.out) (fun _ => rfl) _, one_set K4'.out⟩
set_option maxRecDepth 100000 in
theorem callCIntDoG : ∀ (caps : Array Value) (w : World), (callFunc 96 caps).run Tryz.prog w = .ok (.enter 96 caps) w := fun _ _ => by rfl
set_option maxRecDepth 100000 in
set_option maxHeartbeats 2000000 in
theorem intDoG_walk (op : Nat) (l1 l2 : List UInt8) (p e1 e2 : Addr) (w : World) (hok1 : readOk l1 = true) (hok2 : readOk l2 = true) (hl1 : l1.length ≤ 1000) (hl2 : l2.length ≤ 1000) (hp : EofIs w p) (hleaf : LeafIs w) (hkara : KaraIs w) (hdiv : DivIs w) (herr : ErrsAre w e1 e2) (hop : op ≤ 6) (ox : overI (readZ l1) = false) (oy : overI (readZ l2) = false) :
    Calls Tryz.prog 36 #[.int .i64 (op : Int), .string (S l1), .string (S l2)] w fun e w' => e = .returned (.tuple #[.string (S (outT (iRes op (readZ l1) (readZ l2)))), .bool (iRes op (readZ l1) (readZ l2)).isSome]) ∧ Below w.heap.size w w' := by
  have hmf : ∀ (fn : Fn) (first cap : Array Value) (w : World), (Instr.makeFunc fn first cap).run Tryz.prog w = .ok (.func fn first cap) w := fun _ _ _ _ => rfl
  obtain ⟨R, hR⟩ : ∃ R, iRes op (readZ l1) (readZ l2) = R := ⟨_, rfl⟩
  rw [hR]
  have HS : Hid (Calls Tryz.prog 48 #[.func (.func 96) #[] #[.pointer (some ⟨w.heap.size + 1, 0, none⟩), .pointer (some ⟨w.heap.size + 1 + 1, 0, none⟩), .pointer (some ⟨w.heap.size, 0, none⟩), .pointer (some ⟨w.heap.size + 1 + 1 + 1, 0, none⟩)]]
      ((((w.alloc (.cells #[.int .i64 (op : Int)] 3)).alloc (.cells #[.string (S l1)] 9)).alloc (.cells #[.string (S l2)] 9)).alloc (.cells #[.string ⟨#[]⟩] 9))
      fun e w' => e = .returned (.bool R.isSome) ∧ Below w.heap.size w w' ∧ w'.heap[w.heap.size + 1 + 1 + 1]? = some (.cells #[.string (S (outT R))] 9 (0, 0))) := by
    apply Lib.hid
    have k0 : ((((w.alloc (.cells #[.int .i64 (op : Int)] 3)).alloc (.cells #[.string (S l1)] 9)).alloc (.cells #[.string (S l2)] 9)).alloc (.cells #[.string ⟨#[]⟩] 9)).heap[w.heap.size]? = some (.cells #[.int .i64 (op : Int)] 3 (0, 0)) := heap_old (heap_old (heap_old (heap_here _ _)))
    have k1 : ((((w.alloc (.cells #[.int .i64 (op : Int)] 3)).alloc (.cells #[.string (S l1)] 9)).alloc (.cells #[.string (S l2)] 9)).alloc (.cells #[.string ⟨#[]⟩] 9)).heap[w.heap.size + 1]? = some (.cells #[.string (S l1)] 9 (0, 0)) := heap_old (heap_old (heap_at _ _ (heap_size_alloc _ _)))
    have k2 : ((((w.alloc (.cells #[.int .i64 (op : Int)] 3)).alloc (.cells #[.string (S l1)] 9)).alloc (.cells #[.string (S l2)] 9)).alloc (.cells #[.string ⟨#[]⟩] 9)).heap[w.heap.size + 1 + 1]? = some (.cells #[.string (S l2)] 9 (0, 0)) := heap_old (heap_at _ _ (by simp only [heap_size_alloc]))
    have k3 : ((((w.alloc (.cells #[.int .i64 (op : Int)] 3)).alloc (.cells #[.string (S l1)] 9)).alloc (.cells #[.string (S l2)] 9)).alloc (.cells #[.string ⟨#[]⟩] 9)).heap[w.heap.size + 1 + 1 + 1]? = some (.cells #[.string ⟨#[]⟩] 9 (0, 0)) := heap_at _ _ (by simp only [heap_size_alloc])
    have hb : Below w.heap.size w ((((w.alloc (.cells #[.int .i64 (op : Int)] 3)).alloc (.cells #[.string (S l1)] 9)).alloc (.cells #[.string (S l2)] 9)).alloc (.cells #[.string ⟨#[]⟩] 9)) := bt (below_a2 _ _ _) (below_a2 _ _ _)
    obtain ⟨wa, hwa⟩ : ∃ wa, (((w.alloc (.cells #[.int .i64 (op : Int)] 3)).alloc (.cells #[.string (S l1)] 9)).alloc (.cells #[.string (S l2)] 9)).alloc (.cells #[.string ⟨#[]⟩] 9) = wa := ⟨_, rfl⟩
    rw [hwa] at k0 k1 k2 k3 hb ⊢
    clear hwa
    have lt3 := iter_lt k3
    have hb0 := hb
    have hC := intDoC_walk op l1 l2 p e1 e2 _ _ _ _ (wa.alloc (.cells #[.bool false] 4)) hok1 hok2 hl1 hl2 ((hp.below hb).below (below_a1 _ _)) ((hleaf.below hb).below (below_a1 _ _)) ((hkara.below hb).below (below_a1 _ _)) ((hdiv.below hb hdiv.lt).below (below_a1 _ _) (hdiv.below hb hdiv.lt).lt) ((herr.below hb0).below (below_a1 _ _)) hop (heap_old k1) (heap_old k2) (heap_old k0) (heap_old k3) ox oy
    rw [hR] at hC
    cases R with
    | some z =>
      refine safe_ret 96 _ wa (fun w' => Below w.heap.size w w' ∧ w'.heap[w.heap.size + 1 + 1 + 1]? = some (.cells #[.string (S (zText z))] 9 (0, 0))) (callCIntDoG _) ?_
      refine hC.mono ?_
      rintro e w1 ⟨rfl, he, j3⟩
      refine ⟨rfl, (he.block wa.heap.size (by rw [heap_size_alloc]; omega) (by omega)).trans (heap_here _ _), ?_, ?_⟩
      · refine Below.setCell (Below.setCell ?_ (by show w.heap.size ≤ wa.heap.size; omega) _) (by show w.heap.size ≤ wa.heap.size; omega) _
        exact (hb.trans ((below_a1 wa _).mono (by omega))).trans (he.below (by rw [heap_size_alloc]; omega) (fun k hk => by omega))
      · exact ((one_other (by show w.heap.size + 1 + 1 + 1 ≠ wa.heap.size; omega)).trans (one_other (by show w.heap.size + 1 + 1 + 1 ≠ wa.heap.size; omega))).trans j3
    | none =>
      refine safe_panics 96 _ wa (fun w' => Below w.heap.size w w' ∧ w'.heap[w.heap.size + 1 + 1 + 1]? = some (.cells #[.string (S [])] 9 (0, 0))) (callCIntDoG _) ?_
      refine hC.mono ?_
      rintro e w1 ⟨t, v, rfl, hb1⟩
      refine ⟨t, v, rfl, (hb1.block wa.heap.size (by rw [heap_size_alloc]; omega)).trans (heap_here _ _), ?_, ?_⟩
      · exact ((hb.trans ((below_a1 wa _).mono (by omega))).trans (hb1.mono (by rw [heap_size_alloc]; omega))).setCell (p := ⟨wa.heap.size, 0, none⟩) (by show w.heap.size ≤ wa.heap.size; omega) _
      · exact ((one_other (by show w.heap.size + 1 + 1 + 1 ≠ wa.heap.size; omega)).trans (hb1.block _ (by rw [heap_size_alloc]; omega))).trans (heap_old k3)
  clear hR hp hleaf hkara hdiv herr ox oy hok1 hok2 hop
  cases R with
  | some z =>
    obtain ⟨T, hT⟩ : ∃ T, outT (some z) = T := ⟨_, rfl⟩
    rw [hT] at HS ⊢
    have e0 : (some z).isSome = true := rfl
    rw [e0] at HS ⊢
    clear hT e0
    go_enter Tryz.func36, Tryz.ntmps36
    go_wp2_with fail
    refine HS.out.mono ?_
    rintro e w1 ⟨rfl, hb, k3⟩
    have c3 := one_cell k3
    have f3 := one_free k3 0
    have K3 := Lib.hid k3
    clear k3
    go_wp2_with fail
    have e3 := one_set (u := .string (S T)) K3.out
    have d3 := one_cell e3
    exact bodyPost_ret (v := .tuple #[.string (S T), .bool true]) (by simp [results, Tryz.results36, go_sem, d3]) rfl ⟨rfl, hb.setCell (p := ⟨w.heap.size + 1 + 1 + 1, 0, none⟩) (by show w.heap.size ≤ w.heap.size + 1 + 1 + 1; omega) _⟩
  | none =>
    have e0 : (none : Option Int).isSome = false := rfl
    have e1 : outT none = [] := rfl
    rw [e1, e0] at HS ⊢
    clear e0 e1
    go_enter Tryz.func36, Tryz.ntmps36
    go_wp2_with fail
    refine HS.out.mono ?_
    rintro e w1 ⟨rfl, hb, k3⟩
    have c3 := one_cell k3
    have f3 := one_free k3 0
    have K3 := Lib.hid k3
    clear k3
    go_wp2_with fail
    have e3 := one_set (u := .string ⟨#[]⟩) K3.out
    have d3 := one_cell e3
    exact bodyPost_ret (v := .tuple #[.string ⟨#[]⟩, .bool false]) (by simp [results, Tryz.results36, go_sem, d3]) rfl ⟨rfl, hb.setCell (p := ⟨w.heap.size + 1 + 1 + 1, 0, none⟩) (by show w.heap.size ≤ w.heap.size + 1 + 1 + 1; omega) _⟩
end Go.Proofs.YtiohlcfdoleooaaGreatDoor
