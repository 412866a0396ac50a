/-
  laws.asked where the reference has no answer; what is done with two numbers that are not less than 0, as the reference has it.
-/
import Derived.Test.YtapfolgiafnllaaGreatDoorBn05Z
import Derived.Test.YtapfolgiafnllaaGreatDoorBn04Z
import Derived.Test.YtapfolgiafnllaaGreatDoorBn03Z
import Derived.Test.YtapfolgiafnllaaGreatDoorSpecDoZ
import Derived.Test.YtapfolgiafnllaaGreatDoorIntQuoRemZ
import Derived.Test.YtapfolgiafnllaaGreatDoorUintAboutZ
namespace Go.Proofs.YtapfolgiafnllaaGreatDoor
open Go.RowKit

set_option maxRecDepth 100000 in
set_option maxHeartbeats 1000000 in
theorem asked0_walk (t : List UInt8) (x : Int) (v : Value) (w : World) (hv : IsNum w v x) (hl : (toD 10 x.natAbs).length ≤ 1000000) :
    Calls Tryz.prog 11 #[.string (S t), .bool false, v, .bool false] w fun e w' => e = .returned (.bool true) ∧ Below w.heap.size w w' := by
  have HTO := Lib.hid (fun (w' : World) (h1 : IsNum w' v x) => told_walk t false x v false w' h1 hl rfl (fun h => by cases h))
  obtain ⟨A, c, rfl, hc, hcm, hr⟩ := hv.open
  have HV := Lib.hid hv
  clear hv hr hl hc
  obtain ⟨b, hb⟩ : ∃ b, decide (x < 0) = b := ⟨_, rfl⟩
  rw [hb] at HTO HV ⊢
  clear hb
  go_enter Tryz.func11, Tryz.ntmps11
  go_wp2_with fail
  refine (HTO.out _ (HV.out.below (below_a1 _ _))).mono ?_
  rintro e w1 ⟨rfl, hb1⟩
  go_wp2_with fail
  go_ret
  exact ⟨rfl, bt (below_a1 _ _) hb1⟩

/-- For numbers that are not less than 0 the two agree. -/
theorem refZ_opZ {o : Nat} {x y : Int} (hx : 0 ≤ x) : refZ o x y = opZ o x y := by
  unfold refZ opZ
  match o with
  | 0 => rfl
  | 1 => rfl
  | 2 => rfl
  | 3 => rfl
  | 4 =>
    have h2 : 0 ≤ x.tmod y := Int.tmod_nonneg y hx
    by_cases hy : y = 0
    · simp only [if_pos hy]
    · simp only [if_neg hy]
      rw [if_neg (by omega)]
  | 5 =>
    simp only []
    congr 1
    unfold minZ sgnC
    by_cases h : x < y
    · rw [if_pos h, if_neg (by rw [if_pos (by omega)]; omega)]
    · by_cases h2 : x - y = 0
      · rw [if_neg h, if_neg (by rw [if_neg (by omega), if_pos h2]; omega)]; omega
      · rw [if_neg h, if_pos (by rw [if_neg (by omega), if_neg h2])]
  | 6 =>
    simp only []
    congr 1
    unfold maxZ sgnC
    by_cases h : x < y
    · rw [if_pos h, if_pos (by rw [if_pos (by omega)])]
    · rw [if_neg h, if_neg (by rw [if_neg (by omega)]; split <;> omega)]
  | n + 7 => rfl
theorem refZ_len {o : Nat} {x y z : Int} (hx : x.natAbs < 2 ^ 256) (hy : y.natAbs < 2 ^ 256) (h : refZ o x y = some z) : (toD 10 z.natAbs).length ≤ 1000000 := by
  have hz : z.natAbs < 2 ^ 256 * 2 ^ 256 := by
    have e1 : (2 : Nat) ^ 256 + 2 ^ 256 ≤ 2 ^ 256 * 2 ^ 256 := by decide
    have e2 : (2 : Nat) ^ 256 ≤ 2 ^ 256 * 2 ^ 256 := by decide
    unfold refZ at h
    match o, h with
    | 0, h => injection h with h; subst h; omega
    | 1, h => injection h with h; subst h; omega
    | 2, h => injection h with h; subst h; rw [Int.natAbs_mul]; exact Nat.mul_lt_mul'' hx hy
    | 3, h =>
      simp only [] at h
      split at h
      · cases h
      · injection h with h; subst h
        rw [Int.natAbs_tdiv]
        exact Nat.lt_of_le_of_lt (Nat.div_le_self _ _) (by omega)
    | 4, h =>
      simp only [] at h
      split at h
      · cases h
      · injection h with h; subst h
        have h2 : (x.tmod y).natAbs ≤ x.natAbs := by rw [Int.natAbs_tmod]; exact Nat.mod_le _ _
        split <;> omega
    | 5, h => injection h with h; subst h; split <;> omega
    | 6, h => injection h with h; subst h; split <;> omega
  exact Nat.le_trans (toD_length_le (by decide) 200 _ (Nat.lt_of_lt_of_le hz (by decide))) (by decide)
theorem askedRes_walk (o : Nat) (x y : Int) (v : Value) (w : World) (ox : overU x = false) (hx : x.natAbs < 2 ^ 256) (hy : y.natAbs < 2 ^ 256) (hv : IsNum w v ((refZ o x y).getD 0)) :
    Calls Tryz.prog 11 #[.string (S (outT (uRes o x y))), .bool (uRes o x y).isSome, v, .bool (refZ o x y).isSome] w fun e w' => e = .returned (.bool true) ∧ Below w.heap.size w w' := by
  have hx0 : 0 ≤ x := by have := overU_pos ox; omega
  have he := refZ_opZ (o := o) (y := y) hx0
  cases hz : refZ o x y with
  | none =>
    rw [hz] at hv
    have hu : uRes o x y = none := by unfold uRes; rw [← he, hz]
    rw [hu]
    exact asked0_walk _ 0 v w hv (by rw [Int.natAbs_zero, toD_zero]; decide)
  | some z =>
    rw [hz] at hv
    have hu : uRes o x y = if overU z = true then none else some z := by unfold uRes; rw [← he, hz]
    have hl := refZ_len hx hy hz
    have hf := overU_fits z
    rw [hu]
    clear hu
    cases ho : overU z with
    | true =>
      rw [if_pos rfl]
      rw [ho] at hf
      have hok : false = ((!decide (z < 0)) && decide (z.natAbs < 2 ^ 256)) := by
        cases h1 : decide (z < 0) <;> cases h2 : decide (z.natAbs < 2 ^ 256) <;> rw [h1, h2] at hf <;> first | rfl | cases hf
      exact asked_walk _ false z v w hv hl hok (fun h => by cases h)
    | false =>
      rw [if_neg (by decide)]
      rw [ho] at hf
      have hok : true = ((!decide (z < 0)) && decide (z.natAbs < 2 ^ 256)) := by
        cases h1 : decide (z < 0) <;> cases h2 : decide (z.natAbs < 2 ^ 256) <;> rw [h1, h2] at hf <;> first | rfl | cases hf
      exact asked_walk _ true z v w hv hl hok (fun _ => rfl)
end Go.Proofs.YtapfolgiafnllaaGreatDoor

/-
  Int.Mod of a number that is not less than 0, mod and Uint.Mod of cosmosmath.
-/
namespace Go.Proofs.YtapfolgiafnllaaGreatDoor
open Go.RowKit

set_option maxRecDepth 100000 in
set_option maxHeartbeats 4000000 in
theorem intMod_walk (gz gx gy : Nat) (x y : Int) (w : World) (hz : IntNew w gz) (hx : IntAt w gx x) (hy : IntAt w gy y) (hgx : gx ≠ gz) (hgy : gy ≠ gz) (hk : DivIs w) (hlx : (wds x.natAbs).length ≤ 900) (hly : (wds y.natAbs).length ≤ 4) (hy0 : y ≠ 0) (hx0 : 0 ≤ x) :
    Calls Tryz.prog 116 #[.pointer (some ⟨gz, 0, none⟩), .pointer (some ⟨gx, 0, none⟩), .pointer (some ⟨gy, 0, none⟩)] w fun e w' => e = .returned (.pointer (some ⟨gz, 0, none⟩)) ∧ IntAt w' gz (x.tmod y) ∧ Ext (fun b => b = gz) w w' := by
  have hz' := hz
  obtain ⟨B, d, hky, i2, i3, i4⟩ := hy
  have hnq : ∀ n, (binOp BinOp.eql 50 (.pointer (some ⟨gz, 0, none⟩)) (.pointer (some ⟨gy, 0, none⟩))).run Tryz.prog (w.drewN n) = .ok (.bool false) (w.drewN n) := fun n => (int_neq (w := w.drewN n) hgy hz hky).2
  have c1 := num_cell1 hz
  have e1 := num_cell1 hky
  obtain ⟨ly, hly2⟩ : ∃ l, (wds y.natAbs).length = l := ⟨_, rfl⟩
  rw [hly2] at e1
  have HAL := Lib.hid (fun (w2 : World) => aliasNil_walk B ly d w2)
  have HQR : Hid (∀ n, Calls Tryz.prog 143 #[.pointer (some ⟨w.heap.size, 0, none⟩), .pointer (some ⟨gx, 0, none⟩), .pointer (some ⟨gy, 0, none⟩), .pointer (some ⟨gz, 0, none⟩)] ((w.drewN n).alloc (.cells #[.bool false, .slice none 0 0] 80)) fun e w' => e = .returned (.tuple #[.pointer (some ⟨w.heap.size, 0, none⟩), .pointer (some ⟨gz, 0, none⟩)]) ∧ IntAt w' gz (x.tmod y) ∧ Ext (fun b => b = gz) w w') := by
    refine Lib.hid fun n => ?_
    have hb : Below w.heap.size w ((w.drewN n).alloc (.cells #[.bool false, .slice none 0 0] 80)) := (below_drewN (Below.refl _ _) n).trans (below_a1 (w.drewN n) _)
    have lz := iter_lt hz
    have lx := hx.lt
    have ly' := iter_lt hky
    refine (intQuoRem_walk w.heap.size gz gx gy x y _ (heap_here (w.drewN n) _) ((hb.block gz lz).trans hz) (hx.below hb) (IntAt.below (w := w) ⟨B, d, hky, i2, i3, i4⟩ hb) (by omega) (by omega) (by omega) hgx hgy (hk.below hb hk.lt) hlx hly hy0).mono ?_
    rintro e w' ⟨rfl, _, hi, he⟩
    refine ⟨rfl, hi, ?_⟩
    have h2 : Ext (fun b => b = w.heap.size ∨ b = gz) w w' := (((Ext.refl _ w).drewN n).alloc _).trans he
    exact h2.mono fun k hk hd => by rcases hd with h | h; exact absurd h (Nat.ne_of_lt hk); exact h
  have hr0 : decide (x.tmod y < 0) = false := decide_eq_false (by have := Int.tmod_nonneg y hx0; omega)
  have HR0 := Lib.hid hr0
  clear hz hx hky i4 hz' hr0 hly2 hk
  go_enter Tryz.func116, Tryz.ntmps116
  go_wp2_with fail
  go_quiet ((go_at_call 131; exact Calls.quiet_of (HAL.out _)))
  go_wp2_with fail
  refine (HQR.out _).mono ?_
  rintro e w1 ⟨rfl, hi, he⟩
  obtain ⟨A, c, hkz, j2, j3, j4⟩ := hi
  have d0 := num_cell0 hkz
  rw [HR0.out] at d0 hkz
  have HI := Lib.hid (show IntAt w1 gz (x.tmod y) from ⟨A, c, by rw [HR0.out]; exact hkz, j2, j3, j4⟩)
  have HE := Lib.hid he
  clear hkz j4 he c1 e1 hnq
  go_wp2_with fail
  go_ret
  exact ⟨rfl, HI.out, HE.out⟩

set_option maxRecDepth 100000 in
set_option maxHeartbeats 2000000 in
theorem bigMod_walk (gx gy : Nat) (x y : Int) (w : World) (hx : IntAt w gx x) (hy : IntAt w gy y) (hk : DivIs w) (hy0 : y ≠ 0) (ox : overU x = false) (oy : overU y = false) :
    Calls Tryz.prog 89 #[.pointer (some ⟨gx, 0, none⟩), .pointer (some ⟨gy, 0, none⟩)] w fun e w' => ∃ g, e = .returned (.pointer (some ⟨g, 0, none⟩)) ∧ IntAt w' g (x.tmod y) ∧ Below w.heap.size w w' ∧ w.heap.size ≤ g := by
  have hb := below_a1 w (.cells #[.bool false, .slice none 0 0] 80)
  have HQ := Lib.hid (intMod_walk w.heap.size gx gy x y _ (heap_here w _) (hx.below hb) (hy.below hb) (Nat.ne_of_lt hx.lt) (Nat.ne_of_lt hy.lt) (hk.below hb hk.lt) (by have := overU_words ox; omega) (overU_words4 oy) hy0 (by have := overU_pos ox; omega))
  have HB := Lib.hid hb
  clear hx hy hk hb
  go_enter Tryz.func89, Tryz.ntmps89
  go_wp2_with fail
  refine HQ.out.mono ?_
  rintro e w1 ⟨rfl, hi, hx1⟩
  have HI := Lib.hid hi
  have HB1 := Lib.hid (HB.out.trans (hx1.below (by rw [heap_size_alloc]; omega) (fun k hk => by omega)))
  clear hi hx1
  go_wp2_with fail
  go_ret
  exact ⟨w.heap.size, rfl, HI.out, HB1.out, Nat.le_refl _⟩

set_option maxRecDepth 100000 in
set_option maxHeartbeats 2000000 in
theorem uintMod_walk (gx gy : Nat) (x y : Int) (w : World) (hx : IntAt w gx x) (hy : IntAt w gy y) (_hne : gy ≠ gx) (hk : DivIs w) (hy0 : y ≠ 0) (ox : overU x = false) (oy : overU y = false) :
    Calls Tryz.prog 46 #[.agg #[.pointer (some ⟨gx, 0, none⟩)], .agg #[.pointer (some ⟨gy, 0, none⟩)]] w (MadePost w (x.tmod y)) := by
  have hT := twoBox w gx gy x y hx hy
  have HT := Lib.hid hT
  have HZ := Lib.hid (fun (w2 : World) (h : IntAt w2 gy y) => isZero_walk gy y w2 h (overU_pos oy))
  have HS := Lib.hid (fun (w2 : World) (h2 : IntAt w2 gx x) (h3 : IntAt w2 gy y) (h6 : DivIs w2) => bigMod_walk gx gy x y w2 h2 h3 h6 hy0 ox oy)
  have HK := Lib.hid hk
  have HY0 := Lib.hid (decide_eq_false hy0)
  clear hx hy hT hk hy0
  go_enter Tryz.func46, Tryz.ntmps46
  go_upto_region 1 with fail
  obtain ⟨wa, hwa⟩ : ∃ wa, ((w.alloc (.cells #[.pointer (some ⟨gx, 0, none⟩)] 52)).alloc (.cells #[.pointer (some ⟨gy, 0, none⟩)] 52)).alloc (.cells #[.pointer none] 52) = wa := ⟨_, rfl⟩
  rw [hwa] at HT ⊢
  have c1 : wa.cell? ⟨w.heap.size + 1, 0, none⟩ = some (.pointer (some ⟨gy, 0, none⟩)) := one_cell HT.out.b1
  clear hwa
  go_wp2_with fail
  refine (HZ.out wa HT.out.hy).mono ?_
  rw [HY0.out]
  rintro e w1 ⟨rfl, hb1⟩
  have hk0 := (hb1.block _ (iter_lt HT.out.b0)).trans HT.out.b0
  have hk1 := (hb1.block _ (iter_lt HT.out.b1)).trans HT.out.b1
  have c0 := one_cell hk0
  have c1 := one_cell hk1
  have HK2 := Lib.hid ((hb1.block _ (iter_lt HT.out.b2)).trans HT.out.b2)
  have HX1 := Lib.hid (HT.out.hx.below hb1)
  have HY1 := Lib.hid (HT.out.hy.below hb1)
  have HB1 := Lib.hid (bt HT.out.below hb1)
  clear hb1 hk0 hk1
  go_wp2_with fail
  refine (HS.out w1 HX1.out HY1.out (HK.out.below HB1.out HK.out.lt)).mono ?_
  rintro e w5 ⟨g5, rfl, hi5, hb5, hfr⟩
  have hk5 := (hb5.block (w.heap.size + 1 + 1) (iter_lt HK2.out)).trans HK2.out
  have c2 := one_cell hk5
  have f2 := one_free hk5 0
  have HK5 := Lib.hid hk5
  have HI5 := Lib.hid hi5
  have HB5 := Lib.hid hb5
  clear hk5 hi5 hb5 c0 c1
  go_wp2_with fail
  have k0 := one_set (u := .pointer (some ⟨g5, 0, none⟩)) HK5.out
  have d0 := one_cell k0
  exact bodyPost_ret (v := .agg #[.pointer (some ⟨g5, 0, none⟩)]) (by simp [results, Tryz.results46, go_sem, d0]) rfl
    ⟨g5, rfl, HI5.out.store HK5.out (by decide) (by decide) _, (bt HB1.out HB5.out).setCell (p := ⟨w.heap.size + 1 + 1, 0, none⟩) (by show w.heap.size ≤ w.heap.size + 1 + 1; omega) _, Nat.le_trans HB1.out.size hfr⟩

set_option maxRecDepth 100000 in
set_option maxHeartbeats 2000000 in
theorem uintMod_panic (gx gy : Nat) (x : Int) (w : World) (hx : IntAt w gx x) (hy : IntAt w gy 0) :
    Calls Tryz.prog 46 #[.agg #[.pointer (some ⟨gx, 0, none⟩)], .agg #[.pointer (some ⟨gy, 0, none⟩)]] w (PanicPost w) := by
  have hT := twoBox w gx gy x 0 hx hy
  have HT := Lib.hid hT
  have HZ : Hid (∀ (w2 : World), IntAt w2 gy 0 → Calls Tryz.prog 59 #[.agg #[.pointer (some ⟨gy, 0, none⟩)]] w2 fun e w' => e = .returned (.bool true) ∧ Below w2.heap.size w2 w') := by
    refine Lib.hid fun w2 h => (isZero_walk gy 0 w2 h (by omega)).mono ?_
    rintro e w' ⟨rfl, h2⟩
    exact ⟨rfl, h2⟩
  clear hx hy hT
  go_enter Tryz.func46, Tryz.ntmps46
  go_upto_region 1 with fail
  obtain ⟨wa, hwa⟩ : ∃ wa, ((w.alloc (.cells #[.pointer (some ⟨gx, 0, none⟩)] 52)).alloc (.cells #[.pointer (some ⟨gy, 0, none⟩)] 52)).alloc (.cells #[.pointer none] 52) = wa := ⟨_, rfl⟩
  rw [hwa] at HT ⊢
  have c1 : wa.cell? ⟨w.heap.size + 1, 0, none⟩ = some (.pointer (some ⟨gy, 0, none⟩)) := one_cell HT.out.b1
  clear hwa
  go_wp2_with fail
  refine (HZ.out wa HT.out.hy).mono ?_
  rintro e w1 ⟨rfl, hb1⟩
  have HB1 := Lib.hid (bt HT.out.below hb1)
  clear hb1
  go_wp2_with fail
  have hp : PanicPost w (.panicked [{ v := .iface 9 (.string ⟨#[100, 105, 118, 105, 115, 105, 111, 110, 45, 98, 121, 45, 122, 101, 114, 111]⟩), recovered := false }]) w1 := ⟨_, _, rfl, HB1.out⟩
  exact ⟨rfl, hp⟩
end Go.Proofs.YtapfolgiafnllaaGreatDoor

/-
  What RelativePow finds in memory.
-/
namespace Go.Proofs.YtapfolgiafnllaaGreatDoor
open Go.RowKit

/-- A number or a panic. -/
def PowPost (w : World) (r : Option Int) (e : Ending) (w' : World) : Prop :=
  match r with
  | some z => ∃ g, e = .returned (.agg #[.pointer (some ⟨g, 0, none⟩)]) ∧ IntAt w' g z ∧ Below w.heap.size w w'
  | none => PanicPost w e w'

/-- The variables of RelativePow. -/
structure PowMem (w : World) (x n b : Int) (gx gn gb : Nat) (zv : Value) (wr : World) : Prop where
  bx : wr.heap[w.heap.size]? = some (.cells #[.pointer (some ⟨gx, 0, none⟩)] 52 (0, 0))
  bn : wr.heap[w.heap.size + 1]? = some (.cells #[.pointer (some ⟨gn, 0, none⟩)] 52 (0, 0))
  bb : wr.heap[w.heap.size + 1 + 1]? = some (.cells #[.pointer (some ⟨gb, 0, none⟩)] 52 (0, 0))
  bz : wr.heap[w.heap.size + 1 + 1 + 1]? = some (.cells #[zv] 52 (0, 0))
  ix : IntAt wr gx x
  iN : IntAt wr gn n
  ib : IntAt wr gb b
  below : Below w.heap.size w wr
theorem PowMem.grow {w wr w2 : World} {x n b : Int} {gx gn gb : Nat} {zv : Value} (h : PowMem w x n b gx gn gb zv wr) (k : Below wr.heap.size wr w2) : PowMem w x n b gx gn gb zv w2 :=
  ⟨(k.block _ (iter_lt h.bx)).trans h.bx, (k.block _ (iter_lt h.bn)).trans h.bn, (k.block _ (iter_lt h.bb)).trans h.bb, (k.block _ (iter_lt h.bz)).trans h.bz, h.ix.below k, h.iN.below k, h.ib.below k, bt h.below k⟩
theorem PowMem.setZ {w wr : World} {x n b : Int} {gx gn gb : Nat} {zv : Value} (h : PowMem w x n b gx gn gb zv wr) (u : Value) : PowMem w x n b gx gn gb u (wr.setCell ⟨w.heap.size + 1 + 1 + 1, 0, none⟩ u) :=
  ⟨(one_other (by show w.heap.size ≠ w.heap.size + 1 + 1 + 1; omega)).trans h.bx, (one_other (by show w.heap.size + 1 ≠ w.heap.size + 1 + 1 + 1; omega)).trans h.bn, (one_other (by show w.heap.size + 1 + 1 ≠ w.heap.size + 1 + 1 + 1; omega)).trans h.bb, one_set h.bz,
    h.ix.store h.bz (by decide) (by decide) _, h.iN.store h.bz (by decide) (by decide) _, h.ib.store h.bz (by decide) (by decide) _, h.below.setCell (p := ⟨w.heap.size + 1 + 1 + 1, 0, none⟩) (by show w.heap.size ≤ w.heap.size + 1 + 1 + 1; omega) _⟩
theorem PowMem.setN {w wr : World} {x n b : Int} {gx gn gb : Nat} {zv : Value} (h : PowMem w x n b gx gn gb zv wr) {g : Nat} {m : Int} (hi : IntAt wr g m) : PowMem w x m b gx g gb zv (wr.setCell ⟨w.heap.size + 1, 0, none⟩ (.pointer (some ⟨g, 0, none⟩))) :=
  ⟨(one_other (by show w.heap.size ≠ w.heap.size + 1; omega)).trans h.bx, one_set h.bn, (one_other (by show w.heap.size + 1 + 1 ≠ w.heap.size + 1; omega)).trans h.bb, (one_other (by show w.heap.size + 1 + 1 + 1 ≠ w.heap.size + 1; omega)).trans h.bz,
    h.ix.store h.bn (by decide) (by decide) _, hi.store h.bn (by decide) (by decide) _, h.ib.store h.bn (by decide) (by decide) _, h.below.setCell (p := ⟨w.heap.size + 1, 0, none⟩) (by show w.heap.size ≤ w.heap.size + 1; omega) _⟩
theorem PowMem.setX {w wr : World} {x n b : Int} {gx gn gb : Nat} {zv : Value} (h : PowMem w x n b gx gn gb zv wr) {g : Nat} {m : Int} (hi : IntAt wr g m) : PowMem w m n b g gn gb zv (wr.setCell ⟨w.heap.size, 0, none⟩ (.pointer (some ⟨g, 0, none⟩))) :=
  ⟨one_set h.bx, (one_other (by show w.heap.size + 1 ≠ w.heap.size; omega)).trans h.bn, (one_other (by show w.heap.size + 1 + 1 ≠ w.heap.size; omega)).trans h.bb, (one_other (by show w.heap.size + 1 + 1 + 1 ≠ w.heap.size; omega)).trans h.bz,
    hi.store h.bx (by decide) (by decide) _, h.iN.store h.bx (by decide) (by decide) _, h.ib.store h.bx (by decide) (by decide) _, h.below.setCell (p := ⟨w.heap.size, 0, none⟩) (Nat.le_refl _) _⟩
theorem powMem_start {w : World} {x n b : Int} {gx gn gb : Nat} (hx : IntAt w gx x) (hn : IntAt w gn n) (hb : IntAt w gb b) :
    PowMem w x n b gx gn gb (.pointer none) ((((w.alloc (.cells #[.pointer (some ⟨gx, 0, none⟩)] 52)).alloc (.cells #[.pointer (some ⟨gn, 0, none⟩)] 52)).alloc (.cells #[.pointer (some ⟨gb, 0, none⟩)] 52)).alloc (.cells #[.pointer none] 52)) := by
  have hbl := bt (below_a2 w (.cells #[.pointer (some ⟨gx, 0, none⟩)] 52) (.cells #[.pointer (some ⟨gn, 0, none⟩)] 52)) (below_a2 _ (.cells #[.pointer (some ⟨gb, 0, none⟩)] 52) (.cells #[.pointer none] 52))
  exact ⟨heap_old (heap_old (heap_old (heap_here _ _))), heap_old (heap_old (heap_at _ _ (by rw [heap_size_alloc]))), heap_old (heap_at _ _ (by rw [heap_size_alloc, heap_size_alloc])), heap_at _ _ (by rw [heap_size_alloc, heap_size_alloc, heap_size_alloc]), hx.below hbl, hn.below hbl, hb.below hbl, hbl⟩
/-- .. with the half of b, and the result so far. -/
structure PowAt (w : World) (x n b z h : Int) (gx gn gb gz gh bh : Nat) (wr : World) : Prop where
  mem : PowMem w x n b gx gn gb (.pointer (some ⟨gz, 0, none⟩)) wr
  iz : IntAt wr gz z
  hh : wr.heap[bh]? = some (.cells #[.pointer (some ⟨gh, 0, none⟩)] 52 (0, 0))
  ih : IntAt wr gh h
  lt : w.heap.size + 1 + 1 + 1 < bh
theorem PowAt.grow {w wr w2 : World} {x n b z h : Int} {gx gn gb gz gh bh : Nat} (p : PowAt w x n b z h gx gn gb gz gh bh wr) (k : Below wr.heap.size wr w2) : PowAt w x n b z h gx gn gb gz gh bh w2 :=
  ⟨p.mem.grow k, p.iz.below k, (k.block _ (iter_lt p.hh)).trans p.hh, p.ih.below k, p.lt⟩
theorem PowAt.setX {w wr : World} {x n b z h : Int} {gx gn gb gz gh bh : Nat} (p : PowAt w x n b z h gx gn gb gz gh bh wr) {g : Nat} {m : Int} (hi : IntAt wr g m) : PowAt w m n b z h g gn gb gz gh bh (wr.setCell ⟨w.heap.size, 0, none⟩ (.pointer (some ⟨g, 0, none⟩))) :=
  ⟨p.mem.setX hi, p.iz.store p.mem.bx (by decide) (by decide) _, (one_other (by have := p.lt; show bh ≠ w.heap.size; omega)).trans p.hh, p.ih.store p.mem.bx (by decide) (by decide) _, p.lt⟩
theorem PowAt.setN {w wr : World} {x n b z h : Int} {gx gn gb gz gh bh : Nat} (p : PowAt w x n b z h gx gn gb gz gh bh wr) {g : Nat} {m : Int} (hi : IntAt wr g m) : PowAt w x m b z h gx g gb gz gh bh (wr.setCell ⟨w.heap.size + 1, 0, none⟩ (.pointer (some ⟨g, 0, none⟩))) :=
  ⟨p.mem.setN hi, p.iz.store p.mem.bn (by decide) (by decide) _, (one_other (by have := p.lt; show bh ≠ w.heap.size + 1; omega)).trans p.hh, p.ih.store p.mem.bn (by decide) (by decide) _, p.lt⟩
theorem PowAt.setZ {w wr : World} {x n b z h : Int} {gx gn gb gz gh bh : Nat} (p : PowAt w x n b z h gx gn gb gz gh bh wr) {g : Nat} {m : Int} (hi : IntAt wr g m) : PowAt w x n b m h gx gn gb g gh bh (wr.setCell ⟨w.heap.size + 1 + 1 + 1, 0, none⟩ (.pointer (some ⟨g, 0, none⟩))) :=
  ⟨p.mem.setZ _, hi.store p.mem.bz (by decide) (by decide) _, (one_other (by have := p.lt; show bh ≠ w.heap.size + 1 + 1 + 1; omega)).trans p.hh, p.ih.store p.mem.bz (by decide) (by decide) _, p.lt⟩
theorem PowMem.later {w wr : World} {x n b : Int} {gx gn gb a : Nat} {zv v : Value} (h : PowMem w x n b gx gn gb zv wr) (ha : wr.heap[a]? = some (.cells #[v] 52 (0, 0))) (hl : w.heap.size + 1 + 1 + 1 < a) (u : Value) : PowMem w x n b gx gn gb zv (wr.setCell ⟨a, 0, none⟩ u) :=
  ⟨(one_other (by show w.heap.size ≠ a; omega)).trans h.bx, (one_other (by show w.heap.size + 1 ≠ a; omega)).trans h.bn, (one_other (by show w.heap.size + 1 + 1 ≠ a; omega)).trans h.bb, (one_other (by show w.heap.size + 1 + 1 + 1 ≠ a; omega)).trans h.bz,
    h.ix.store ha (by decide) (by decide) _, h.iN.store ha (by decide) (by decide) _, h.ib.store ha (by decide) (by decide) _, h.below.setCell (p := ⟨a, 0, none⟩) (by show w.heap.size ≤ a; omega) _⟩
/-- The half of b is laid. -/
def HalfAt (w : World) (x n b : Int) (gx gn gb gz : Nat) (z h : Int) (hv : Value) (wr : World) : Prop :=
  ∃ gh bh, hv = .pointer (some ⟨bh, 0, none⟩) ∧ PowAt w x n b z h gx gn gb gz gh bh wr
def PowZ (w : World) (x n b : Int) (gx gn gb : Nat) (z : Int) (wr : World) : Prop :=
  ∃ gz, PowMem w x n b gx gn gb (.pointer (some ⟨gz, 0, none⟩)) wr ∧ IntAt wr gz z
theorem half_new {w wc w8 : World} {x n b z h : Int} {gx gn gb gz g8 : Nat} (hm : PowMem w x n b gx gn gb (.pointer (some ⟨gz, 0, none⟩)) wc) (hz : IntAt wc gz z) (hb : Below wc.heap.size wc w8) (hi : IntAt w8 g8 h) :
    HalfAt w x n b gx gn gb gz z h (.pointer (some ⟨w8.heap.size, 0, none⟩)) (w8.alloc (.cells #[.pointer (some ⟨g8, 0, none⟩)] 52)) :=
  ⟨g8, w8.heap.size, rfl, (hm.grow hb).grow (below_a1 _ _), (hz.below hb).below (below_a1 _ _), heap_here _ _, hi.below (below_a1 _ _), iter_lt (hm.grow hb).bz⟩
theorem half_set {w wc w8 : World} {x n b z h : Int} {gx gn gb gz g8 a : Nat} (hm : PowMem w x n b gx gn gb (.pointer (some ⟨gz, 0, none⟩)) wc) (hz : IntAt wc gz z) (hb : Below wc.heap.size wc w8) (hi : IntAt w8 g8 h) {v : Value} (ha : w8.heap[a]? = some (.cells #[v] 52 (0, 0))) (hl : wc.heap.size ≤ a) :
    HalfAt w x n b gx gn gb gz z h (.pointer (some ⟨a, 0, none⟩)) (w8.setCell ⟨a, 0, none⟩ (.pointer (some ⟨g8, 0, none⟩))) :=
  ⟨g8, a, rfl, (hm.grow hb).later ha (Nat.lt_of_lt_of_le (iter_lt hm.bz) hl) _, (hz.below hb).store ha (by decide) (by decide) _, one_set ha, hi.store ha (by decide) (by decide) _, Nat.lt_of_lt_of_le (iter_lt hm.bz) hl⟩
/-- A round of the loop begins. -/
def PowLoop (w : World) (b h : Int) (gb gh bh : Nat) (R : Option Int) (N : Nat) (wr : World) : Prop :=
  ∃ x z gx gn gz, PowAt w x (N : Int) b z h gx gn gb gz gh bh wr ∧ overU x = false ∧ overU z = false ∧ N < 2 ^ 256 ∧ powR b h N x z = R
end Go.Proofs.YtapfolgiafnllaaGreatDoor
