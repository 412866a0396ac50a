/-
  laws.asked where the reference has no answer; what is done with two numbers that are not less than 0, as the reference has it.
-/
import Derived.Test.YtiohlcfdoleooaaGreatDoorBn04Z
import Derived.Test.YtiohlcfdoleooaaGreatDoorBn02Z
import Derived.Test.YtiohlcfdoleooaaGreatDoorBn03Z
import Derived.Test.YtiohlcfdoleooaaGreatDoorBn24Z
import Derived.Test.YtiohlcfdoleooaaGreatDoorBn30Z
import Derived.Test.YtiohlcfdoleooaaGreatDoorUintAboutZ
namespace Go.Proofs.YtiohlcfdoleooaaGreatDoor
open Go.RowKit

set_option maxRecDepth 100000 in
set_option maxHeartbeats 1000000 in
theorem asked0_walk (t : List UInt8) (x : Int) (v : Value) (w : World) (hv : IsNum w v x) (hl : (toD 10 x.natAbs).length ≤ 1000000) :
    Calls Tryz.prog 25 #[.string (S t), .bool false, v, .bool false] w fun e w' => e = .returned (.bool true) ∧ Below w.heap.size w w' := by
  have HTO := Lib.hid (fun (w' : World) (h1 : IsNum w' v x) => told_walk t false x v false w' h1 hl rfl (fun h => by cases h))
  obtain ⟨A, c, rfl, hc, hcm, hr⟩ := hv.open
  have HV := Lib.hid hv
  clear hv hr hl hc
  obtain ⟨b, hb⟩ : ∃ b, decide (x < 0) = b := ⟨_, rfl⟩
  rw [hb] at HTO HV ⊢
  clear hb
  go_enter Tryz.func25, Tryz.ntmps25
  go_wp2_with fail
  refine (HTO.out _ (HV.out.below (below_a1 _ _))).mono ?_
  rintro e w1 ⟨rfl, hb1⟩
  go_wp2_with fail
  go_ret
  exact ⟨rfl, bt (below_a1 _ _) hb1⟩

/-- For numbers that are not less than 0 the two agree. -/
theorem refZ_opZ {o : Nat} {x y : Int} (hx : 0 ≤ x) : refZ o x y = opZ o x y := by
  unfold refZ opZ
  match o with
  | 0 => rfl
  | 1 => rfl
  | 2 => rfl
  | 3 => rfl
  | 4 =>
    have h2 : 0 ≤ x.tmod y := Int.tmod_nonneg y hx
    by_cases hy : y = 0
    · simp only [if_pos hy]
    · simp only [if_neg hy]
      rw [if_neg (by omega)]
  | 5 =>
    simp only []
    congr 1
    unfold minZ sgnC
    by_cases h : x < y
    · rw [if_pos h, if_neg (by rw [if_pos (by omega)]; omega)]
    · by_cases h2 : x - y = 0
      · rw [if_neg h, if_neg (by rw [if_neg (by omega), if_pos h2]; omega)]; omega
      · rw [if_neg h, if_pos (by rw [if_neg (by omega), if_neg h2])]
  | 6 =>
    simp only []
    congr 1
    unfold maxZ sgnC
    by_cases h : x < y
    · rw [if_pos h, if_pos (by rw [if_pos (by omega)])]
    · rw [if_neg h, if_neg (by rw [if_neg (by omega)]; split <;> omega)]
  | n + 7 => rfl
theorem refZ_len {o : Nat} {x y z : Int} (hx : x.natAbs < 2 ^ 256) (hy : y.natAbs < 2 ^ 256) (h : refZ o x y = some z) : (toD 10 z.natAbs).length ≤ 1000000 := by
  have hz : z.natAbs < 2 ^ 256 * 2 ^ 256 := by
    have e1 : (2 : Nat) ^ 256 + 2 ^ 256 ≤ 2 ^ 256 * 2 ^ 256 := by decide
    have e2 : (2 : Nat) ^ 256 ≤ 2 ^ 256 * 2 ^ 256 := by decide
    unfold refZ at h
    match o, h with
    | 0, h => injection h with h; subst h; omega
    | 1, h => injection h with h; subst h; omega
    | 2, h => injection h with h; subst h; rw [Int.natAbs_mul]; exact Nat.mul_lt_mul'' hx hy
    | 3, h =>
      simp only [] at h
      split at h
      · cases h
      · injection h with h; subst h
        rw [Int.natAbs_tdiv]
        exact Nat.lt_of_le_of_lt (Nat.div_le_self _ _) (by omega)
    | 4, h =>
      simp only [] at h
      split at h
      · cases h
      · injection h with h; subst h
        have h2 : (x.tmod y).natAbs ≤ x.natAbs := by rw [Int.natAbs_tmod]; exact Nat.mod_le _ _
        split <;> omega
    | 5, h => injection h with h; subst h; split <;> omega
    | 6, h => injection h with h; subst h; split <;> omega
  exact Nat.le_trans (toD_length_le (by decide) 200 _ (Nat.lt_of_lt_of_le hz (by decide))) (by decide)
theorem askedRes_walk (o : Nat) (x y : Int) (v : Value) (w : World) (ox : overU x = false) (hx : x.natAbs < 2 ^ 256) (hy : y.natAbs < 2 ^ 256) (hv : IsNum w v ((refZ o x y).getD 0)) :
    Calls Tryz.prog 25 #[.string (S (outT (uRes o x y))), .bool (uRes o x y).isSome, v, .bool (refZ o x y).isSome] w fun e w' => e = .returned (.bool true) ∧ Below w.heap.size w w' := by
  have hx0 : 0 ≤ x := by have := overU_pos ox; omega
  have he := refZ_opZ (o := o) (y := y) hx0
  cases hz : refZ o x y with
  | none =>
    rw [hz] at hv
    have hu : uRes o x y = none := by unfold uRes; rw [← he, hz]
    rw [hu]
    exact asked0_walk _ 0 v w hv (by rw [Int.natAbs_zero, toD_zero]; decide)
  | some z =>
    rw [hz] at hv
    have hu : uRes o x y = if overU z = true then none else some z := by unfold uRes; rw [← he, hz]
    have hl := refZ_len hx hy hz
    have hf := overU_fits z
    rw [hu]
    clear hu
    cases ho : overU z with
    | true =>
      rw [if_pos rfl]
      rw [ho] at hf
      have hok : false = ((!decide (z < 0)) && decide (z.natAbs < 2 ^ 256)) := by
        cases h1 : decide (z < 0) <;> cases h2 : decide (z.natAbs < 2 ^ 256) <;> rw [h1, h2] at hf <;> first | rfl | cases hf
      exact asked_walk _ false z v w hv hl hok (fun h => by cases h)
    | false =>
      rw [if_neg (by decide)]
      rw [ho] at hf
      have hok : true = ((!decide (z < 0)) && decide (z.natAbs < 2 ^ 256)) := by
        cases h1 : decide (z < 0) <;> cases h2 : decide (z.natAbs < 2 ^ 256) <;> rw [h1, h2] at hf <;> first | rfl | cases hf
      exact asked_walk _ true z v w hv hl hok (fun _ => rfl)
end Go.Proofs.YtiohlcfdoleooaaGreatDoor

/-
  Int.Mod of a number that is not less than 0, mod and Uint.Mod of cosmosmath.
-/
namespace Go.Proofs.YtiohlcfdoleooaaGreatDoor
open Go.RowKit

set_option maxRecDepth 100000 in
set_option maxHeartbeats 4000000 in
theorem intMod_walk (gz gx gy : Nat) (x y : Int) (w : World) (hz : IntNew w gz) (hx : IntAt w gx x) (hy : IntAt w gy y) (hgx : gx ≠ gz) (hgy : gy ≠ gz) (hk : DivIs w) (hlx : (wds x.natAbs).length ≤ 900) (hly : (wds y.natAbs).length ≤ 4) (hy0 : y ≠ 0) (hx0 : 0 ≤ x) :
    Calls Tryz.prog 186 #[.pointer (some ⟨gz, 0, none⟩), .pointer (some ⟨gx, 0, none⟩), .pointer (some ⟨gy, 0, none⟩)] w fun e w' => e = .returned (.pointer (some ⟨gz, 0, none⟩)) ∧ IntAt w' gz (x.tmod y) ∧ Ext (fun b => b = gz) w w' := by
  have hz' := hz
  obtain ⟨B, d, hky, i2, i3, i4⟩ := hy
  have hnq : ∀ n, (binOp BinOp.eql 62 (.pointer (some ⟨gz, 0, none⟩)) (.pointer (some ⟨gy, 0, none⟩))).run Tryz.prog (w.drewN n) = .ok (.bool false) (w.drewN n) := fun n => (int_neq (w := w.drewN n) hgy hz hky).2
  have c1 := num_cell1 hz
  have e1 := num_cell1 hky
  obtain ⟨ly, hly2⟩ : ∃ l, (wds y.natAbs).length = l := ⟨_, rfl⟩
  rw [hly2] at e1
  have HAL := Lib.hid (fun (w2 : World) => aliasNil_walk B ly d w2)
  have HQR : Hid (∀ n, Calls Tryz.prog 210 #[.pointer (some ⟨w.heap.size, 0, none⟩), .pointer (some ⟨gx, 0, none⟩), .pointer (some ⟨gy, 0, none⟩), .pointer (some ⟨gz, 0, none⟩)] ((w.drewN n).alloc (.cells #[.bool false, .slice none 0 0] 101)) fun e w' => e = .returned (.tuple #[.pointer (some ⟨w.heap.size, 0, none⟩), .pointer (some ⟨gz, 0, none⟩)]) ∧ IntAt w' gz (x.tmod y) ∧ Ext (fun b => b = gz) w w') := by
    refine Lib.hid fun n => ?_
    have hb : Below w.heap.size w ((w.drewN n).alloc (.cells #[.bool false, .slice none 0 0] 101)) := (below_drewN (Below.refl _ _) n).trans (below_a1 (w.drewN n) _)
    have lz := iter_lt hz
    have lx := hx.lt
    have ly' := iter_lt hky
    refine (intQuoRem_walk w.heap.size gz gx gy x y _ (heap_here (w.drewN n) _) ((hb.block gz lz).trans hz) (hx.below hb) (IntAt.below (w := w) ⟨B, d, hky, i2, i3, i4⟩ hb) (by omega) (by omega) (by omega) hgx hgy (hk.below hb hk.lt) hlx hly hy0).mono ?_
    rintro e w' ⟨rfl, _, hi, he⟩
    refine ⟨rfl, hi, ?_⟩
    have h2 : Ext (fun b => b = w.heap.size ∨ b = gz) w w' := (((Ext.refl _ w).drewN n).alloc _).trans he
    exact h2.mono fun k hk hd => by rcases hd with h | h; exact absurd h (Nat.ne_of_lt hk); exact h
  have hr0 : decide (x.tmod y < 0) = false := decide_eq_false (by have := Int.tmod_nonneg y hx0; omega)
  have HR0 := Lib.hid hr0
  clear hz hx hky i4 hz' hr0 hly2 hk
  go_enter Tryz.func186, Tryz.ntmps186
  go_wp2_with fail
  go_quiet ((go_at_call 209; exact Calls.quiet_of (HAL.out _)))
  go_wp2_with fail
  refine (HQR.out _).mono ?_
  rintro e w1 ⟨rfl, hi, he⟩
  obtain ⟨A, c, hkz, j2, j3, j4⟩ := hi
  have d0 := num_cell0 hkz
  rw [HR0.out] at d0 hkz
  have HI := Lib.hid (show IntAt w1 gz (x.tmod y) from ⟨A, c, by rw [HR0.out]; exact hkz, j2, j3, j4⟩)
  have HE := Lib.hid he
  clear hkz j4 he c1 e1 hnq
  go_wp2_with fail
  go_ret
  exact ⟨rfl, HI.out, HE.out⟩

set_option maxRecDepth 100000 in
set_option maxHeartbeats 2000000 in
theorem bigMod_walk (gx gy : Nat) (x y : Int) (w : World) (hx : IntAt w gx x) (hy : IntAt w gy y) (hk : DivIs w) (hy0 : y ≠ 0) (ox : overU x = false) (oy : overU y = false) :
    Calls Tryz.prog 145 #[.pointer (some ⟨gx, 0, none⟩), .pointer (some ⟨gy, 0, none⟩)] w fun e w' => ∃ g, e = .returned (.pointer (some ⟨g, 0, none⟩)) ∧ IntAt w' g (x.tmod y) ∧ Below w.heap.size w w' ∧ w.heap.size ≤ g := by
  have hb := below_a1 w (.cells #[.bool false, .slice none 0 0] 101)
  have HQ := Lib.hid (intMod_walk w.heap.size gx gy x y _ (heap_here w _) (hx.below hb) (hy.below hb) (Nat.ne_of_lt hx.lt) (Nat.ne_of_lt hy.lt) (hk.below hb hk.lt) (by have := overU_words ox; omega) (overU_words4 oy) hy0 (by have := overU_pos ox; omega))
  have HB := Lib.hid hb
  clear hx hy hk hb
  go_enter Tryz.func145, Tryz.ntmps145
  go_wp2_with fail
  refine HQ.out.mono ?_
  rintro e w1 ⟨rfl, hi, hx1⟩
  have HI := Lib.hid hi
  have HB1 := Lib.hid (HB.out.trans (hx1.below (by rw [heap_size_alloc]; omega) (fun k hk => by omega)))
  clear hi hx1
  go_wp2_with fail
  go_ret
  exact ⟨w.heap.size, rfl, HI.out, HB1.out, Nat.le_refl _⟩

set_option maxRecDepth 100000 in
set_option maxHeartbeats 2000000 in
theorem uintMod_walk (gx gy : Nat) (x y : Int) (w : World) (hx : IntAt w gx x) (hy : IntAt w gy y) (_hne : gy ≠ gx) (hk : DivIs w) (hy0 : y ≠ 0) (ox : overU x = false) (oy : overU y = false) :
    Calls Tryz.prog 72 #[.agg #[.pointer (some ⟨gx, 0, none⟩)], .agg #[.pointer (some ⟨gy, 0, none⟩)]] w (MadePost w (x.tmod y)) := by
  have hT := twoBox w gx gy x y hx hy
  have HT := Lib.hid hT
  have HZ := Lib.hid (fun (w2 : World) (h : IntAt w2 gy y) => isZero_walk gy y w2 h (overU_pos oy))
  have HS := Lib.hid (fun (w2 : World) (h2 : IntAt w2 gx x) (h3 : IntAt w2 gy y) (h6 : DivIs w2) => bigMod_walk gx gy x y w2 h2 h3 h6 hy0 ox oy)
  have HK := Lib.hid hk
  have HY0 := Lib.hid (decide_eq_false hy0)
  clear hx hy hT hk hy0
  go_enter Tryz.func72, Tryz.ntmps72
  go_upto_region 1 with fail
  obtain ⟨wa, hwa⟩ : ∃ wa, ((w.alloc (.cells #[.pointer (some ⟨gx, 0, none⟩)] 64)).alloc (.cells #[.pointer (some ⟨gy, 0, none⟩)] 64)).alloc (.cells #[.pointer none] 64) = wa := ⟨_, rfl⟩
  rw [hwa] at HT ⊢
  have c1 : wa.cell? ⟨w.heap.size + 1, 0, none⟩ = some (.pointer (some ⟨gy, 0, none⟩)) := one_cell HT.out.b1
  clear hwa
  go_wp2_with fail
  refine (HZ.out wa HT.out.hy).mono ?_
  rw [HY0.out]
  rintro e w1 ⟨rfl, hb1⟩
  have hk0 := (hb1.block _ (iter_lt HT.out.b0)).trans HT.out.b0
  have hk1 := (hb1.block _ (iter_lt HT.out.b1)).trans HT.out.b1
  have c0 := one_cell hk0
  have c1 := one_cell hk1
  have HK2 := Lib.hid ((hb1.block _ (iter_lt HT.out.b2)).trans HT.out.b2)
  have HX1 := Lib.hid (HT.out.hx.below hb1)
  have HY1 := Lib.hid (HT.out.hy.below hb1)
  have HB1 := Lib.hid (bt HT.out.below hb1)
  clear hb1 hk0 hk1
  go_wp2_with fail
  refine (HS.out w1 HX1.out HY1.out (HK.out.below HB1.out HK.out.lt)).mono ?_
  rintro e w5 ⟨g5, rfl, hi5, hb5, hfr⟩
  have hk5 := (hb5.block (w.heap.size + 1 + 1) (iter_lt HK2.out)).trans HK2.out
  have c2 := one_cell hk5
  have f2 := one_free hk5 0
  have HK5 := Lib.hid hk5
  have HI5 := Lib.hid hi5
  have HB5 := Lib.hid hb5
  clear hk5 hi5 hb5 c0 c1
  go_wp2_with fail
  have k0 := one_set (u := .pointer (some ⟨g5, 0, none⟩)) HK5.out
  have d0 := one_cell k0
  exact bodyPost_ret (v := .agg #[.pointer (some ⟨g5, 0, none⟩)]) (by simp [results, Tryz.results72, go_sem, d0]) rfl
    ⟨g5, rfl, HI5.out.store HK5.out (by decide) (by decide) _, (bt HB1.out HB5.out).setCell (p := ⟨w.heap.size + 1 + 1, 0, none⟩) (by show w.heap.size ≤ w.heap.size + 1 + 1; omega) _, Nat.le_trans HB1.out.size hfr⟩

set_option maxRecDepth 100000 in
set_option maxHeartbeats 2000000 in
theorem uintMod_panic (gx gy : Nat) (x : Int) (w : World) (hx : IntAt w gx x) (hy : IntAt w gy 0) :
    Calls Tryz.prog 72 #[.agg #[.pointer (some ⟨gx, 0, none⟩)], .agg #[.pointer (some ⟨gy, 0, none⟩)]] w (PanicPost w) := by
  have hT := twoBox w gx gy x 0 hx hy
  have HT := Lib.hid hT
  have HZ : Hid (∀ (w2 : World), IntAt w2 gy 0 → Calls Tryz.prog 144 #[.agg #[.pointer (some ⟨gy, 0, none⟩)]] w2 fun e w' => e = .returned (.bool true) ∧ Below w2.heap.size w2 w') := by
    refine Lib.hid fun w2 h => (isZero_walk gy 0 w2 h (by omega)).mono ?_
    rintro e w' ⟨rfl, h2⟩
    exact ⟨rfl, h2⟩
  clear hx hy hT
  go_enter Tryz.func72, Tryz.ntmps72
  go_upto_region 1 with fail
  obtain ⟨wa, hwa⟩ : ∃ wa, ((w.alloc (.cells #[.pointer (some ⟨gx, 0, none⟩)] 64)).alloc (.cells #[.pointer (some ⟨gy, 0, none⟩)] 64)).alloc (.cells #[.pointer none] 64) = wa := ⟨_, rfl⟩
  rw [hwa] at HT ⊢
  have c1 : wa.cell? ⟨w.heap.size + 1, 0, none⟩ = some (.pointer (some ⟨gy, 0, none⟩)) := one_cell HT.out.b1
  clear hwa
  go_wp2_with fail
  refine (HZ.out wa HT.out.hy).mono ?_
  rintro e w1 ⟨rfl, hb1⟩
  have HB1 := Lib.hid (bt HT.out.below hb1)
  clear hb1
  go_wp2_with fail
  have hp : PanicPost w (.panicked [{ v := .iface 9 (.string ⟨#[100, 105, 118, 105, 115, 105, 111, 110, 45, 98, 121, 45, 122, 101, 114, 111]⟩), recovered := false }]) w1 := ⟨_, _, rfl, HB1.out⟩
  exact ⟨rfl, hp⟩
end Go.Proofs.YtiohlcfdoleooaaGreatDoor
