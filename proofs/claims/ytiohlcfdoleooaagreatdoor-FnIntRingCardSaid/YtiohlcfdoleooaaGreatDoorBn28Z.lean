/-
  Int.Mod of any two numbers.
-/
import Derived.Test.YtiohlcfdoleooaaGreatDoorBn27Z
import Derived.Test.YtiohlcfdoleooaaGreatDoorBn30Z
import Derived.Test.YtiohlcfdoleooaaGreatDoorIntArithZ
namespace Go.Proofs.YtiohlcfdoleooaaGreatDoor
open Go.RowKit

def modZ (x y : Int) : Int := if x.tmod y < 0 then x.tmod y + y.natAbs else x.tmod y

set_option maxRecDepth 100000 in
set_option maxHeartbeats 4000000 in
theorem intModNot_walk (gz gx gy : Nat) (x y : Int) (w : World) (hz : IntNew w gz) (hx : IntAt w gx x) (hy : IntAt w gy y) (hgx : gx ≠ gz) (hgy : gy ≠ gz) (hk : DivIs w) (hlx : (wds x.natAbs).length ≤ 900) (hly : (wds y.natAbs).length ≤ 4) (hy0 : y ≠ 0) (hx0 : ¬ x.tmod y < 0) :
    Calls Tryz.prog 186 #[.pointer (some ⟨gz, 0, none⟩), .pointer (some ⟨gx, 0, none⟩), .pointer (some ⟨gy, 0, none⟩)] w fun e w' => e = .returned (.pointer (some ⟨gz, 0, none⟩)) ∧ IntAt w' gz (x.tmod y) ∧ Ext (fun b => b = gz) w w' := by
  have hz' := hz
  obtain ⟨B, d, hky, i2, i3, i4⟩ := hy
  have hnq : ∀ n, (binOp BinOp.eql 62 (.pointer (some ⟨gz, 0, none⟩)) (.pointer (some ⟨gy, 0, none⟩))).run Tryz.prog (w.drewN n) = .ok (.bool false) (w.drewN n) := fun n => (int_neq (w := w.drewN n) hgy hz hky).2
  have c1 := num_cell1 hz
  have e1 := num_cell1 hky
  obtain ⟨ly, hly2⟩ : ∃ l, (wds y.natAbs).length = l := ⟨_, rfl⟩
  rw [hly2] at e1
  have HAL := Lib.hid (fun (w2 : World) => aliasNil_walk B ly d w2)
  have HQR : Hid (∀ n, Calls Tryz.prog 210 #[.pointer (some ⟨w.heap.size, 0, none⟩), .pointer (some ⟨gx, 0, none⟩), .pointer (some ⟨gy, 0, none⟩), .pointer (some ⟨gz, 0, none⟩)] ((w.drewN n).alloc (.cells #[.bool false, .slice none 0 0] 101)) fun e w' => e = .returned (.tuple #[.pointer (some ⟨w.heap.size, 0, none⟩), .pointer (some ⟨gz, 0, none⟩)]) ∧ IntAt w' gz (x.tmod y) ∧ Ext (fun b => b = gz) w w') := by
    refine Lib.hid fun n => ?_
    have hb : Below w.heap.size w ((w.drewN n).alloc (.cells #[.bool false, .slice none 0 0] 101)) := (below_drewN (Below.refl _ _) n).trans (below_a1 (w.drewN n) _)
    have lz := iter_lt hz
    have lx := hx.lt
    have ly' := iter_lt hky
    refine (intQuoRem_walk w.heap.size gz gx gy x y _ (heap_here (w.drewN n) _) ((hb.block gz lz).trans hz) (hx.below hb) (IntAt.below (w := w) ⟨B, d, hky, i2, i3, i4⟩ hb) (by omega) (by omega) (by omega) hgx hgy (hk.below hb hk.lt) hlx hly hy0).mono ?_
    rintro e w' ⟨rfl, _, hi, he⟩
    refine ⟨rfl, hi, ?_⟩
    have h2 : Ext (fun b => b = w.heap.size ∨ b = gz) w w' := (((Ext.refl _ w).drewN n).alloc _).trans he
    exact h2.mono fun k hk hd => by rcases hd with h | h; exact absurd h (Nat.ne_of_lt hk); exact h
  have hr0 : decide (x.tmod y < 0) = false := decide_eq_false hx0
  have HR0 := Lib.hid hr0
  clear hz hx hky i4 hz' hr0 hly2 hk
  go_enter Tryz.func186, Tryz.ntmps186
  go_wp2_with fail
  go_quiet ((go_at_call 209; exact Calls.quiet_of (HAL.out _)))
  go_wp2_with fail
  refine (HQR.out _).mono ?_
  rintro e w1 ⟨rfl, hi, he⟩
  obtain ⟨A, c, hkz, j2, j3, j4⟩ := hi
  have d0 := num_cell0 hkz
  rw [HR0.out] at d0 hkz
  have HI := Lib.hid (show IntAt w1 gz (x.tmod y) from ⟨A, c, by rw [HR0.out]; exact hkz, j2, j3, j4⟩)
  have HE := Lib.hid he
  clear hkz j4 he c1 e1 hnq
  go_wp2_with fail
  go_ret
  exact ⟨rfl, HI.out, HE.out⟩

set_option maxRecDepth 100000 in
set_option maxHeartbeats 4000000 in
theorem intModNeg_walk (gz gx gy : Nat) (x y : Int) (w : World) (hz : IntNew w gz) (hx : IntAt w gx x) (hy : IntAt w gy y) (hgx : gx ≠ gz) (hgy : gy ≠ gz) (hk : DivIs w) (hlx : (wds x.natAbs).length ≤ 900) (hly : (wds y.natAbs).length ≤ 4) (hy0 : y ≠ 0) (hx0 : x.tmod y < 0) :
    Calls Tryz.prog 186 #[.pointer (some ⟨gz, 0, none⟩), .pointer (some ⟨gx, 0, none⟩), .pointer (some ⟨gy, 0, none⟩)] w fun e w' => e = .returned (.pointer (some ⟨gz, 0, none⟩)) ∧ IntAt w' gz (x.tmod y + y.natAbs) ∧ Ext (fun b => b = gz) w w' := by
  have hz' := hz
  have hlow := hy.toLow hy0 hz
  obtain ⟨B, d, hky, i2, i3, i4⟩ := hy
  have hnq : ∀ n, (binOp BinOp.eql 62 (.pointer (some ⟨gz, 0, none⟩)) (.pointer (some ⟨gy, 0, none⟩))).run Tryz.prog (w.drewN n) = .ok (.bool false) (w.drewN n) := fun n => (int_neq (w := w.drewN n) hgy hz hky).2
  have c1 := num_cell1 hz
  have e1 := num_cell1 hky
  obtain ⟨ly, hly2⟩ : ∃ l, (wds y.natAbs).length = l := ⟨_, rfl⟩
  rw [hly2] at e1
  have HAL := Lib.hid (fun (w2 : World) => aliasNil_walk B ly d w2)
  have HQR : Hid (∀ n, Calls Tryz.prog 210 #[.pointer (some ⟨w.heap.size, 0, none⟩), .pointer (some ⟨gx, 0, none⟩), .pointer (some ⟨gy, 0, none⟩), .pointer (some ⟨gz, 0, none⟩)] ((w.drewN n).alloc (.cells #[.bool false, .slice none 0 0] 101)) fun e w' => e = .returned (.tuple #[.pointer (some ⟨w.heap.size, 0, none⟩), .pointer (some ⟨gz, 0, none⟩)]) ∧ IntOwn w.heap.size w' gz (x.tmod y) ∧ Ext (fun b => b = gz) w w') := by
    refine Lib.hid fun n => ?_
    have hb : Below w.heap.size w ((w.drewN n).alloc (.cells #[.bool false, .slice none 0 0] 101)) := (below_drewN (Below.refl _ _) n).trans (below_a1 (w.drewN n) _)
    have lz := iter_lt hz
    have lx := hx.lt
    have ly' := iter_lt hky
    refine (intQuoRemOwn_walk w.heap.size gz gx gy x y _ (heap_here (w.drewN n) _) ((hb.block gz lz).trans hz) (hx.below hb) (IntAt.below (w := w) ⟨B, d, hky, i2, i3, i4⟩ hb) (by omega) (by omega) (by omega) hgx hgy (hk.below hb hk.lt) hlx hly hy0).mono ?_
    rintro e w' ⟨rfl, _, hi, he⟩
    obtain ⟨A9, c9, k1, k2⟩ := hi
    refine ⟨rfl, ⟨A9, c9, k1, own_low k2 (by rw [heap_size_alloc]; exact Nat.le_succ _)⟩, ?_⟩
    have h2 : Ext (fun b => b = w.heap.size ∨ b = gz) w w' := (((Ext.refl _ w).drewN n).alloc _).trans he
    exact h2.mono fun k hk hd => by rcases hd with h | h; exact absurd h (Nat.ne_of_lt hk); exact h
  have HR0 := Lib.hid hx0
  have HAB : Hid ((x.tmod y).natAbs < y.natAbs) := Lib.hid (by have h1 := Int.natAbs_tmod x y; rw [h1]; exact Nat.mod_lt _ (by omega))
  have HLOW := Lib.hid hlow
  have HGZ := Lib.hid (iter_lt hz)
  have HGY := Lib.hid (iter_lt hky)
  have HNE := Lib.hid hgy
  have HLY := Lib.hid (show (wds y.natAbs).length ≤ 70000 by omega)
  have HYN := Lib.hid hy0
  have HKY := Lib.hid hky
  clear hz hx hky i4 hz' hlow hly2 hk hx0 hy0 hgx
  go_enter Tryz.func186, Tryz.ntmps186
  go_wp2_with fail
  go_quiet ((go_at_call 209; exact Calls.quiet_of (HAL.out _)))
  go_wp2_with fail
  refine (HQR.out _).mono ?_
  rintro e w1 ⟨rfl, hi, he⟩
  have hl1 := HLOW.out.ext he (fun b h => .inl h) HNE.out HGY.out (Nat.le_refl _)
  obtain ⟨A9, c9, hkz, ho⟩ := hi
  have d0 := num_cell0 hkz
  rw [decide_eq_true HR0.out] at d0
  have p0 := num_cell0 ((he.block gy HGY.out HNE.out).trans HKY.out)
  have HI := Lib.hid (show IntOwn w.heap.size w1 gz (x.tmod y) from ⟨A9, c9, hkz, ho⟩)
  have HE := Lib.hid he
  have HL1 := Lib.hid hl1
  clear hkz ho he hl1 c1 e1 hnq
  by_cases hyn : y < 0
  · have HS := Lib.hid (intSubIn_walk w.heap.size gz gy (x.tmod y) y w1 HI.out HL1.out HGZ.out HE.out.size HLY.out HR0.out hyn HAB.out)
    have HYN2 := Lib.hid hyn
    rw [decide_eq_true hyn] at p0
    clear hyn
    go_wp2_with fail
    refine HS.out.mono ?_
    rintro e w2 ⟨rfl, hi2, he2⟩
    have hv : x.tmod y - y = x.tmod y + y.natAbs := by have := HYN2.out; omega
    rw [hv] at hi2
    have HI2 := Lib.hid hi2
    have HE2 := Lib.hid (HE.out.trans' he2 (fun i hi hd => by omega))
    clear hi2 he2 d0 p0
    go_wp2_with fail
    go_ret
    exact ⟨rfl, HI2.out, HE2.out⟩
  · have HS := Lib.hid (intAddIn_walk w.heap.size gz gy (x.tmod y) y w1 HI.out HL1.out HGZ.out HE.out.size HLY.out HR0.out (by have := HYN.out; omega) HAB.out)
    have HYN2 := Lib.hid hyn
    rw [decide_eq_false hyn] at p0
    clear hyn
    go_wp2_with fail
    refine HS.out.mono ?_
    rintro e w2 ⟨rfl, hi2, he2⟩
    have hv : x.tmod y + y = x.tmod y + y.natAbs := by have := HYN2.out; omega
    rw [hv] at hi2
    have HI2 := Lib.hid hi2
    have HE2 := Lib.hid (HE.out.trans' he2 (fun i hi hd => by omega))
    clear hi2 he2 d0 p0
    go_wp2_with fail
    go_ret
    exact ⟨rfl, HI2.out, HE2.out⟩

theorem intModAll_walk (gz gx gy : Nat) (x y : Int) (w : World) (hz : IntNew w gz) (hx : IntAt w gx x) (hy : IntAt w gy y) (hgx : gx ≠ gz) (hgy : gy ≠ gz) (hk : DivIs w) (hlx : (wds x.natAbs).length ≤ 900) (hly : (wds y.natAbs).length ≤ 4) (hy0 : y ≠ 0) :
    Calls Tryz.prog 186 #[.pointer (some ⟨gz, 0, none⟩), .pointer (some ⟨gx, 0, none⟩), .pointer (some ⟨gy, 0, none⟩)] w fun e w' => e = .returned (.pointer (some ⟨gz, 0, none⟩)) ∧ IntAt w' gz (modZ x y) ∧ Ext (fun b => b = gz) w w' := by
  unfold modZ
  by_cases h : x.tmod y < 0
  · rw [if_pos h]
    exact intModNeg_walk gz gx gy x y w hz hx hy hgx hgy hk hlx hly hy0 h
  · rw [if_neg h]
    exact intModNot_walk gz gx gy x y w hz hx hy hgx hgy hk hlx hly hy0 h
end Go.Proofs.YtiohlcfdoleooaaGreatDoor

/-
  mod, SafeMod and Int.Mod of cosmosmath.
-/
namespace Go.Proofs.YtiohlcfdoleooaaGreatDoor
open Go.RowKit

set_option maxRecDepth 100000 in
set_option maxHeartbeats 1000000 in
theorem csign2_walk (g : Nat) (z : Int) (w : World) (hz : IntAt w g z) :
    Calls Tryz.prog 166 #[.agg #[.pointer (some ⟨g, 0, none⟩)]] w fun e w' => e = .returned (.int .i64 (sgnC z)) ∧ Below w.heap.size w w' := by
  have HI := Lib.hid (intSign_walk g z _ (hz.below (below_a1 w (.cells #[.pointer (some ⟨g, 0, none⟩)] 80))))
  clear hz
  go_enter Tryz.func166, Tryz.ntmps166
  go_wp2_with fail
  refine HI.out.mono ?_
  rintro e w1 ⟨rfl, rfl⟩
  go_wp2_with fail
  go_ret
  exact ⟨rfl, below_a1 _ _⟩

theorem modI_fits {x y : Int} (hy : y ≠ 0) (oy : overI y = false) : overI (modZ x y) = false := by
  have h1 := overI_abs oy
  have hlt : (x.tmod y).natAbs < y.natAbs := by have h1 := Int.natAbs_tmod x y; rw [h1]; exact Nat.mod_lt _ (by omega)
  have hle : (modZ x y).natAbs ≤ y.natAbs := by unfold modZ; split <;> omega
  unfold overI
  refine decide_eq_false ?_
  have := (natLen_lt_iff (modZ x y).natAbs 256).2 (by omega)
  omega

set_option maxRecDepth 100000 in
set_option maxHeartbeats 2000000 in
theorem cmod2_walk (gx gy : Nat) (x y : Int) (w : World) (hx : IntAt w gx x) (hy : IntAt w gy y) (_hne : gy ≠ gx) (hk : DivIs w) (hy0 : y ≠ 0) (ox : overI x = false) (oy : overI y = false) :
    Calls Tryz.prog 145 #[.pointer (some ⟨gx, 0, none⟩), .pointer (some ⟨gy, 0, none⟩)] w fun e w' => ∃ g, e = .returned (.pointer (some ⟨g, 0, none⟩)) ∧ IntAt w' g (modZ x y) ∧ Below w.heap.size w w' ∧ w.heap.size ≤ g := by
  have hb := below_a1 w (.cells #[.bool false, .slice none 0 0] 101)
  have HQ := Lib.hid (intModAll_walk w.heap.size gx gy x y _ (heap_here w _) (hx.below hb) (hy.below hb) (Nat.ne_of_lt hx.lt) (Nat.ne_of_lt hy.lt) (hk.below hb hk.lt) (by have := overI_w4 ox; omega) (overI_w4 oy) hy0)
  have HB := Lib.hid hb
  clear hx hy hk hb
  go_enter Tryz.func145, Tryz.ntmps145
  go_wp2_with fail
  refine HQ.out.mono ?_
  rintro e w1 ⟨rfl, hi, hx1⟩
  have HI := Lib.hid hi
  have HB1 := Lib.hid (HB.out.trans (hx1.below (by rw [heap_size_alloc]; omega) (fun k hk => by omega)))
  clear hi hx1
  go_wp2_with fail
  go_ret
  exact ⟨w.heap.size, rfl, HI.out, HB1.out, Nat.le_refl _⟩
set_option maxRecDepth 100000 in
set_option maxHeartbeats 2000000 in
theorem safeMod2_walk (gx gy : Nat) (x y : Int) (w : World) (hx : IntAt w gx x) (hy : IntAt w gy y) (hne : gy ≠ gx) (hk : DivIs w) (hy0 : y ≠ 0) (ox : overI x = false) (oy : overI y = false) :
    Calls Tryz.prog 110 #[.agg #[.pointer (some ⟨gx, 0, none⟩)], .agg #[.pointer (some ⟨gy, 0, none⟩)]] w (SafePost w (modZ x y)) := by
  have hT := twoBoxI w gx gy x y hx hy
  have HT := Lib.hid hT
  have HSG := Lib.hid (fun (w2 : World) (h : IntAt w2 gy y) => csign2_walk gy y w2 h)
  have HS := Lib.hid (fun (w2 : World) (h2 : IntAt w2 gx x) (h3 : IntAt w2 gy y) (h4 : DivIs w2) => cmod2_walk gx gy x y w2 h2 h3 hne h4 hy0 ox oy)
  have HK := Lib.hid hk
  have hsn : (sgnC y == 0) = false := beq_eq_false_iff_ne.2 (by unfold sgnC; split <;> (try split) <;> omega)
  obtain ⟨s, hse⟩ : ∃ s, sgnC y = s := ⟨_, rfl⟩
  rw [hse] at HSG hsn
  clear hx hy hT ox oy hk hy0 hse
  go_enter Tryz.func110, Tryz.ntmps110
  go_upto_region 1 with fail
  obtain ⟨wa, hwa⟩ : ∃ wa, ((w.alloc (.cells #[.pointer (some ⟨gx, 0, none⟩)] 80)).alloc (.cells #[.pointer (some ⟨gy, 0, none⟩)] 80)).alloc (.cells #[.pointer none] 80) = wa := ⟨_, rfl⟩
  rw [hwa] at HT ⊢
  have c0 := one_cell HT.out.b0
  have c1 := one_cell HT.out.b1
  clear hwa
  go_wp2_with fail
  refine (HSG.out wa HT.out.hy).mono ?_
  rintro e w3 ⟨rfl, h3⟩
  have HB3 := Lib.hid (bt HT.out.below h3)
  have HK3 := Lib.hid ((h3.block _ (iter_lt HT.out.b2)).trans HT.out.b2)
  have HX3 := Lib.hid (HT.out.hx.below h3)
  have HY3 := Lib.hid (HT.out.hy.below h3)
  have k0 := one_cell ((h3.block _ (iter_lt HT.out.b0)).trans HT.out.b0)
  have k1 := one_cell ((h3.block _ (iter_lt HT.out.b1)).trans HT.out.b1)
  clear h3 c0 c1
  go_wp2_with fail
  refine (HS.out w3 HX3.out HY3.out (HK.out.below HB3.out HK.out.lt)).mono ?_
  rintro e w1 ⟨g1, rfl, hi1, hb1, hf1⟩
  have hk1 := (hb1.block (w.heap.size + 1 + 1) (iter_lt HK3.out)).trans HK3.out
  have e1 := one_cell hk1
  have f1 := one_free hk1 0
  have hs1 : w.heap.size ≤ g1 := Nat.le_trans HB3.out.size hf1
  have HI1 := Lib.hid hi1
  have HK1 := Lib.hid hk1
  have HB1 := Lib.hid (bt HB3.out hb1)
  clear hk1 hi1 hb1 hf1 k0 k1
  go_wp2_with fail
  have k0 := one_set (u := .pointer (some ⟨g1, 0, none⟩)) HK1.out
  have d0 := one_cell k0
  exact bodyPost_ret (v := .tuple #[.agg #[.pointer (some ⟨g1, 0, none⟩)], .nilIface]) (by simp [results, Tryz.results110, go_sem, d0]) rfl
    ⟨g1, rfl, HI1.out.store HK1.out (by decide) (by decide) _, HB1.out.setCell (p := ⟨w.heap.size + 1 + 1, 0, none⟩) (by show w.heap.size ≤ w.heap.size + 1 + 1; omega) _, hs1⟩

set_option maxRecDepth 100000 in
set_option maxHeartbeats 2000000 in
theorem safeMod2_zero (gx gy : Nat) (x : Int) (p q : Addr) (w : World) (hx : IntAt w gx x) (hy : IntAt w gy 0) (he : ErrsAre w p q) :
    Calls Tryz.prog 110 #[.agg #[.pointer (some ⟨gx, 0, none⟩)], .agg #[.pointer (some ⟨gy, 0, none⟩)]] w (SafeNo w) := by
  have hT := twoBoxI w gx gy x 0 hx hy
  have HT := Lib.hid hT
  have HSG : Hid (∀ (w2 : World), IntAt w2 gy 0 → Calls Tryz.prog 166 #[.agg #[.pointer (some ⟨gy, 0, none⟩)]] w2 fun e w' => e = .returned (.int .i64 0) ∧ Below w2.heap.size w2 w') := Lib.hid fun w2 h => csign2_walk gy 0 w2 h
  have HE := Lib.hid he
  clear hx hy hT he
  go_enter Tryz.func110, Tryz.ntmps110
  go_upto_region 1 with fail
  obtain ⟨wa, hwa⟩ : ∃ wa, ((w.alloc (.cells #[.pointer (some ⟨gx, 0, none⟩)] 80)).alloc (.cells #[.pointer (some ⟨gy, 0, none⟩)] 80)).alloc (.cells #[.pointer none] 80) = wa := ⟨_, rfl⟩
  rw [hwa] at HT ⊢
  have c1 := one_cell HT.out.b1
  have c2 := one_cell HT.out.b2
  have f2 := one_free HT.out.b2 0
  clear hwa
  go_wp2_with fail
  refine (HSG.out wa HT.out.hy).mono ?_
  rintro e w3 ⟨rfl, h3⟩
  have HB3 := Lib.hid (bt HT.out.below h3)
  have HK3 := Lib.hid ((h3.block _ (iter_lt HT.out.b2)).trans HT.out.b2)
  have c3 := one_cell HK3.out
  have f3 := one_free HK3.out 0
  clear h3 c1 c2 f2
  have e3 := (HE.out.below HB3.out).2
  go_wp2_with fail
  go_region
  all_goals
    go_wp2_with fail
    have k0 := one_set (u := .pointer none) HK3.out
    have d0 := one_cell k0
    exact bodyPost_ret (v := .tuple #[.agg #[.pointer none], .iface 145 (.pointer (some q))]) (by simp [results, Tryz.results110, go_sem, d0]) rfl
      ⟨q, rfl, (HB3.out.setCell (p := ⟨w.heap.size + 1 + 1, 0, none⟩) (by show w.heap.size ≤ w.heap.size + 1 + 1; omega) _).drew⟩

set_option maxRecDepth 100000 in
set_option maxHeartbeats 2000000 in
theorem intMod2_walk (gx gy : Nat) (x y : Int) (w : World) (hx : IntAt w gx x) (hy : IntAt w gy y) (hne : gy ≠ gx) (hk : DivIs w) (hy0 : y ≠ 0) (ox : overI x = false) (oy : overI y = false) :
    Calls Tryz.prog 102 #[.agg #[.pointer (some ⟨gx, 0, none⟩)], .agg #[.pointer (some ⟨gy, 0, none⟩)]] w (MadePost w (modZ x y)) := by
  have hT := twoBoxI w gx gy x y hx hy
  have HS := Lib.hid (fun (w2 : World) (h2 : IntAt w2 gx x) (h3 : IntAt w2 gy y) (h4 : DivIs w2) => safeMod2_walk gx gy x y w2 h2 h3 hne h4 hy0 ox oy)
  have HK := Lib.hid hk
  have HT := Lib.hid hT
  clear hx hy hT ox oy hk hy0
  go_enter Tryz.func102, Tryz.ntmps102
  go_upto_region 1 with fail
  obtain ⟨wa, hwa⟩ : ∃ wa, ((w.alloc (.cells #[.pointer (some ⟨gx, 0, none⟩)] 80)).alloc (.cells #[.pointer (some ⟨gy, 0, none⟩)] 80)).alloc (.cells #[.pointer none] 80) = wa := ⟨_, rfl⟩
  rw [hwa] at HT ⊢
  have c0 := one_cell HT.out.b0
  have c1 := one_cell HT.out.b1
  clear hwa
  go_wp2_with fail
  refine (HS.out wa HT.out.hx HT.out.hy (HK.out.below HT.out.below HK.out.lt)).mono ?_
  rintro e w1 ⟨g1, rfl, hi1, hb1, hf1⟩
  have hk1 := (hb1.block (w.heap.size + 1 + 1) (iter_lt HT.out.b2)).trans HT.out.b2
  have e1 : ∀ o, (w1.alloc o).cell? ⟨w.heap.size + 1 + 1, 0, none⟩ = some (.pointer none) := fun o => one_cell (heap_old hk1)
  have f1 : ∀ o, (w1.alloc o).frozen? ⟨w.heap.size + 1 + 1, 0, none⟩ = false := fun o => one_free (heap_old hk1) 0
  have hs1 : w.heap.size ≤ g1 := Nat.le_trans HT.out.below.size hf1
  have HI1 := Lib.hid hi1
  have HK1 := Lib.hid hk1
  have HB1 := Lib.hid (bt HT.out.below hb1)
  clear hk1 hi1 hb1 hf1 c0 c1
  go_wp2_with fail
  have k0 := one_set (u := .pointer (some ⟨g1, 0, none⟩)) (heap_old (o := .cells #[.pointer (some ⟨g1, 0, none⟩)] 80) HK1.out)
  have d0 := one_cell k0
  exact bodyPost_ret (v := .agg #[.pointer (some ⟨g1, 0, none⟩)]) (by simp [results, Tryz.results102, go_sem, d0]) rfl
    ⟨g1, rfl, (HI1.out.below (below_a1 _ _)).store (heap_old HK1.out) (by decide) (by decide) _, (bt HB1.out (below_a1 _ _)).setCell (p := ⟨w.heap.size + 1 + 1, 0, none⟩) (by show w.heap.size ≤ w.heap.size + 1 + 1; omega) _, hs1⟩

set_option maxRecDepth 100000 in
set_option maxHeartbeats 2000000 in
theorem intMod2_panic (gx gy : Nat) (x y : Int) (p q : Addr) (w : World) (hx : IntAt w gx x) (hy : IntAt w gy y) (he : ErrsAre w p q) (hy0 : y = 0) :
    Calls Tryz.prog 102 #[.agg #[.pointer (some ⟨gx, 0, none⟩)], .agg #[.pointer (some ⟨gy, 0, none⟩)]] w (PanicPost w) := by
  have hT := twoBoxI w gx gy x y hx hy
  have HS := Lib.hid (fun (w2 : World) (h2 : IntAt w2 gx x) (h3 : IntAt w2 gy y) (h5 : ErrsAre w2 p q) => safeMod2_zero gx gy x p q w2 h2 (by rw [hy0] at h3; exact h3) h5)
  have HE := Lib.hid he
  have HT := Lib.hid hT
  clear hx hy hT he hy0
  go_enter Tryz.func102, Tryz.ntmps102
  go_upto_region 1 with fail
  obtain ⟨wa, hwa⟩ : ∃ wa, ((w.alloc (.cells #[.pointer (some ⟨gx, 0, none⟩)] 80)).alloc (.cells #[.pointer (some ⟨gy, 0, none⟩)] 80)).alloc (.cells #[.pointer none] 80) = wa := ⟨_, rfl⟩
  rw [hwa] at HT ⊢
  have c0 := one_cell HT.out.b0
  have c1 := one_cell HT.out.b1
  clear hwa
  go_wp2_with fail
  refine (HS.out wa HT.out.hx HT.out.hy (HE.out.below HT.out.below)).mono ?_
  rintro e w1 ⟨p1, rfl, hb1⟩
  have HB1 := Lib.hid (bt (bt HT.out.below hb1) (below_a1 w1 (.cells #[.pointer none] 80)))
  clear hb1 c0 c1
  go_wp2_with fail
  have hp : PanicPost w (.panicked [{ v := .iface 145 (.pointer (some p1)), recovered := false }]) (w1.alloc (.cells #[.pointer none] 80)) := ⟨_, _, rfl, HB1.out⟩
  exact ⟨rfl, hp⟩
end Go.Proofs.YtiohlcfdoleooaaGreatDoor
