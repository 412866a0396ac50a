/-
  (*big.Int).Cmp of any two numbers; Int.Add, Int.Sub into a new number, of any signs.
-/
import Derived.Test.YtiohlcfdoleooaaGreatDoorBn22Z
import Derived.Test.YtiohlcfdoleooaaGreatDoorBn01Z
import Derived.Test.YtiohlcfdoleooaaGreatDoorBn26Z
import Derived.Test.YtiohlcfdoleooaaGreatDoorIntDoZ
import Derived.Test.YtiohlcfdoleooaaGreatDoorBn29Z
import Derived.Deep.RegionHeld3
namespace Go.Proofs.YtiohlcfdoleooaaGreatDoor
open Go.RowKit

theorem intAddAll_walk (gz gx gy : Nat) (x y : Int) (w : World) (hz : IntNew w gz) (hx : IntAt w gx x) (hy : IntAt w gy y) (hlx : (wds x.natAbs).length ≤ 70000) (hly : (wds y.natAbs).length ≤ 70000) :
    Calls Tryz.prog 139 #[.pointer (some ⟨gz, 0, none⟩), .pointer (some ⟨gx, 0, none⟩), .pointer (some ⟨gy, 0, none⟩)] w fun e w' => e = .returned (.pointer (some ⟨gz, 0, none⟩)) ∧ IntAt w' gz (x + y) ∧ Ext (fun b => b = gz) w w' := by
  by_cases hs : decide (x < 0) = decide (y < 0)
  · exact intAddSame_walk gz gx gy x y w hz hx hy hlx hly hs
  · have hs2 : decide (y < 0) = !decide (x < 0) := by revert hs; cases decide (x < 0) <;> cases decide (y < 0) <;> simp
    by_cases hle : y.natAbs ≤ x.natAbs
    · exact intAddGe_walk gz gx gy x y w hz hx hy hlx hly hs2 hle
    · exact intAddLt_walk gz gx gy x y w hz hx hy hlx hly hs2 (by omega)
theorem intSubAll_walk (gz gx gy : Nat) (x y : Int) (w : World) (hz : IntNew w gz) (hx : IntAt w gx x) (hy : IntAt w gy y) (hlx : (wds x.natAbs).length ≤ 70000) (hly : (wds y.natAbs).length ≤ 70000) :
    Calls Tryz.prog 141 #[.pointer (some ⟨gz, 0, none⟩), .pointer (some ⟨gx, 0, none⟩), .pointer (some ⟨gy, 0, none⟩)] w fun e w' => e = .returned (.pointer (some ⟨gz, 0, none⟩)) ∧ IntAt w' gz (x - y) ∧ Ext (fun b => b = gz) w w' := by
  by_cases hs : decide (x < 0) = decide (y < 0)
  · by_cases hle : y.natAbs ≤ x.natAbs
    · exact intSubGe_walk gz gx gy x y w hz hx hy hlx hly hs hle
    · exact intSubLt_walk gz gx gy x y w hz hx hy hlx hly hs (by omega)
  · have hs2 : decide (y < 0) = !decide (x < 0) := by revert hs; cases decide (x < 0) <;> cases decide (y < 0) <;> simp
    exact intSubOther_walk gz gx gy x y w hz hx hy hlx hly hs2

theorem sgnC_minus (z : Int) : sgnC (-z) = -sgnC z := by
  unfold sgnC
  by_cases h1 : z < 0
  · rw [if_pos h1, if_neg (by omega), if_neg (by omega)]; rfl
  · by_cases h2 : z = 0
    · subst h2; rfl
    · rw [if_neg h1, if_neg h2, if_pos (by omega)]
theorem sgnC_small (z : Int) : -1 ≤ sgnC z ∧ sgnC z ≤ 1 := by
  unfold sgnC
  split
  · omega
  · split <;> omega

set_option maxRecDepth 100000 in
set_option maxHeartbeats 4000000 in
theorem intCmpAll_walk (gx gy : Nat) (x y : Int) (w : World) (hx : IntAt w gx x) (hy : IntAt w gy y) (hne : gy ≠ gx) :
    Calls Tryz.prog 187 #[.pointer (some ⟨gx, 0, none⟩), .pointer (some ⟨gy, 0, none⟩)] w fun e w' => e = .returned (.int .i64 (sgnC (x - y))) ∧ Below w.heap.size w w' := by
  by_cases px : x < 0
  · by_cases py : y < 0
    · obtain ⟨A, c, hkx, h2, h3, h4⟩ := hx
      obtain ⟨B, d, hky, i2, i3, i4⟩ := hy
      have hnq := (int_neq hne hkx hky).2
      have d0 := num_cell0 hkx
      have d1 := num_cell1 hkx
      have e0 := num_cell0 hky
      have e1 := num_cell1 hky
      rw [decide_eq_true px] at d0
      rw [decide_eq_true py] at e0
      have hs : -sgnC ((x.natAbs : Int) - y.natAbs) = sgnC (x - y) := by rw [← sgnC_minus]; congr 1; omega
      have hsm := sgnC_small ((x.natAbs : Int) - y.natAbs)
      obtain ⟨s, hss⟩ : ∃ s, sgnC (x - y) = s := ⟨_, rfl⟩
      obtain ⟨t, htt⟩ : ∃ t, sgnC ((x.natAbs : Int) - y.natAbs) = t := ⟨_, rfl⟩
      rw [hss, htt] at hs
      rw [hss]
      rw [htt] at hsm
      have ht1 : -1 ≤ t := hsm.1
      have ht2 : t ≤ 1 := hsm.2
      have hcw : ∀ (w2 : World) (_ : w2.heap = w.heap), _ := fun w2 hh => natCmp_walk x.natAbs y.natAbs A B c d w2 h2 i2 h3 i3 (h4.of_heap hh).rd (i4.of_heap hh).rd
      rw [htt] at hcw
      have HC := Lib.hid hcw
      have HS := Lib.hid hs
      have HCE := Lib.hid (fun (w2 : World) (hh : w2.heap = w.heap) (b o : Nat) => (cell_heap hh b o : w2.cell? ⟨b, o, none⟩ = w.cell? ⟨b, o, none⟩))
      clear h4 i4 hkx hky hcw hs hss htt hsm
      go_enter Tryz.func187, Tryz.ntmps187
      go_wp2_with fail
      go_quiet (fail)
      obtain ⟨w9, hw9⟩ : ∃ w9, w.drewN nq = w9 := ⟨_, rfl⟩
      have h9 : w9.heap = w.heap := by rw [← hw9]; rfl
      have b9 : Below w.heap.size w w9 := by rw [← hw9]; exact below_drewN (Below.refl _ _) _
      rw [hw9]
      rw [← HCE.out w9 h9 gx 0] at d0
      rw [← HCE.out w9 h9 gx 1] at d1
      rw [← HCE.out w9 h9 gy 0] at e0
      rw [← HCE.out w9 h9 gy 1] at e1
      have H9 := Lib.hid h9
      have B9 := Lib.hid b9
      clear h9 hw9 b9 hnq
      go_wp2_with fail
      go_quiet ((go_at_call 181; exact Calls.quiet_of (HC.out _ ((heap_drewN' _ _).trans H9.out))))
      go_wp2_with fail
      go_ret
      exact ⟨by rw [← HS.out]; rfl, below_drewN B9.out _⟩
    · obtain ⟨A, c, hkx, h2, h3, h4⟩ := hx
      obtain ⟨B, d, hky, i2, i3, i4⟩ := hy
      have hnq := (int_neq hne hkx hky).2
      have d0 := num_cell0 hkx
      have e0 := num_cell0 hky
      rw [decide_eq_true px] at d0
      rw [decide_eq_false py] at e0
      have hs : sgnC (x - y) = -1 := by unfold sgnC; rw [if_pos (by omega)]
      rw [hs]
      clear h4 i4 hkx hky hs h2 i2 h3 i3
      go_enter Tryz.func187, Tryz.ntmps187
      go_wp2_with fail
      go_quiet (fail)
      go_wp2_with fail
      go_ret
      exact ⟨rfl, below_drewN (Below.refl _ _) _⟩
  · by_cases py : y < 0
    · obtain ⟨A, c, hkx, h2, h3, h4⟩ := hx
      obtain ⟨B, d, hky, i2, i3, i4⟩ := hy
      have hnq := (int_neq hne hkx hky).2
      have d0 := num_cell0 hkx
      have e0 := num_cell0 hky
      rw [decide_eq_false px] at d0
      rw [decide_eq_true py] at e0
      have hs : sgnC (x - y) = 1 := by unfold sgnC; rw [if_neg (by omega), if_neg (by omega)]
      rw [hs]
      clear h4 i4 hkx hky hs h2 i2 h3 i3
      go_enter Tryz.func187, Tryz.ntmps187
      go_wp2_with fail
      go_quiet (fail)
      go_wp2_with fail
      go_ret
      exact ⟨rfl, below_drewN (Below.refl _ _) _⟩
    · exact intCmp_walk gx gy x y w hx hy hne px py
end Go.Proofs.YtiohlcfdoleooaaGreatDoor

/-
  laws.intAwake: true.
-/
namespace Go.Proofs.YtiohlcfdoleooaaGreatDoor
open Go.RowKit

theorem overI_fits (z : Int) : overI z = !decide (z.natAbs < 2 ^ 256) := by
  unfold overI
  by_cases h : z.natAbs < 2 ^ 256
  · rw [decide_eq_true h, decide_eq_false (by have := (natLen_lt_iff z.natAbs 256).2 h; omega)]; rfl
  · rw [decide_eq_false h, decide_eq_true (by
      refine Nat.lt_of_not_le fun hle => h ((natLen_lt_iff z.natAbs 256).1 hle))]; rfl
theorem readI2 : readOk [50] = true ∧ readZ [50] = 2 := by decide
theorem readI3 : readOk [51] = true ∧ readZ [51] = 3 := by decide
theorem readI7 : readOk [45, 55] = true ∧ readZ [45, 55] = -7 := by decide
theorem textI5 : zText 5 = [53] := by
  unfold zText numText
  rw [show (5 : Int).natAbs = 5 from rfl, toD_pos (by decide) (by decide), toD_zero]
  rfl
theorem textI7 : zText (-7) = [45, 55] := by
  unfold zText numText
  rw [show (-7 : Int).natAbs = 7 from rfl, toD_pos (by decide) (by decide), toD_zero]
  rfl
theorem overI_small {z : Int} (h : z.natAbs < 10) : overI z = false := by
  rw [overI_fits, decide_eq_true (Nat.lt_of_lt_of_le h (by decide))]; rfl

set_option maxRecDepth 100000 in
set_option maxHeartbeats 1000000 in
theorem intAwake_walk (p : Addr) (w : World) (hp : EofIs w p) (hleaf : LeafIs w) : Calls Tryz.prog 27 #[] w fun e w' => e = .returned (.bool true) ∧ Below w.heap.size w w' := by
  have hd := intDo_walk [50] [51] p w readI2.1 readI3.1 (by decide) (by decide) hp hleaf (by rw [readI2.2]; exact overI_small (by decide)) (by rw [readI3.2]; exact overI_small (by decide)) (by rw [readI2.2, readI3.2]; exact overI_small (by decide)) (by rw [readI2.2, readI3.2]; rfl)
  have hr : ∀ (w : World) (hp : EofIs w p) (hleaf : LeafIs w), _ := fun w hp hleaf => intRead_walk [45, 55] p w readI7.1 (by decide) hp hleaf
  have e2 : zText (readZ [50] + readZ [51]) = [53] := by rw [readI2.2, readI3.2]; exact textI5
  have e7 : readOutI [45, 55] = [45, 55] := by
    unfold readOutI
    rw [readI7.2, overI_small (by decide)]
    exact textI7
  have eo : overI (readZ [45, 55]) = false := by rw [readI7.2]; exact overI_small (by decide)
  rw [e2] at hd
  rw [e7, eo] at hr
  have HD := Lib.hid hd
  have HR := Lib.hid hr
  have HP := Lib.hid hp
  have HLF := Lib.hid hleaf
  clear hd hr hp hleaf e2 e7 eo
  go_enter Tryz.func27, Tryz.ntmps27
  go_wp2_with fail
  rw [S_lit, S_lit]
  refine HD.out.mono ?_
  rintro e w1 ⟨rfl, hb1⟩
  have HB1 := Lib.hid hb1
  clear hb1
  go_wp2_with fail
  rw [S_lit]
  refine (HR.out w1 (HP.out.below HB1.out) (HLF.out.below HB1.out)).mono ?_
  rintro e w2 ⟨rfl, hb2⟩
  have HB2 := Lib.hid hb2
  clear hb2
  go_wp2_with fail
  go_ret
  exact ⟨rfl, bt HB1.out HB2.out⟩
end Go.Proofs.YtiohlcfdoleooaaGreatDoor

/-
  MinInt, MaxInt of cosmosmath.
-/
namespace Go.Proofs.YtiohlcfdoleooaaGreatDoor
open Go.RowKit

/-- A new big.Int. -/
def BigPostF (w : World) (z : Int) (e : Ending) (w' : World) : Prop := ∃ g, e = .returned (.pointer (some ⟨g, 0, none⟩)) ∧ IntAt w' g z ∧ Below w.heap.size w w' ∧ w.heap.size ≤ g
set_option maxRecDepth 100000 in
set_option maxHeartbeats 4000000 in
theorem imax_walk (gx gy : Nat) (x y : Int) (w : World) (hx : IntAt w gx x) (hy : IntAt w gy y) (hne : gy ≠ gx) (hlx : (wds x.natAbs).length ≤ 80000) (hly : (wds y.natAbs).length ≤ 80000) :
    Calls Tryz.prog 147 #[.pointer (some ⟨gx, 0, none⟩), .pointer (some ⟨gy, 0, none⟩)] w (BigPostF w (maxZ x y)) := by
  have HC := Lib.hid (intCmpAll_walk gx gy x y w hx hy hne)
  have HX := Lib.hid hx
  have HY := Lib.hid hy
  have lx := hx.lt
  have ly := hy.lt
  clear hx hy
  by_cases hc : sgnC (x - y) = -1
  · have hb : (sgnC (x - y) == -1) = true := beq_iff_eq.2 hc
    have hz : maxZ x y = y := by unfold maxZ; rw [if_pos hc]
    rw [hz]
    obtain ⟨s, hs⟩ : ∃ s, sgnC (x - y) = s := ⟨_, rfl⟩
    rw [hs] at HC hb
    clear hc hs hz
    go_enter Tryz.func147, Tryz.ntmps147
    go_wp2_with fail
    refine HC.out.mono ?_
    rintro e w1 ⟨rfl, hb1⟩
    have hsz := hb1.size
    have HB1 := Lib.hid hb1
    clear hb1
    go_wp2_with fail
    refine (intSet_walk w1.heap.size gy y _ (heap_here _ _) ((HY.out.below HB1.out).below (below_a1 _ _)) (by omega) hly).mono ?_
    rintro e w2 ⟨rfl, hi2, hx2⟩
    have HI2 := Lib.hid hi2
    have HX2 := Lib.hid hx2
    clear hi2 hx2
    go_wp2_with fail
    go_ret
    exact ⟨_, rfl, HI2.out, (HB1.out.alloc HB1.out.size _).trans (HX2.out.below (by rw [heap_size_alloc]; omega) (fun k hk => by omega)), HB1.out.size⟩
  · have hb : (sgnC (x - y) == -1) = false := beq_eq_false_iff_ne.2 hc
    have hz : maxZ x y = x := by unfold maxZ; rw [if_neg hc]
    rw [hz]
    obtain ⟨s, hs⟩ : ∃ s, sgnC (x - y) = s := ⟨_, rfl⟩
    rw [hs] at HC hb
    clear hc hs hz
    go_enter Tryz.func147, Tryz.ntmps147
    go_wp2_with fail
    refine HC.out.mono ?_
    rintro e w1 ⟨rfl, hb1⟩
    have hsz := hb1.size
    have HB1 := Lib.hid hb1
    clear hb1
    go_wp2_with fail
    refine (intSet_walk w1.heap.size gx x _ (heap_here _ _) ((HX.out.below HB1.out).below (below_a1 _ _)) (by omega) hlx).mono ?_
    rintro e w2 ⟨rfl, hi2, hx2⟩
    have HI2 := Lib.hid hi2
    have HX2 := Lib.hid hx2
    clear hi2 hx2
    go_wp2_with fail
    go_ret
    exact ⟨_, rfl, HI2.out, (HB1.out.alloc HB1.out.size _).trans (HX2.out.below (by rw [heap_size_alloc]; omega) (fun k hk => by omega)), HB1.out.size⟩

set_option maxRecDepth 100000 in
set_option maxHeartbeats 4000000 in
theorem imin_walk (gx gy : Nat) (x y : Int) (w : World) (hx : IntAt w gx x) (hy : IntAt w gy y) (hne : gy ≠ gx) (hlx : (wds x.natAbs).length ≤ 80000) (hly : (wds y.natAbs).length ≤ 80000) :
    Calls Tryz.prog 146 #[.pointer (some ⟨gx, 0, none⟩), .pointer (some ⟨gy, 0, none⟩)] w (BigPostF w (minZ x y)) := by
  have HC := Lib.hid (intCmpAll_walk gx gy x y w hx hy hne)
  have HX := Lib.hid hx
  have HY := Lib.hid hy
  have lx := hx.lt
  have ly := hy.lt
  clear hx hy
  by_cases hc : sgnC (x - y) = 1
  · have hb : (sgnC (x - y) == 1) = true := beq_iff_eq.2 hc
    have hz : minZ x y = y := by unfold minZ; rw [if_pos hc]
    rw [hz]
    obtain ⟨s, hs⟩ : ∃ s, sgnC (x - y) = s := ⟨_, rfl⟩
    rw [hs] at HC hb
    clear hc hs hz
    go_enter Tryz.func146, Tryz.ntmps146
    go_wp2_with fail
    refine HC.out.mono ?_
    rintro e w1 ⟨rfl, hb1⟩
    have hsz := hb1.size
    have HB1 := Lib.hid hb1
    clear hb1
    go_wp2_with fail
    refine (intSet_walk w1.heap.size gy y _ (heap_here _ _) ((HY.out.below HB1.out).below (below_a1 _ _)) (by omega) hly).mono ?_
    rintro e w2 ⟨rfl, hi2, hx2⟩
    have HI2 := Lib.hid hi2
    have HX2 := Lib.hid hx2
    clear hi2 hx2
    go_wp2_with fail
    go_ret
    exact ⟨_, rfl, HI2.out, (HB1.out.alloc HB1.out.size _).trans (HX2.out.below (by rw [heap_size_alloc]; omega) (fun k hk => by omega)), HB1.out.size⟩
  · have hb : (sgnC (x - y) == 1) = false := beq_eq_false_iff_ne.2 hc
    have hz : minZ x y = x := by unfold minZ; rw [if_neg hc]
    rw [hz]
    obtain ⟨s, hs⟩ : ∃ s, sgnC (x - y) = s := ⟨_, rfl⟩
    rw [hs] at HC hb
    clear hc hs hz
    go_enter Tryz.func146, Tryz.ntmps146
    go_wp2_with fail
    refine HC.out.mono ?_
    rintro e w1 ⟨rfl, hb1⟩
    have hsz := hb1.size
    have HB1 := Lib.hid hb1
    clear hb1
    go_wp2_with fail
    refine (intSet_walk w1.heap.size gx x _ (heap_here _ _) ((HX.out.below HB1.out).below (below_a1 _ _)) (by omega) hlx).mono ?_
    rintro e w2 ⟨rfl, hi2, hx2⟩
    have HI2 := Lib.hid hi2
    have HX2 := Lib.hid hx2
    clear hi2 hx2
    go_wp2_with fail
    go_ret
    exact ⟨_, rfl, HI2.out, (HB1.out.alloc HB1.out.size _).trans (HX2.out.below (by rw [heap_size_alloc]; omega) (fun k hk => by omega)), HB1.out.size⟩

set_option maxRecDepth 100000 in
set_option maxHeartbeats 1000000 in
theorem cIsNil2_walk (g : Nat) (w : World) :
    Calls Tryz.prog 155 #[.agg #[.pointer (some ⟨g, 0, none⟩)]] w fun e w' => e = .returned (.bool false) ∧ Below w.heap.size w w' := by
  go_enter Tryz.func155, Tryz.ntmps155
  go_wp2_with fail
  go_ret
  exact ⟨rfl, below_a1 _ _⟩
set_option maxRecDepth 100000 in
set_option maxHeartbeats 2000000 in
theorem cBig_walk (g : Nat) (z : Int) (w : World) (hz : IntAt w g z) (hl : (wds z.natAbs).length ≤ 80000) :
    Calls Tryz.prog 161 #[.agg #[.pointer (some ⟨g, 0, none⟩)]] w (BigPostF w z) := by
  have hk := heap_here w (.cells #[.pointer (some ⟨g, 0, none⟩)] 80)
  have hb0 := below_a1 w (.cells #[.pointer (some ⟨g, 0, none⟩)] 80)
  obtain ⟨w0, hw0⟩ : ∃ w0, w.alloc (.cells #[.pointer (some ⟨g, 0, none⟩)] 80) = w0 := ⟨_, rfl⟩
  rw [hw0] at hk hb0
  have HK := Lib.hid hk
  have HB0 := Lib.hid hb0
  have HZ := Lib.hid (hz.below hb0)
  have c0 := one_cell hk
  clear hk hb0 hz
  go_enter Tryz.func161, Tryz.ntmps161
  go_upto_region 1 with fail
  clear hw0
  go_wp2_with fail
  refine (cIsNil2_walk g w0).mono ?_
  rintro e w1 ⟨rfl, hb1⟩
  have c1 : ∀ o, (w1.alloc o).cell? ⟨w.heap.size, 0, none⟩ = some (.pointer (some ⟨g, 0, none⟩)) := fun o => one_cell (heap_old ((hb1.block _ (iter_lt HK.out)).trans HK.out))
  have HZ1 := Lib.hid (HZ.out.below hb1)
  have HB1 := Lib.hid (bt HB0.out hb1)
  clear hb1 c0
  go_wp2_with fail
  refine (intSet_walk w1.heap.size g z _ (heap_here _ _) (HZ1.out.below (below_a1 _ _)) (Nat.ne_of_lt HZ1.out.lt) hl).mono ?_
  rintro e w2 ⟨rfl, hi2, hx2⟩
  have HI2 := Lib.hid hi2
  have HX2 := Lib.hid hx2
  clear hi2 hx2
  go_wp2_with fail
  go_ret
  exact ⟨_, rfl, HI2.out, (HB1.out.alloc HB1.out.size _).trans (HX2.out.below (by rw [heap_size_alloc]; have := HB1.out.size; omega) (fun k hk => by have := HB1.out.size; omega)), HB1.out.size⟩

structure MinM (w : World) (gx gy : Nat) (x y : Int) (w1 : World) : Prop where
  hx : IntAt w1 gx x
  hy : IntAt w1 gy y
  b2 : ∃ u, w1.heap[w.heap.size + 1 + 1]? = some (.cells #[u] 80 (0, 0))
  below : Below w.heap.size w w1
  far : w.heap.size + 3 ≤ w1.heap.size
theorem minm_drew {w w1 : World} {gx gy : Nat} {x y : Int} {u v : Value} (h : w1.cell? ⟨w.heap.size, 0, none⟩ = some u ∧ w1.cell? ⟨w.heap.size + 1, 0, none⟩ = some v ∧ MinM w gx gy x y w1) :
    w1.drew.cell? ⟨w.heap.size, 0, none⟩ = some u ∧ w1.drew.cell? ⟨w.heap.size + 1, 0, none⟩ = some v ∧ MinM w gx gy x y w1.drew :=
  ⟨h.1, h.2.1, h.2.2.hx.below (below_drewN (Below.refl _ _) 1), h.2.2.hy.below (below_drewN (Below.refl _ _) 1), h.2.2.b2, below_drewN h.2.2.below 1, h.2.2.far⟩
theorem minm_grow {w w1 w2 : World} {gx gy : Nat} {x y : Int} {u v : Value} (h : w1.cell? ⟨w.heap.size, 0, none⟩ = some u ∧ w1.cell? ⟨w.heap.size + 1, 0, none⟩ = some v ∧ MinM w gx gy x y w1) (k : Below w1.heap.size w1 w2) :
    w2.cell? ⟨w.heap.size, 0, none⟩ = some u ∧ w2.cell? ⟨w.heap.size + 1, 0, none⟩ = some v ∧ MinM w gx gy x y w2 :=
  ⟨(k.cell (by exact World.block_lt_of_cell? w1 _ h.1)).trans h.1, (k.cell (by exact World.block_lt_of_cell? w1 _ h.2.1)).trans h.2.1, h.2.2.hx.below k, h.2.2.hy.below k, h.2.2.b2.elim fun t ht => ⟨t, (k.block _ (iter_lt ht)).trans ht⟩, bt h.2.2.below k, Nat.le_trans h.2.2.far k.size⟩

theorem minm_set {w w1 : World} {gx gy : Nat} {x y : Int} {u v t : Value} (h : w1.cell? ⟨w.heap.size, 0, none⟩ = some u ∧ w1.cell? ⟨w.heap.size + 1, 0, none⟩ = some v ∧ MinM w gx gy x y w1) :
    (w1.setCell ⟨w.heap.size + 1 + 1, 0, none⟩ t).cell? ⟨w.heap.size, 0, none⟩ = some u ∧ (w1.setCell ⟨w.heap.size + 1 + 1, 0, none⟩ t).cell? ⟨w.heap.size + 1, 0, none⟩ = some v ∧ MinM w gx gy x y (w1.setCell ⟨w.heap.size + 1 + 1, 0, none⟩ t) := by
  obtain ⟨h1, h2, h3⟩ := h
  obtain ⟨s, hs⟩ := h3.b2
  exact ⟨(cell_other (by show w.heap.size ≠ w.heap.size + 1 + 1; omega)).trans h1, (cell_other (by show w.heap.size + 1 ≠ w.heap.size + 1 + 1; omega)).trans h2, h3.hx.store hs (by decide) (by decide) _, h3.hy.store hs (by decide) (by decide) _, ⟨_, one_set hs⟩, h3.below.setCell (p := ⟨w.heap.size + 1 + 1, 0, none⟩) (by show w.heap.size ≤ w.heap.size + 1 + 1; omega) _, by rw [World.size_setCell]; exact h3.far⟩

set_option maxRecDepth 100000 in
set_option maxHeartbeats 8000000 in
theorem MinInt_walk (gx gy : Nat) (x y : Int) (w : World) (hx : IntAt w gx x) (hy : IntAt w gy y) (hlx : (wds x.natAbs).length ≤ 80000) (hly : (wds y.natAbs).length ≤ 80000) :
    Calls Tryz.prog 103 #[.agg #[.pointer (some ⟨gx, 0, none⟩)], .agg #[.pointer (some ⟨gy, 0, none⟩)]] w (MadePost w (minZ x y)) := by
  have hT := twoBoxI w gx gy x y hx hy
  have HBX := Lib.hid (fun (w2 : World) (h : IntAt w2 gx x) => cBig_walk gx x w2 h hlx)
  have HBY := Lib.hid (fun (w2 : World) (h : IntAt w2 gy y) => cBig_walk gy y w2 h hly)
  have HS := Lib.hid (fun (g1 g2 : Nat) (w2 : World) (h2 : IntAt w2 g1 x) (h3 : IntAt w2 g2 y) (hne : g2 ≠ g1) => imin_walk g1 g2 x y w2 h2 h3 hne hlx hly)
  have hT' := Lib.hid hT
  clear hx hy hT hlx hly
  go_enter Tryz.func103, Tryz.ntmps103
  go_upto_region 1 with fail
  obtain ⟨wa, hwa⟩ : ∃ wa, ((w.alloc (.cells #[.pointer (some ⟨gx, 0, none⟩)] 80)).alloc (.cells #[.pointer (some ⟨gy, 0, none⟩)] 80)).alloc (.cells #[.pointer none] 80) = wa := ⟨_, rfl⟩
  have hsz : w.heap.size + 3 ≤ wa.heap.size := by rw [← hwa, heap_size_alloc, heap_size_alloc, heap_size_alloc]; omega
  rw [hwa] at hT' ⊢
  have c0 := one_cell hT'.out.b0
  have c1 := one_cell hT'.out.b1
  have hkept : wa.cell? ⟨w.heap.size, 0, none⟩ = some (.pointer (some ⟨gx, 0, none⟩)) ∧ wa.cell? ⟨w.heap.size + 1, 0, none⟩ = some (.pointer (some ⟨gy, 0, none⟩)) ∧ MinM w gx gy x y wa := ⟨c0, c1, hT'.out.hx, hT'.out.hy, ⟨_, hT'.out.b2⟩, hT'.out.below, hsz⟩
  have hsz2 : w.heap.size + 3 ≤ wa.drew.heap.size := hsz
  clear hwa hT'
  go_region_held3 (fun w' => w'.cell? ⟨w.heap.size, 0, none⟩ = some (.pointer (some ⟨gx, 0, none⟩)) ∧ w'.cell? ⟨w.heap.size + 1, 0, none⟩ = some (.pointer (some ⟨gy, 0, none⟩)) ∧ MinM w gx gy x y w')
    (first | (with_reducible assumption) | (with_reducible exact minm_drew hkept) | (with_reducible exact minm_grow (by assumption) hgr) | (with_reducible exact minm_set SW3.out))
    (first
      | (go_at_call 161; (with_reducible refine (HBX.out _ ?_).mono ?_); (go_split_ands; exact MinM.hx (by assumption)); rintro e w1 ⟨g1, rfl, hi1, hgr, hf1⟩; have l1 := hi1.lt; have HI1 := Lib.hid hi1; clear hi1)
      | (go_at_call 161; (with_reducible refine (HBY.out _ ?_).mono ?_); (go_split_ands; exact MinM.hy (by assumption)); rintro e w2 ⟨g2, rfl, hi2, hgr, hf2⟩; have l2 := hi2.lt; have HI2 := Lib.hid hi2; have HI12 := Lib.hid (HI1.out.below hgr); clear hi2)
      | (go_at_call 146; refine (HS.out g1 g2 _ HI12.out HI2.out (by omega)).mono ?_; rintro e w3 ⟨g3, rfl, hi3, hgr, hf3⟩; have HI3 := Lib.hid hi3; have SW3 := Lib.hid (minm_grow (by assumption) hgr); obtain ⟨t3, k3⟩ := SW3.out.2.2.b2; have q2 := one_free k3 0; have q1 := one_cell k3; have K3 := Lib.hid k3; clear k3; clear hi3))
  all_goals
    go_wp2_with fail
    have k0 := one_set (u := .pointer (some ⟨g3, 0, none⟩)) K3.out
    have d0 := one_cell k0
    exact bodyPost_ret (v := .agg #[.pointer (some ⟨g3, 0, none⟩)]) (by simp [results, Tryz.results103, go_sem, d0]) rfl
      ⟨g3, rfl, HI3.out.store K3.out (by decide) (by decide) _, SW3.out.2.2.below.setCell (p := ⟨w.heap.size + 1 + 1, 0, none⟩) (by show w.heap.size ≤ w.heap.size + 1 + 1; omega) _, by omega⟩

set_option maxRecDepth 100000 in
set_option maxHeartbeats 8000000 in
theorem MaxInt_walk (gx gy : Nat) (x y : Int) (w : World) (hx : IntAt w gx x) (hy : IntAt w gy y) (hlx : (wds x.natAbs).length ≤ 80000) (hly : (wds y.natAbs).length ≤ 80000) :
    Calls Tryz.prog 104 #[.agg #[.pointer (some ⟨gx, 0, none⟩)], .agg #[.pointer (some ⟨gy, 0, none⟩)]] w (MadePost w (maxZ x y)) := by
  have hT := twoBoxI w gx gy x y hx hy
  have HBX := Lib.hid (fun (w2 : World) (h : IntAt w2 gx x) => cBig_walk gx x w2 h hlx)
  have HBY := Lib.hid (fun (w2 : World) (h : IntAt w2 gy y) => cBig_walk gy y w2 h hly)
  have HS := Lib.hid (fun (g1 g2 : Nat) (w2 : World) (h2 : IntAt w2 g1 x) (h3 : IntAt w2 g2 y) (hne : g2 ≠ g1) => imax_walk g1 g2 x y w2 h2 h3 hne hlx hly)
  have hT' := Lib.hid hT
  clear hx hy hT hlx hly
  go_enter Tryz.func104, Tryz.ntmps104
  go_upto_region 1 with fail
  obtain ⟨wa, hwa⟩ : ∃ wa, ((w.alloc (.cells #[.pointer (some ⟨gx, 0, none⟩)] 80)).alloc (.cells #[.pointer (some ⟨gy, 0, none⟩)] 80)).alloc (.cells #[.pointer none] 80) = wa := ⟨_, rfl⟩
  have hsz : w.heap.size + 3 ≤ wa.heap.size := by rw [← hwa, heap_size_alloc, heap_size_alloc, heap_size_alloc]; omega
  rw [hwa] at hT' ⊢
  have c0 := one_cell hT'.out.b0
  have c1 := one_cell hT'.out.b1
  have hkept : wa.cell? ⟨w.heap.size, 0, none⟩ = some (.pointer (some ⟨gx, 0, none⟩)) ∧ wa.cell? ⟨w.heap.size + 1, 0, none⟩ = some (.pointer (some ⟨gy, 0, none⟩)) ∧ MinM w gx gy x y wa := ⟨c0, c1, hT'.out.hx, hT'.out.hy, ⟨_, hT'.out.b2⟩, hT'.out.below, hsz⟩
  have hsz2 : w.heap.size + 3 ≤ wa.drew.heap.size := hsz
  clear hwa hT'
  go_region_held3 (fun w' => w'.cell? ⟨w.heap.size, 0, none⟩ = some (.pointer (some ⟨gx, 0, none⟩)) ∧ w'.cell? ⟨w.heap.size + 1, 0, none⟩ = some (.pointer (some ⟨gy, 0, none⟩)) ∧ MinM w gx gy x y w')
    (first | (with_reducible assumption) | (with_reducible exact minm_drew hkept) | (with_reducible exact minm_grow (by assumption) hgr) | (with_reducible exact minm_set SW3.out))
    (first
      | (go_at_call 161; (with_reducible refine (HBX.out _ ?_).mono ?_); (go_split_ands; exact MinM.hx (by assumption)); rintro e w1 ⟨g1, rfl, hi1, hgr, hf1⟩; have l1 := hi1.lt; have HI1 := Lib.hid hi1; clear hi1)
      | (go_at_call 161; (with_reducible refine (HBY.out _ ?_).mono ?_); (go_split_ands; exact MinM.hy (by assumption)); rintro e w2 ⟨g2, rfl, hi2, hgr, hf2⟩; have l2 := hi2.lt; have HI2 := Lib.hid hi2; have HI12 := Lib.hid (HI1.out.below hgr); clear hi2)
      | (go_at_call 147; refine (HS.out g1 g2 _ HI12.out HI2.out (by omega)).mono ?_; rintro e w3 ⟨g3, rfl, hi3, hgr, hf3⟩; have HI3 := Lib.hid hi3; have SW3 := Lib.hid (minm_grow (by assumption) hgr); obtain ⟨t3, k3⟩ := SW3.out.2.2.b2; have q2 := one_free k3 0; have q1 := one_cell k3; have K3 := Lib.hid k3; clear k3; clear hi3))
  all_goals
    go_wp2_with fail
    have k0 := one_set (u := .pointer (some ⟨g3, 0, none⟩)) K3.out
    have d0 := one_cell k0
    exact bodyPost_ret (v := .agg #[.pointer (some ⟨g3, 0, none⟩)]) (by simp [results, Tryz.results104, go_sem, d0]) rfl
      ⟨g3, rfl, HI3.out.store K3.out (by decide) (by decide) _, SW3.out.2.2.below.setCell (p := ⟨w.heap.size + 1 + 1, 0, none⟩) (by show w.heap.size ≤ w.heap.size + 1 + 1; omega) _, by omega⟩
end Go.Proofs.YtiohlcfdoleooaaGreatDoor
