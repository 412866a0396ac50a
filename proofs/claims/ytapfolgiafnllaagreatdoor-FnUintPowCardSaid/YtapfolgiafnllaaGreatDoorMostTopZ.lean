/-
  (*big.Int).Cmp of numbers that are not less than 0; MaxUint, MinUint of cosmosmath; impl.UintMost, impl.UintLeast.
  impl.UintMost, impl.UintLeast.
-/
import Derived.Test.YtapfolgiafnllaaGreatDoorBn08Z
import Derived.Test.YtapfolgiafnllaaGreatDoorBn15Z
import Derived.Deep.RegionHeld3
namespace Go.Proofs.YtapfolgiafnllaaGreatDoor
open Go.RowKit

set_option maxRecDepth 100000 in
set_option maxHeartbeats 4000000 in
theorem intCmp_walk (gx gy : Nat) (x y : Int) (w : World) (hx : IntAt w gx x) (hy : IntAt w gy y) (hne : gy ≠ gx) (px : ¬ x < 0) (py : ¬ y < 0) :
    Calls Tryz.prog 117 #[.pointer (some ⟨gx, 0, none⟩), .pointer (some ⟨gy, 0, none⟩)] w fun e w' => e = .returned (.int .i64 (sgnC (x - y))) ∧ Below w.heap.size w w' := by
  obtain ⟨A, c, hkx, h2, h3, h4⟩ := hx
  obtain ⟨B, d, hky, i2, i3, i4⟩ := hy
  have hnq := (int_neq hne hkx hky).2
  have d0 := num_cell0 hkx
  have d1 := num_cell1 hkx
  have e0 := num_cell0 hky
  have e1 := num_cell1 hky
  rw [decide_eq_false px] at d0
  rw [decide_eq_false py] at e0
  have hs : sgnC ((x.natAbs : Int) - y.natAbs) = sgnC (x - y) := by congr 1; omega
  obtain ⟨s, hss⟩ : ∃ s, sgnC (x - y) = s := ⟨_, rfl⟩
  rw [hss] at hs
  rw [hss]
  have hcw : ∀ (w2 : World) (_ : w2.heap = w.heap), _ := fun w2 hh => natCmp_walk x.natAbs y.natAbs A B c d w2 h2 i2 h3 i3 (h4.of_heap hh).rd (i4.of_heap hh).rd
  rw [hs] at hcw
  have HC := Lib.hid hcw
  have HCE := Lib.hid (fun (w2 : World) (hh : w2.heap = w.heap) (b o : Nat) => (cell_heap hh b o : w2.cell? ⟨b, o, none⟩ = w.cell? ⟨b, o, none⟩))
  clear h4 i4 hkx hky hcw hs hss
  go_enter Tryz.func117, Tryz.ntmps117
  go_wp2_with fail
  go_quiet (fail)
  obtain ⟨w9, hw9⟩ : ∃ w9, w.drewN nq = w9 := ⟨_, rfl⟩
  have h9 : w9.heap = w.heap := by rw [← hw9]; rfl
  have b9 : Below w.heap.size w w9 := by rw [← hw9]; exact below_drewN (Below.refl _ _) _
  rw [hw9]
  rw [← HCE.out w9 h9 gx 0] at d0
  rw [← HCE.out w9 h9 gx 1] at d1
  rw [← HCE.out w9 h9 gy 0] at e0
  rw [← HCE.out w9 h9 gy 1] at e1
  have H9 := Lib.hid h9
  have B9 := Lib.hid b9
  clear h9 hw9 b9 hnq
  go_wp2_with fail
  go_quiet ((go_at_call 113; exact Calls.quiet_of (HC.out _ ((heap_drewN' _ _).trans H9.out))))
  go_wp2_with fail
  go_ret
  exact ⟨rfl, below_drewN B9.out _⟩

/-- A new big.Int. -/
def BigPost (w : World) (z : Int) (e : Ending) (w' : World) : Prop := ∃ g, e = .returned (.pointer (some ⟨g, 0, none⟩)) ∧ IntAt w' g z ∧ Below w.heap.size w w'

structure MostM (w : World) (p : Addr) (b : Nat) (w' : World) : Prop where
  ext : Ext (fun k => k = b) w w'
  eof : EofIs w' p
  leaf : LeafIs w'
  out : ∃ s, w'.heap[b]? = some (.cells #[.string s] 9 (0, 0))
theorem most_drew {w w1 : World} {p : Addr} {a b c : Nat} {u v : Value} (h : w1.cell? ⟨a, 0, none⟩ = some u ∧ w1.cell? ⟨b, 0, none⟩ = some v ∧ MostM w p c w1) : w1.drew.cell? ⟨a, 0, none⟩ = some u ∧ w1.drew.cell? ⟨b, 0, none⟩ = some v ∧ MostM w p c w1.drew :=
  ⟨h.1, h.2.1, h.2.2.ext.drew, h.2.2.eof, h.2.2.leaf, h.2.2.out⟩
theorem most_grow {w w1 w2 : World} {p : Addr} {a b c : Nat} {u v : Value} (h : w1.cell? ⟨a, 0, none⟩ = some u ∧ w1.cell? ⟨b, 0, none⟩ = some v ∧ MostM w p c w1) (k : Below w1.heap.size w1 w2) : w2.cell? ⟨a, 0, none⟩ = some u ∧ w2.cell? ⟨b, 0, none⟩ = some v ∧ MostM w p c w2 := by
  obtain ⟨h1, h2, h3, h4, h5, s, h6⟩ := h
  exact ⟨(k.cell (by exact World.block_lt_of_cell? w1 _ h1)).trans h1, (k.cell (by exact World.block_lt_of_cell? w1 _ h2)).trans h2, h3.belowB (k.mono h3.size), h4.below k, h5.below k, s, (k.block _ (iter_lt h6)).trans h6⟩
theorem most_set {w w1 : World} {p : Addr} {a b c : Nat} {u v : Value} {s : ByteArray} (h : w1.cell? ⟨a, 0, none⟩ = some u ∧ w1.cell? ⟨b, 0, none⟩ = some v ∧ MostM w p c w1) (ha : a ≠ c) (hb : b ≠ c) (he : 2 ≠ c) (hl : 7 ≠ c) :
    (w1.setCell ⟨c, 0, none⟩ (.string s)).cell? ⟨a, 0, none⟩ = some u ∧ (w1.setCell ⟨c, 0, none⟩ (.string s)).cell? ⟨b, 0, none⟩ = some v ∧ MostM w p c (w1.setCell ⟨c, 0, none⟩ (.string s)) := by
  obtain ⟨h1, h2, h3, h4, h5, t, h6⟩ := h
  exact ⟨(cell_other ha).trans h1, (cell_other hb).trans h2, Ext.setCell (D := fun k => k = c) (p := ⟨c, 0, none⟩) h3 (fun _ => rfl) _, h4.other _ he, (cell_other hl).trans h5, s, one_set h6⟩
def maxZ (x y : Int) : Int := if sgnC (x - y) = -1 then y else x
def minZ (x y : Int) : Int := if sgnC (x - y) = 1 then y else x

set_option maxRecDepth 100000 in
set_option maxHeartbeats 4000000 in
theorem max_walk (gx gy : Nat) (x y : Int) (w : World) (hx : IntAt w gx x) (hy : IntAt w gy y) (hne : gy ≠ gx) (px : ¬ x < 0) (py : ¬ y < 0) (hlx : (wds x.natAbs).length ≤ 80000) (hly : (wds y.natAbs).length ≤ 80000) :
    Calls Tryz.prog 91 #[.pointer (some ⟨gx, 0, none⟩), .pointer (some ⟨gy, 0, none⟩)] w (BigPost w (maxZ x y)) := by
  have HC := Lib.hid (intCmp_walk gx gy x y w hx hy hne px py)
  have HX := Lib.hid hx
  have HY := Lib.hid hy
  have lx := hx.lt
  have ly := hy.lt
  clear hx hy
  by_cases hc : sgnC (x - y) = -1
  · have hb : (sgnC (x - y) == -1) = true := beq_iff_eq.2 hc
    have hz : maxZ x y = y := by unfold maxZ; rw [if_pos hc]
    rw [hz]
    obtain ⟨s, hs⟩ : ∃ s, sgnC (x - y) = s := ⟨_, rfl⟩
    rw [hs] at HC hb
    clear hc hs hz
    go_enter Tryz.func91, Tryz.ntmps91
    go_wp2_with fail
    refine HC.out.mono ?_
    rintro e w1 ⟨rfl, hb1⟩
    have hsz := hb1.size
    have HB1 := Lib.hid hb1
    clear hb1
    go_wp2_with fail
    refine (intSet_walk w1.heap.size gy y _ (heap_here _ _) ((HY.out.below HB1.out).below (below_a1 _ _)) (by omega) hly).mono ?_
    rintro e w2 ⟨rfl, hi2, hx2⟩
    have HI2 := Lib.hid hi2
    have HX2 := Lib.hid hx2
    clear hi2 hx2
    go_wp2_with fail
    go_ret
    exact ⟨_, rfl, HI2.out, (HB1.out.alloc HB1.out.size _).trans (HX2.out.below (by rw [heap_size_alloc]; omega) (fun k hk => by omega))⟩
  · have hb : (sgnC (x - y) == -1) = false := beq_eq_false_iff_ne.2 hc
    have hz : maxZ x y = x := by unfold maxZ; rw [if_neg hc]
    rw [hz]
    obtain ⟨s, hs⟩ : ∃ s, sgnC (x - y) = s := ⟨_, rfl⟩
    rw [hs] at HC hb
    clear hc hs hz
    go_enter Tryz.func91, Tryz.ntmps91
    go_wp2_with fail
    refine HC.out.mono ?_
    rintro e w1 ⟨rfl, hb1⟩
    have hsz := hb1.size
    have HB1 := Lib.hid hb1
    clear hb1
    go_wp2_with fail
    refine (intSet_walk w1.heap.size gx x _ (heap_here _ _) ((HX.out.below HB1.out).below (below_a1 _ _)) (by omega) hlx).mono ?_
    rintro e w2 ⟨rfl, hi2, hx2⟩
    have HI2 := Lib.hid hi2
    have HX2 := Lib.hid hx2
    clear hi2 hx2
    go_wp2_with fail
    go_ret
    exact ⟨_, rfl, HI2.out, (HB1.out.alloc HB1.out.size _).trans (HX2.out.below (by rw [heap_size_alloc]; omega) (fun k hk => by omega))⟩

set_option maxRecDepth 100000 in
set_option maxHeartbeats 4000000 in
theorem MaxUint_walk (gx gy : Nat) (x y : Int) (w : World) (hx : IntAt w gx x) (hy : IntAt w gy y) (hne : gy ≠ gx) (ox : overU x = false) (oy : overU y = false) :
    Calls Tryz.prog 48 #[.agg #[.pointer (some ⟨gx, 0, none⟩)], .agg #[.pointer (some ⟨gy, 0, none⟩)]] w (MadePost w (maxZ x y)) := by
  have hT := twoBox w gx gy x y hx hy
  have oz : overU (maxZ x y) = false := by unfold maxZ; split <;> assumption
  have hwl := overU_words oz
  have HT := Lib.hid hT
  have HS := Lib.hid (fun (w2 : World) (h2 : IntAt w2 gx x) (h3 : IntAt w2 gy y) => max_walk gx gy x y w2 h2 h3 hne (overU_pos ox) (overU_pos oy) (by have := overU_words ox; omega) (by have := overU_words oy; omega))
  have HN := Lib.hid (fun (g : Nat) (w2 : World) (h1 : IntAt w2 g (maxZ x y)) => newUint_walk g (maxZ x y) w2 h1 (by omega) oz)
  clear hx hy hT oz
  go_enter Tryz.func48, Tryz.ntmps48
  go_upto_region 1 with fail
  obtain ⟨wa, hwa⟩ : ∃ wa, ((w.alloc (.cells #[.pointer (some ⟨gx, 0, none⟩)] 52)).alloc (.cells #[.pointer (some ⟨gy, 0, none⟩)] 52)).alloc (.cells #[.pointer none] 52) = wa := ⟨_, rfl⟩
  rw [hwa] at HT ⊢
  have c0 := one_cell HT.out.b0
  have c1 := one_cell HT.out.b1
  clear hwa
  go_wp2_with fail
  refine (HS.out wa HT.out.hx HT.out.hy).mono ?_
  rintro e w1 ⟨g1, rfl, hi1, hb1⟩
  have hk1 := (hb1.block (w.heap.size + 1 + 1) (iter_lt HT.out.b2)).trans HT.out.b2
  have HK1 := Lib.hid hk1
  have HI1 := Lib.hid hi1
  have HB1 := Lib.hid (bt HT.out.below hb1)
  clear hk1 hi1 hb1 c0 c1
  go_wp2_with fail
  refine (HN.out _ w1 HI1.out).mono ?_
  rintro e w5 ⟨g5, rfl, hi5, hb5, hfr⟩
  have hk5 := (hb5.block (w.heap.size + 1 + 1) (iter_lt HK1.out)).trans HK1.out
  have c0 := one_cell hk5
  have f0 := one_free hk5 0
  have HK5 := Lib.hid hk5
  have HI5 := Lib.hid hi5
  have HB5 := Lib.hid hb5
  clear hk5 hi5 hb5
  go_wp2_with fail
  have k0 := one_set (u := .pointer (some ⟨g5, 0, none⟩)) HK5.out
  have d0 := one_cell k0
  exact bodyPost_ret (v := .agg #[.pointer (some ⟨g5, 0, none⟩)]) (by simp [results, Tryz.results48, go_sem, d0]) rfl
    ⟨g5, rfl, HI5.out.store HK5.out (by decide) (by decide) _, (bt HB1.out HB5.out).setCell (p := ⟨w.heap.size + 1 + 1, 0, none⟩) (by show w.heap.size ≤ w.heap.size + 1 + 1; omega) _, Nat.le_trans HB1.out.size hfr⟩


set_option maxRecDepth 100000 in
set_option maxHeartbeats 4000000 in
theorem min_walk (gx gy : Nat) (x y : Int) (w : World) (hx : IntAt w gx x) (hy : IntAt w gy y) (hne : gy ≠ gx) (px : ¬ x < 0) (py : ¬ y < 0) (hlx : (wds x.natAbs).length ≤ 80000) (hly : (wds y.natAbs).length ≤ 80000) :
    Calls Tryz.prog 90 #[.pointer (some ⟨gx, 0, none⟩), .pointer (some ⟨gy, 0, none⟩)] w (BigPost w (minZ x y)) := by
  have HC := Lib.hid (intCmp_walk gx gy x y w hx hy hne px py)
  have HX := Lib.hid hx
  have HY := Lib.hid hy
  have lx := hx.lt
  have ly := hy.lt
  clear hx hy
  by_cases hc : sgnC (x - y) = 1
  · have hb : (sgnC (x - y) == 1) = true := beq_iff_eq.2 hc
    have hz : minZ x y = y := by unfold minZ; rw [if_pos hc]
    rw [hz]
    obtain ⟨s, hs⟩ : ∃ s, sgnC (x - y) = s := ⟨_, rfl⟩
    rw [hs] at HC hb
    clear hc hs hz
    go_enter Tryz.func90, Tryz.ntmps90
    go_wp2_with fail
    refine HC.out.mono ?_
    rintro e w1 ⟨rfl, hb1⟩
    have hsz := hb1.size
    have HB1 := Lib.hid hb1
    clear hb1
    go_wp2_with fail
    refine (intSet_walk w1.heap.size gy y _ (heap_here _ _) ((HY.out.below HB1.out).below (below_a1 _ _)) (by omega) hly).mono ?_
    rintro e w2 ⟨rfl, hi2, hx2⟩
    have HI2 := Lib.hid hi2
    have HX2 := Lib.hid hx2
    clear hi2 hx2
    go_wp2_with fail
    go_ret
    exact ⟨_, rfl, HI2.out, (HB1.out.alloc HB1.out.size _).trans (HX2.out.below (by rw [heap_size_alloc]; omega) (fun k hk => by omega))⟩
  · have hb : (sgnC (x - y) == 1) = false := beq_eq_false_iff_ne.2 hc
    have hz : minZ x y = x := by unfold minZ; rw [if_neg hc]
    rw [hz]
    obtain ⟨s, hs⟩ : ∃ s, sgnC (x - y) = s := ⟨_, rfl⟩
    rw [hs] at HC hb
    clear hc hs hz
    go_enter Tryz.func90, Tryz.ntmps90
    go_wp2_with fail
    refine HC.out.mono ?_
    rintro e w1 ⟨rfl, hb1⟩
    have hsz := hb1.size
    have HB1 := Lib.hid hb1
    clear hb1
    go_wp2_with fail
    refine (intSet_walk w1.heap.size gx x _ (heap_here _ _) ((HX.out.below HB1.out).below (below_a1 _ _)) (by omega) hlx).mono ?_
    rintro e w2 ⟨rfl, hi2, hx2⟩
    have HI2 := Lib.hid hi2
    have HX2 := Lib.hid hx2
    clear hi2 hx2
    go_wp2_with fail
    go_ret
    exact ⟨_, rfl, HI2.out, (HB1.out.alloc HB1.out.size _).trans (HX2.out.below (by rw [heap_size_alloc]; omega) (fun k hk => by omega))⟩

set_option maxRecDepth 100000 in
set_option maxHeartbeats 4000000 in
theorem MinUint_walk (gx gy : Nat) (x y : Int) (w : World) (hx : IntAt w gx x) (hy : IntAt w gy y) (hne : gy ≠ gx) (ox : overU x = false) (oy : overU y = false) :
    Calls Tryz.prog 47 #[.agg #[.pointer (some ⟨gx, 0, none⟩)], .agg #[.pointer (some ⟨gy, 0, none⟩)]] w (MadePost w (minZ x y)) := by
  have hT := twoBox w gx gy x y hx hy
  have oz : overU (minZ x y) = false := by unfold minZ; split <;> assumption
  have hwl := overU_words oz
  have HT := Lib.hid hT
  have HS := Lib.hid (fun (w2 : World) (h2 : IntAt w2 gx x) (h3 : IntAt w2 gy y) => min_walk gx gy x y w2 h2 h3 hne (overU_pos ox) (overU_pos oy) (by have := overU_words ox; omega) (by have := overU_words oy; omega))
  have HN := Lib.hid (fun (g : Nat) (w2 : World) (h1 : IntAt w2 g (minZ x y)) => newUint_walk g (minZ x y) w2 h1 (by omega) oz)
  clear hx hy hT oz
  go_enter Tryz.func47, Tryz.ntmps47
  go_upto_region 1 with fail
  obtain ⟨wa, hwa⟩ : ∃ wa, ((w.alloc (.cells #[.pointer (some ⟨gx, 0, none⟩)] 52)).alloc (.cells #[.pointer (some ⟨gy, 0, none⟩)] 52)).alloc (.cells #[.pointer none] 52) = wa := ⟨_, rfl⟩
  rw [hwa] at HT ⊢
  have c0 := one_cell HT.out.b0
  have c1 := one_cell HT.out.b1
  clear hwa
  go_wp2_with fail
  refine (HS.out wa HT.out.hx HT.out.hy).mono ?_
  rintro e w1 ⟨g1, rfl, hi1, hb1⟩
  have hk1 := (hb1.block (w.heap.size + 1 + 1) (iter_lt HT.out.b2)).trans HT.out.b2
  have HK1 := Lib.hid hk1
  have HI1 := Lib.hid hi1
  have HB1 := Lib.hid (bt HT.out.below hb1)
  clear hk1 hi1 hb1 c0 c1
  go_wp2_with fail
  refine (HN.out _ w1 HI1.out).mono ?_
  rintro e w5 ⟨g5, rfl, hi5, hb5, hfr⟩
  have hk5 := (hb5.block (w.heap.size + 1 + 1) (iter_lt HK1.out)).trans HK1.out
  have c0 := one_cell hk5
  have f0 := one_free hk5 0
  have HK5 := Lib.hid hk5
  have HI5 := Lib.hid hi5
  have HB5 := Lib.hid hb5
  clear hk5 hi5 hb5
  go_wp2_with fail
  have k0 := one_set (u := .pointer (some ⟨g5, 0, none⟩)) HK5.out
  have d0 := one_cell k0
  exact bodyPost_ret (v := .agg #[.pointer (some ⟨g5, 0, none⟩)]) (by simp [results, Tryz.results47, go_sem, d0]) rfl
    ⟨g5, rfl, HI5.out.store HK5.out (by decide) (by decide) _, (bt HB1.out HB5.out).setCell (p := ⟨w.heap.size + 1 + 1, 0, none⟩) (by show w.heap.size ≤ w.heap.size + 1 + 1; omega) _, Nat.le_trans HB1.out.size hfr⟩


end Go.Proofs.YtapfolgiafnllaaGreatDoor

namespace Go.Proofs.YtapfolgiafnllaaGreatDoor
open Go.RowKit

end Go.Proofs.YtapfolgiafnllaaGreatDoor
