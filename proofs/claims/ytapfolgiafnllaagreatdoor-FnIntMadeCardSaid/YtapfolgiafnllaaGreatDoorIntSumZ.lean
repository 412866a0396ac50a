/-
  SafeAdd, Add of cosmosmath's Int.
-/
import Derived.Test.YtapfolgiafnllaaGreatDoorIntNewZ
import Derived.Test.YtapfolgiafnllaaGreatDoorBn07Z
namespace Go.Proofs.YtapfolgiafnllaaGreatDoor
open Go.RowKit

set_option maxRecDepth 100000 in
set_option maxHeartbeats 1000000 in
theorem cadd_walk (gx gy : Nat) (x y : Int) (w : World) (hx : IntAt w gx x) (hy : IntAt w gy y) (hlx : (wds x.natAbs).length ≤ 70000) (hly : (wds y.natAbs).length ≤ 70000) (hs : decide (x < 0) = decide (y < 0)) :
    Calls Tryz.prog 123 #[.pointer (some ⟨gx, 0, none⟩), .pointer (some ⟨gy, 0, none⟩)] w fun e w' => ∃ g, e = .returned (.pointer (some ⟨g, 0, none⟩)) ∧ IntAt w' g (x + y) ∧ Below w.heap.size w w' ∧ w.heap.size ≤ g := by
  have HA := Lib.hid (intAddSame_walk w.heap.size gx gy x y _ (heap_here w _) (hx.below (below_a1 _ _)) (hy.below (below_a1 _ _)) hlx hly hs)
  clear hx hy hs hlx hly
  go_enter Tryz.func123, Tryz.ntmps123
  go_wp2_with fail
  refine HA.out.mono ?_
  rintro e w1 ⟨rfl, hi1, hx1⟩
  have HI1 := Lib.hid hi1
  have HB1 := Lib.hid ((below_a1 _ _).trans (hx1.below (B := w.heap.size) (by rw [heap_size_alloc]; omega) (fun k hk => by omega)))
  clear hi1 hx1
  go_wp2_with fail
  go_ret
  exact ⟨_, rfl, HI1.out, HB1.out, Nat.le_refl _⟩

/-- What a method of Int with two Ints finds: both boxed, room for the result, a new number. -/
structure TwoBoxI (w : World) (gx gy : Nat) (x y : Int) (wa : World) : Prop where
  b0 : wa.heap[w.heap.size]? = some (.cells #[.pointer (some ⟨gx, 0, none⟩)] 55 (0, 0))
  b1 : wa.heap[w.heap.size + 1]? = some (.cells #[.pointer (some ⟨gy, 0, none⟩)] 55 (0, 0))
  b2 : wa.heap[w.heap.size + 1 + 1]? = some (.cells #[.pointer none] 55 (0, 0))
  hx : IntAt wa gx x
  hy : IntAt wa gy y
  below : Below w.heap.size w wa
theorem twoBoxI (w : World) (gx gy : Nat) (x y : Int) (hx : IntAt w gx x) (hy : IntAt w gy y) :
    TwoBoxI w gx gy x y (((w.alloc (.cells #[.pointer (some ⟨gx, 0, none⟩)] 55)).alloc (.cells #[.pointer (some ⟨gy, 0, none⟩)] 55)).alloc (.cells #[.pointer none] 55)) := by
  have hb := bt (below_a2 w (.cells #[.pointer (some ⟨gx, 0, none⟩)] 55) (.cells #[.pointer (some ⟨gy, 0, none⟩)] 55)) (below_a1 _ (.cells #[.pointer none] 55))
  exact ⟨heap_old (heap_old (heap_here _ _)), heap_old (heap_at _ _ (by rw [heap_size_alloc])), heap_at _ _ (by rw [heap_size_alloc, heap_size_alloc]), hx.below hb, hy.below hb, hb⟩


def SafePost (w : World) (z : Int) (e : Ending) (w' : World) : Prop := ∃ g, e = .returned (.tuple #[.agg #[.pointer (some ⟨g, 0, none⟩)], .nilIface]) ∧ IntAt w' g z ∧ Below w.heap.size w w' ∧ w.heap.size ≤ g
set_option maxRecDepth 100000 in
set_option maxHeartbeats 2000000 in
theorem safeAdd_walk (gx gy : Nat) (x y : Int) (w : World) (hx : IntAt w gx x) (hy : IntAt w gy y) (hlx : (wds x.natAbs).length ≤ 70000) (hly : (wds y.natAbs).length ≤ 70000) (hs : decide (x < 0) = decide (y < 0)) (hlz : (wds (x + y).natAbs).length ≤ 1000000) (oz : overI (x + y) = false) :
    Calls Tryz.prog 100 #[.agg #[.pointer (some ⟨gx, 0, none⟩)], .agg #[.pointer (some ⟨gy, 0, none⟩)]] w (SafePost w (x + y)) := by
  have hT := twoBoxI w gx gy x y hx hy
  have HT := Lib.hid hT
  have HS := Lib.hid (fun (w2 : World) (h2 : IntAt w2 gx x) (h3 : IntAt w2 gy y) => cadd_walk gx gy x y w2 h2 h3 hlx hly hs)
  have HN := Lib.hid (fun (g : Nat) (w2 : World) (h1 : IntAt w2 g (x + y)) => bigOver_walk g (x + y) w2 h1 hlz)
  rw [oz] at HN
  clear hx hy hT hs oz hlx hly hlz
  go_enter Tryz.func100, Tryz.ntmps100
  go_upto_region 1 with fail
  obtain ⟨wa, hwa⟩ : ∃ wa, ((w.alloc (.cells #[.pointer (some ⟨gx, 0, none⟩)] 55)).alloc (.cells #[.pointer (some ⟨gy, 0, none⟩)] 55)).alloc (.cells #[.pointer none] 55) = wa := ⟨_, rfl⟩
  rw [hwa] at HT ⊢
  have c0 := one_cell HT.out.b0
  have c1 := one_cell HT.out.b1
  clear hwa
  go_wp2_with fail
  refine (HS.out wa HT.out.hx HT.out.hy).mono ?_
  rintro e w1 ⟨g1, rfl, hi1, hb1, hf1⟩
  have hk1 := (hb1.block (w.heap.size + 1 + 1) (iter_lt HT.out.b2)).trans HT.out.b2
  have e1 := one_cell hk1
  have f1 := one_free hk1 0
  have hs1 : w.heap.size ≤ g1 := Nat.le_trans HT.out.below.size hf1
  have HI1 := Lib.hid (hi1.store (o := 0) hk1 (by decide) (by decide) (.pointer (some ⟨g1, 0, none⟩)))
  have HK1 := Lib.hid (one_set (u := .pointer (some ⟨g1, 0, none⟩)) hk1)
  have HB1 := Lib.hid ((bt HT.out.below hb1).setCell (p := ⟨w.heap.size + 1 + 1, 0, none⟩) (by show w.heap.size ≤ w.heap.size + 1 + 1; omega) (.pointer (some ⟨g1, 0, none⟩)))
  clear hk1 hi1 hb1 hf1 c0 c1
  go_wp2_with fail
  obtain ⟨w2, hw2⟩ : ∃ w2, w1.setCell ⟨w.heap.size + 1 + 1, 0, none⟩ (.pointer (some ⟨g1, 0, none⟩)) = w2 := ⟨_, rfl⟩
  rw [hw2] at HI1 HK1 HB1 ⊢
  clear hw2 e1 f1
  refine (HN.out g1 w2 HI1.out).mono ?_
  rintro e w3 ⟨rfl, rfl⟩
  have e2 := one_cell HK1.out
  have f2 := one_free HK1.out 0
  go_wp2_with fail
  have k0 := one_set (u := .pointer (some ⟨g1, 0, none⟩)) HK1.out
  have d0 := one_cell k0
  exact bodyPost_ret (v := .tuple #[.agg #[.pointer (some ⟨g1, 0, none⟩)], .nilIface]) (by simp [results, Tryz.results100, go_sem, d0]) rfl
    ⟨g1, rfl, HI1.out.store HK1.out (by decide) (by decide) _, HB1.out.setCell (p := ⟨w.heap.size + 1 + 1, 0, none⟩) (by show w.heap.size ≤ w.heap.size + 1 + 1; omega) _, hs1⟩

set_option maxRecDepth 100000 in
set_option maxHeartbeats 2000000 in
theorem intAddC_walk (gx gy : Nat) (x y : Int) (w : World) (hx : IntAt w gx x) (hy : IntAt w gy y) (hlx : (wds x.natAbs).length ≤ 70000) (hly : (wds y.natAbs).length ≤ 70000) (hs : decide (x < 0) = decide (y < 0)) (hlz : (wds (x + y).natAbs).length ≤ 1000000) (oz : overI (x + y) = false) :
    Calls Tryz.prog 71 #[.agg #[.pointer (some ⟨gx, 0, none⟩)], .agg #[.pointer (some ⟨gy, 0, none⟩)]] w (MadePost w (x + y)) := by
  have hT := twoBoxI w gx gy x y hx hy
  have HT := Lib.hid hT
  have HS := Lib.hid (fun (w2 : World) (h2 : IntAt w2 gx x) (h3 : IntAt w2 gy y) => safeAdd_walk gx gy x y w2 h2 h3 hlx hly hs hlz oz)
  clear hx hy hT hs oz hlx hly hlz
  go_enter Tryz.func71, Tryz.ntmps71
  go_upto_region 1 with fail
  obtain ⟨wa, hwa⟩ : ∃ wa, ((w.alloc (.cells #[.pointer (some ⟨gx, 0, none⟩)] 55)).alloc (.cells #[.pointer (some ⟨gy, 0, none⟩)] 55)).alloc (.cells #[.pointer none] 55) = wa := ⟨_, rfl⟩
  rw [hwa] at HT ⊢
  have c0 := one_cell HT.out.b0
  have c1 := one_cell HT.out.b1
  clear hwa
  go_wp2_with fail
  refine (HS.out wa HT.out.hx HT.out.hy).mono ?_
  rintro e w1 ⟨g1, rfl, hi1, hb1, hf1⟩
  have hk1 := (hb1.block (w.heap.size + 1 + 1) (iter_lt HT.out.b2)).trans HT.out.b2
  have e1 : ∀ o, (w1.alloc o).cell? ⟨w.heap.size + 1 + 1, 0, none⟩ = some (.pointer none) := fun o => one_cell (heap_old hk1)
  have f1 : ∀ o, (w1.alloc o).frozen? ⟨w.heap.size + 1 + 1, 0, none⟩ = false := fun o => one_free (heap_old hk1) 0
  have hs1 : w.heap.size ≤ g1 := Nat.le_trans HT.out.below.size hf1
  have HI1 := Lib.hid hi1
  have HK1 := Lib.hid hk1
  have HB1 := Lib.hid (bt HT.out.below hb1)
  clear hk1 hi1 hb1 hf1 c0 c1
  go_wp2_with fail
  have k0 := one_set (u := .pointer (some ⟨g1, 0, none⟩)) (heap_old (o := .cells #[.pointer (some ⟨g1, 0, none⟩)] 55) HK1.out)
  have d0 := one_cell k0
  exact bodyPost_ret (v := .agg #[.pointer (some ⟨g1, 0, none⟩)]) (by simp [results, Tryz.results71, go_sem, d0]) rfl
    ⟨g1, rfl, (HI1.out.below (below_a1 _ _)).store (heap_old HK1.out) (by decide) (by decide) _, (bt HB1.out (below_a1 _ _)).setCell (p := ⟨w.heap.size + 1 + 1, 0, none⟩) (by show w.heap.size ≤ w.heap.size + 1 + 1; omega) _, hs1⟩
end Go.Proofs.YtapfolgiafnllaaGreatDoor
