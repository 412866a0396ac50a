/-
  big.NewInt of 0 and 1; OneUint, ZeroUint, Incr, Decr of cosmosmath.
-/
import Derived.Test.YthipbglnaalhmaaGreatDoorUintInc
import Derived.Deep.RegionHeld3
import Derived.Deep.RegionWith
namespace Go.Proofs.YthipbglnaalhmaaGreatDoor
open Go.RowKit

def MadeBig (w : World) (z : Int) (e : Ending) (w' : World) : Prop := ∃ g, e = .returned (.pointer (some ⟨g, 0, none⟩)) ∧ IntAt w' g z ∧ Below w.heap.size w w' ∧ w.heap.size ≤ g
set_option maxRecDepth 100000 in
set_option maxHeartbeats 1000000 in
theorem newInt0_walk (w : World) : Calls Tryz.prog 148 #[.int .i64 0] w (MadeBig w 0) := by
  go_enter Tryz.func148, Tryz.ntmps148
  go_wp2_with fail
  go_ret
  exact ⟨w.heap.size, rfl, ⟨none, 0, by rw [show Int.natAbs 0 = 0 from rfl, wds_zero]; exact heap_here _ _, by rw [show Int.natAbs 0 = 0 from rfl, wds_zero]; exact Nat.le_refl _, by decide, .inl wds_zero⟩, below_a1 _ _, Nat.le_refl _⟩
set_option maxRecDepth 100000 in
set_option maxHeartbeats 1000000 in
theorem newInt1_walk (w : World) : Calls Tryz.prog 148 #[.int .i64 1] w (MadeBig w 1) := by
  have h1 : wds 1 = [1] := wds_one (by decide) (by decide)
  go_enter Tryz.func148, Tryz.ntmps148
  go_wp2_with fail
  go_ret
  exact ⟨w.heap.size + 1, rfl, ⟨some ⟨w.heap.size, 0, none⟩, 1, by rw [show Int.natAbs 1 = 1 from rfl, h1]; exact heap_at _ _ (heap_size_alloc _ _), by rw [show Int.natAbs 1 = 1 from rfl, h1]; exact Nat.le_refl _, by decide, .inr ⟨w.heap.size, [1], [], rfl, heap_old (heap_here _ _), by rw [show Int.natAbs 1 = 1 from rfl, h1]; rfl⟩⟩, below_a2 _ _ _, Nat.le_succ _⟩

set_option maxRecDepth 100000 in
set_option maxHeartbeats 1000000 in
theorem zeroUint_walk (w : World) : Calls Tryz.prog 109 #[] w (MadePost w 0) := by
  go_enter Tryz.func109, Tryz.ntmps109
  go_wp2_with fail
  refine (newInt0_walk _).mono ?_
  rintro e w1 ⟨g, rfl, hi, hb, hfr⟩
  have hk := (hb.block w.heap.size (by rw [heap_size_alloc]; omega)).trans (heap_here w (.cells #[.pointer none] 62))
  have c0 := one_cell hk
  have f0 := one_free hk 0
  have HK := Lib.hid hk
  have HI := Lib.hid hi
  have HB := Lib.hid (bt (below_a1 w (.cells #[.pointer none] 62)) hb)
  have hfr2 : w.heap.size ≤ g := by rw [heap_size_alloc] at hfr; omega
  clear hk hi hb hfr
  go_wp2_with fail
  have k0 := one_set (u := .pointer (some ⟨g, 0, none⟩)) HK.out
  have d0 := one_cell k0
  exact bodyPost_ret (v := .agg #[.pointer (some ⟨g, 0, none⟩)]) (by simp [results, Tryz.results109, go_sem, d0]) rfl
    ⟨g, rfl, HI.out.store HK.out (by decide) (by decide) _, HB.out.setCell (p := ⟨w.heap.size, 0, none⟩) (Nat.le_refl _) _, hfr2⟩

set_option maxRecDepth 100000 in
set_option maxHeartbeats 1000000 in
theorem oneUint_walk (w : World) : Calls Tryz.prog 106 #[] w (MadePost w 1) := by
  go_enter Tryz.func106, Tryz.ntmps106
  go_wp2_with fail
  refine (newInt1_walk _).mono ?_
  rintro e w1 ⟨g, rfl, hi, hb, hfr⟩
  have hk := (hb.block w.heap.size (by rw [heap_size_alloc]; omega)).trans (heap_here w (.cells #[.pointer none] 62))
  have c0 := one_cell hk
  have f0 := one_free hk 0
  have HK := Lib.hid hk
  have HI := Lib.hid hi
  have HB := Lib.hid (bt (below_a1 w (.cells #[.pointer none] 62)) hb)
  have hfr2 : w.heap.size ≤ g := by rw [heap_size_alloc] at hfr; omega
  clear hk hi hb hfr
  go_wp2_with fail
  have k0 := one_set (u := .pointer (some ⟨g, 0, none⟩)) HK.out
  have d0 := one_cell k0
  exact bodyPost_ret (v := .agg #[.pointer (some ⟨g, 0, none⟩)]) (by simp [results, Tryz.results106, go_sem, d0]) rfl
    ⟨g, rfl, HI.out.store HK.out (by decide) (by decide) _, HB.out.setCell (p := ⟨w.heap.size, 0, none⟩) (Nat.le_refl _) _, hfr2⟩

/-- What holds on the way in Incr, Decr: the result's variable is there. -/
structure IncM (w w' : World) : Prop where
  below : Below w.heap.size w w'
  res : ∃ v, w'.heap[w.heap.size + 1]? = some (.cells #[v] 62 (0, 0))
theorem IncM.size {w w' : World} (h : IncM w w') : w.heap.size ≤ w'.heap.size := h.below.size
theorem incm_drew {w w1 : World} {g : Nat} {u : Value} (h : w1.cell? ⟨g, 0, none⟩ = some u ∧ IncM w w1) : w1.drew.cell? ⟨g, 0, none⟩ = some u ∧ IncM w w1.drew := ⟨h.1, h.2.below.drew, h.2.res⟩
theorem incm_grow {w w1 w2 : World} {g : Nat} {u : Value} (h : w1.cell? ⟨g, 0, none⟩ = some u ∧ IncM w w1) (k : Below w1.heap.size w1 w2) : w2.cell? ⟨g, 0, none⟩ = some u ∧ IncM w w2 := by
  obtain ⟨h1, h2, v, h3⟩ := h
  exact ⟨(k.cell (by exact World.block_lt_of_cell? w1 _ h1)).trans h1, bt h2 k, v, (k.block _ (iter_lt h3)).trans h3⟩
theorem incm_set {w w1 : World} {u x : Value} (h : w1.cell? ⟨w.heap.size, 0, none⟩ = some u ∧ IncM w w1) :
    (w1.setCell ⟨w.heap.size + 1, 0, none⟩ x).cell? ⟨w.heap.size, 0, none⟩ = some u ∧ IncM w (w1.setCell ⟨w.heap.size + 1, 0, none⟩ x) := by
  obtain ⟨h1, h2, v, h3⟩ := h
  exact ⟨(cell_other (by show w.heap.size ≠ w.heap.size + 1; omega)).trans h1, h2.setCell (p := ⟨w.heap.size + 1, 0, none⟩) (by show w.heap.size ≤ w.heap.size + 1; omega) _, x, one_set h3⟩
theorem incm_blk {w w1 w2 : World} (k : Below w1.heap.size w1 w2) (h : IncM w w1) : ∃ v, w2.heap[w.heap.size + 1]? = some (.cells #[v] 62 (0, 0)) := by
  obtain ⟨_, v, h3⟩ := h
  exact ⟨v, (k.block _ (iter_lt h3)).trans h3⟩
theorem incm_begin (w : World) (gx : Nat) :
    ((w.alloc (.cells #[.pointer (some ⟨gx, 0, none⟩)] 62)).alloc (.cells #[.pointer none] 62)).cell? ⟨w.heap.size, 0, none⟩ = some (.pointer (some ⟨gx, 0, none⟩)) ∧
    IncM w ((w.alloc (.cells #[.pointer (some ⟨gx, 0, none⟩)] 62)).alloc (.cells #[.pointer none] 62)) :=
  ⟨one_cell (heap_old (heap_here _ _)), below_a2 _ _ _, _, heap_at _ _ (heap_size_alloc _ _)⟩
theorem over_one : overU 1 = false := by decide

set_option maxRecDepth 100000 in
set_option maxHeartbeats 4000000 in
theorem incr_walk (gx : Nat) (x : Int) (w : World) (hx : IntAt w gx x) (ox : overU x = false) (oz : overU (x + 1) = false) :
    Calls Tryz.prog 50 #[.agg #[.pointer (some ⟨gx, 0, none⟩)]] w (MadePost w (x + 1)) := by
  have HAD := Lib.hid (fun (g2 : Nat) (w2 : World) (h1 : IntAt w2 gx x) (h2 : IntAt w2 g2 1) => uintAdd_walk gx g2 x 1 w2 h1 h2 ox over_one oz)
  have HX := Lib.hid hx
  clear hx ox oz
  have hkept := incm_begin w gx
  obtain ⟨wa, hwa⟩ : ∃ wa, (w.alloc (.cells #[.pointer (some ⟨gx, 0, none⟩)] 62)).alloc (.cells #[.pointer none] 62) = wa := ⟨_, rfl⟩
  rw [hwa] at hkept
  have HWA := Lib.hid hwa
  clear hwa
  go_enter Tryz.func50, Tryz.ntmps50
  go_upto_region 1 with fail
  rw [HWA.out]
  go_region_held3 (fun w' => w'.cell? ⟨w.heap.size, 0, none⟩ = some (.pointer (some ⟨gx, 0, none⟩)) ∧ IncM w w')
    (first | exact incm_drew hkept | exact incm_grow (by assumption) hgr | exact incm_set (by assumption) | assumption)
    (first
      | (go_at_call 106; refine (oneUint_walk _).mono ?_; rintro e w7 ⟨g7, rfl, hi7, hgr, _⟩; have HI7 := Lib.hid hi7; clear hi7)
      | (go_at_call 97; refine (HAD.out g7 _ (HX.out.below (by go_split_ands; exact IncM.below (by assumption))) HI7.out).mono ?_; rintro e w8 ⟨g8, rfl, hi8, hgr, hf8⟩; obtain ⟨x2, hk2⟩ := incm_blk hgr (by go_split_ands; assumption); have c20 := one_cell hk2; have f20 := one_free hk2 0; have hs8 : w.heap.size ≤ g8 := Nat.le_trans (by go_split_ands; exact IncM.size (by assumption)) hf8; have HK2 := Lib.hid hk2; have HI8 := Lib.hid hi8; clear hi8 hk2 hf8))
  all_goals
    have hB := (‹_ ∧ IncM w (w8.setCell _ _)›).2.below
    go_wp2_with fail
    have k0 := one_set (u := .pointer (some ⟨g8, 0, none⟩)) HK2.out
    have d0 := one_cell k0
    exact bodyPost_ret (v := .agg #[.pointer (some ⟨g8, 0, none⟩)]) (by simp [results, Tryz.results50, go_sem, d0]) rfl
      ⟨g8, rfl, HI8.out.store HK2.out (by decide) (by decide) _, hB, hs8⟩

set_option maxRecDepth 100000 in
set_option maxHeartbeats 4000000 in
theorem incr_panic (gx : Nat) (x : Int) (w : World) (hx : IntAt w gx x) (ox : overU x = false) (oz : overU (x + 1) = true) :
    Calls Tryz.prog 50 #[.agg #[.pointer (some ⟨gx, 0, none⟩)]] w (PanicPost w) := by
  have HAD := Lib.hid (fun (g2 : Nat) (w2 : World) (h1 : IntAt w2 gx x) (h2 : IntAt w2 g2 1) => uintAdd_panic gx g2 x 1 w2 h1 h2 ox over_one oz)
  have HX := Lib.hid hx
  clear hx ox oz
  have hkept := incm_begin w gx
  obtain ⟨wa, hwa⟩ : ∃ wa, (w.alloc (.cells #[.pointer (some ⟨gx, 0, none⟩)] 62)).alloc (.cells #[.pointer none] 62) = wa := ⟨_, rfl⟩
  rw [hwa] at hkept
  have HWA := Lib.hid hwa
  have c0 := hkept.1
  have HKP := Lib.hid hkept.2.below
  clear hwa hkept
  go_enter Tryz.func50, Tryz.ntmps50
  go_upto_region 1 with fail
  rw [HWA.out]
  go_region_with (first
      | (go_at_call 106; refine (oneUint_walk _).mono ?_; rintro e w7 ⟨g7, rfl, hi7, hgr, _⟩; have HI7 := Lib.hid hi7; have HB7 := Lib.hid hgr; have c7 := (hgr.cell (by exact World.block_lt_of_cell? _ _ c0)).trans c0; clear hi7 hgr)
      | (go_at_call 97; refine (HAD.out g7 _ (HX.out.below (bt HKP.out.drew HB7.out)) HI7.out).mono ?_; rintro e w8 ⟨t8, v8, rfl, hb8⟩; have hp : PanicPost w (.panicked [{ v := .iface t8 v8, recovered := false }]) w8 := ⟨_, _, rfl, bt (bt HKP.out.drew HB7.out) hb8⟩; suffices hq : wpAny Tryz.prog .any #[] (fun _ _ _ => True) 0 #[] ⟨#[], []⟩ w8 by (go_wp2_with fail; exact ⟨rfl, hp⟩)))
  all_goals trivial

set_option maxRecDepth 100000 in
set_option maxHeartbeats 4000000 in
theorem decr_walk (gx : Nat) (x : Int) (w : World) (hx : IntAt w gx x) (ox : overU x = false) (oz : overU (x - 1) = false) :
    Calls Tryz.prog 52 #[.agg #[.pointer (some ⟨gx, 0, none⟩)]] w (MadePost w (x - 1)) := by
  have HAD := Lib.hid (fun (g2 : Nat) (w2 : World) (h1 : IntAt w2 gx x) (h2 : IntAt w2 g2 1) => uintSub_walk gx g2 x 1 w2 h1 h2 ox over_one oz)
  have HX := Lib.hid hx
  clear hx ox oz
  have hkept := incm_begin w gx
  obtain ⟨wa, hwa⟩ : ∃ wa, (w.alloc (.cells #[.pointer (some ⟨gx, 0, none⟩)] 62)).alloc (.cells #[.pointer none] 62) = wa := ⟨_, rfl⟩
  rw [hwa] at hkept
  have HWA := Lib.hid hwa
  clear hwa
  go_enter Tryz.func52, Tryz.ntmps52
  go_upto_region 1 with fail
  rw [HWA.out]
  go_region_held3 (fun w' => w'.cell? ⟨w.heap.size, 0, none⟩ = some (.pointer (some ⟨gx, 0, none⟩)) ∧ IncM w w')
    (first | exact incm_drew hkept | exact incm_grow (by assumption) hgr | exact incm_set (by assumption) | assumption)
    (first
      | (go_at_call 106; refine (oneUint_walk _).mono ?_; rintro e w7 ⟨g7, rfl, hi7, hgr, _⟩; have HI7 := Lib.hid hi7; clear hi7)
      | (go_at_call 98; refine (HAD.out g7 _ (HX.out.below (by go_split_ands; exact IncM.below (by assumption))) HI7.out).mono ?_; rintro e w8 ⟨g8, rfl, hi8, hgr, hf8⟩; obtain ⟨x2, hk2⟩ := incm_blk hgr (by go_split_ands; assumption); have c20 := one_cell hk2; have f20 := one_free hk2 0; have hs8 : w.heap.size ≤ g8 := Nat.le_trans (by go_split_ands; exact IncM.size (by assumption)) hf8; have HK2 := Lib.hid hk2; have HI8 := Lib.hid hi8; clear hi8 hk2 hf8))
  all_goals
    have hB := (‹_ ∧ IncM w (w8.setCell _ _)›).2.below
    go_wp2_with fail
    have k0 := one_set (u := .pointer (some ⟨g8, 0, none⟩)) HK2.out
    have d0 := one_cell k0
    exact bodyPost_ret (v := .agg #[.pointer (some ⟨g8, 0, none⟩)]) (by simp [results, Tryz.results52, go_sem, d0]) rfl
      ⟨g8, rfl, HI8.out.store HK2.out (by decide) (by decide) _, hB, hs8⟩

set_option maxRecDepth 100000 in
set_option maxHeartbeats 4000000 in
theorem decr_panic (gx : Nat) (x : Int) (w : World) (hx : IntAt w gx x) (ox : overU x = false) (oz : overU (x - 1) = true) :
    Calls Tryz.prog 52 #[.agg #[.pointer (some ⟨gx, 0, none⟩)]] w (PanicPost w) := by
  have HAD := Lib.hid (fun (g2 : Nat) (w2 : World) (h1 : IntAt w2 gx x) (h2 : IntAt w2 g2 1) => uintSub_panic gx g2 x 1 w2 h1 h2 ox over_one oz)
  have HX := Lib.hid hx
  clear hx ox oz
  have hkept := incm_begin w gx
  obtain ⟨wa, hwa⟩ : ∃ wa, (w.alloc (.cells #[.pointer (some ⟨gx, 0, none⟩)] 62)).alloc (.cells #[.pointer none] 62) = wa := ⟨_, rfl⟩
  rw [hwa] at hkept
  have HWA := Lib.hid hwa
  have c0 := hkept.1
  have HKP := Lib.hid hkept.2.below
  clear hwa hkept
  go_enter Tryz.func52, Tryz.ntmps52
  go_upto_region 1 with fail
  rw [HWA.out]
  go_region_with (first
      | (go_at_call 106; refine (oneUint_walk _).mono ?_; rintro e w7 ⟨g7, rfl, hi7, hgr, _⟩; have HI7 := Lib.hid hi7; have HB7 := Lib.hid hgr; have c7 := (hgr.cell (by exact World.block_lt_of_cell? _ _ c0)).trans c0; clear hi7 hgr)
      | (go_at_call 98; refine (HAD.out g7 _ (HX.out.below (bt HKP.out.drew HB7.out)) HI7.out).mono ?_; rintro e w8 ⟨t8, v8, rfl, hb8⟩; have hp : PanicPost w (.panicked [{ v := .iface t8 v8, recovered := false }]) w8 := ⟨_, _, rfl, bt (bt HKP.out.drew HB7.out) hb8⟩; suffices hq : wpAny Tryz.prog .any #[] (fun _ _ _ => True) 0 #[] ⟨#[], []⟩ w8 by (go_wp2_with fail; exact ⟨rfl, hp⟩)))
  all_goals trivial
end Go.Proofs.YthipbglnaalhmaaGreatDoor
