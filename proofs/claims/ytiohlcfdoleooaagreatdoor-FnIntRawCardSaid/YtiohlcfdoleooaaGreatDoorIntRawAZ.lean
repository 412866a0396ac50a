/-
  big.NewInt of any int64; NewInt, AddRaw, SubRaw, MulRaw, QuoRaw, ModRaw of cosmosmath.
-/
import Derived.Test.YtiohlcfdoleooaaGreatDoorBn28Z
import Derived.Test.YtiohlcfdoleooaaGreatDoorBn25Z
import Derived.Deep.RegionWith
namespace Go.Proofs.YtiohlcfdoleooaaGreatDoor
open Go.RowKit

set_option maxRecDepth 100000 in
set_option maxHeartbeats 1000000 in
theorem newIntAll_walk (z : Int) (w : World) (hz : -9223372036854775808 ≤ z ∧ z < 9223372036854775808) : Calls Tryz.prog 168 #[.int .i64 z] w (BigPostF w z) := by
  have hz1 := hz.1
  have hz2 := hz.2
  by_cases h0 : z = 0
  · subst h0
    clear hz hz1 hz2
    go_enter Tryz.func168, Tryz.ntmps168
    go_wp2_with fail
    go_ret
    exact ⟨w.heap.size, rfl, ⟨none, 0, by rw [show Int.natAbs 0 = 0 from rfl, wds_zero]; exact heap_here _ _, by rw [show Int.natAbs 0 = 0 from rfl, wds_zero]; exact Nat.le_refl _, by decide, .inl wds_zero⟩, below_a1 _ _, Nat.le_refl _⟩
  · have hne : (z == 0) = false := beq_eq_false_iff_ne.2 h0
    have h1 : wds z.natAbs = [z.natAbs] := wds_one (by omega) (by omega)
    have fin : ∀ (b : Bool) (W : World), b = decide (z < 0) → W = (w.alloc (.cells #[.int .u64 (z.natAbs : Int)] 150)).alloc (.cells #[.bool b, .slice (some ⟨w.heap.size, 0, none⟩) 1 1] 101) → BigPostF w z (.returned (.pointer (some ⟨w.heap.size + 1, 0, none⟩))) W := by
      intro b W hb hW
      subst hb hW
      exact ⟨w.heap.size + 1, rfl, ⟨some ⟨w.heap.size, 0, none⟩, 1, by rw [h1]; exact heap_at _ _ (heap_size_alloc _ _), by rw [h1]; exact Nat.le_refl _, by decide, .inr ⟨w.heap.size, [z.natAbs], [], rfl, heap_old (heap_here _ _), by rw [h1]; rfl⟩⟩, below_a2 _ _ _, Nat.le_succ _⟩
    have FIN := Lib.hid fin
    clear fin h1
    by_cases hn : z < 0
    · have e0 : IntKind.u64.wrap (-IntKind.u64.wrap z) = (z.natAbs : Int) := by rw [IntKind.wrap_u64, IntKind.wrap_u64]; omega
      have E0 := Lib.hid e0
      have hd := Lib.hid (decide_eq_true hn)
      clear e0 h0 hz
      go_enter Tryz.func168, Tryz.ntmps168
      go_wp2_with fail
      go_ret
      exact FIN.out true _ hd.out.symm (by rw [E0.out])
    · obtain ⟨m, rfl⟩ := Int.eq_ofNat_of_zero_le (show 0 ≤ z by omega)
      have hd := Lib.hid (decide_eq_false hn)
      clear h0 hz hz1
      go_enter Tryz.func168, Tryz.ntmps168
      go_wp2_with fail
      go_ret
      exact FIN.out false _ hd.out.symm (by first | rfl | simp)
theorem overI_i64 {z : Int} (hz : -9223372036854775808 ≤ z ∧ z < 9223372036854775808) : overI z = false := by
  unfold overI
  refine decide_eq_false ?_
  have := (natLen_lt_iff z.natAbs 256).2 (Nat.lt_of_le_of_lt (show z.natAbs ≤ 9223372036854775808 by omega) (by decide))
  omega

set_option maxRecDepth 100000 in
set_option maxHeartbeats 1000000 in
theorem cnewInt_walk (z : Int) (w : World) (hz : -9223372036854775808 ≤ z ∧ z < 9223372036854775808) : Calls Tryz.prog 119 #[.int .i64 z] w (MadePost w z) := by
  go_enter Tryz.func119, Tryz.ntmps119
  go_wp2_with fail
  refine (newIntAll_walk z _ hz).mono ?_
  rintro e w1 ⟨g, rfl, hi, hb, hfr⟩
  have hk := (hb.block w.heap.size (by rw [heap_size_alloc]; omega)).trans (heap_here w (.cells #[.pointer none] 80))
  have c0 := one_cell hk
  have f0 := one_free hk 0
  have HK := Lib.hid hk
  have HI := Lib.hid hi
  have HB := Lib.hid (bt (below_a1 w (.cells #[.pointer none] 80)) hb)
  have hfr2 : w.heap.size ≤ g := by rw [heap_size_alloc] at hfr; omega
  clear hk hi hb hfr
  go_wp2_with fail
  have k0 := one_set (u := .pointer (some ⟨g, 0, none⟩)) HK.out
  have d0 := one_cell k0
  exact bodyPost_ret (v := .agg #[.pointer (some ⟨g, 0, none⟩)]) (by simp [results, Tryz.results119, go_sem, d0]) rfl
    ⟨g, rfl, HI.out.store HK.out (by decide) (by decide) _, HB.out.setCell (p := ⟨w.heap.size, 0, none⟩) (Nat.le_refl _) _, hfr2⟩

/-- What holds on the way in AddRaw and its like: the result's variable is there. -/
structure IncMI (w w' : World) : Prop where
  below : Below w.heap.size w w'
  res : ∃ v, w'.heap[w.heap.size + 1]? = some (.cells #[v] 80 (0, 0))
theorem IncMI.size {w w' : World} (h : IncMI w w') : w.heap.size ≤ w'.heap.size := h.below.size
theorem incm_drewI {w w1 : World} {g : Nat} {u : Value} (h : w1.cell? ⟨g, 0, none⟩ = some u ∧ IncMI w w1) : w1.drew.cell? ⟨g, 0, none⟩ = some u ∧ IncMI w w1.drew := ⟨h.1, h.2.below.drew, h.2.res⟩
theorem incm_growI {w w1 w2 : World} {g : Nat} {u : Value} (h : w1.cell? ⟨g, 0, none⟩ = some u ∧ IncMI w w1) (k : Below w1.heap.size w1 w2) : w2.cell? ⟨g, 0, none⟩ = some u ∧ IncMI w w2 := by
  obtain ⟨h1, h2, v, h3⟩ := h
  exact ⟨(k.cell (by exact World.block_lt_of_cell? w1 _ h1)).trans h1, bt h2 k, v, (k.block _ (iter_lt h3)).trans h3⟩
theorem incm_setI {w w1 : World} {u x : Value} (h : w1.cell? ⟨w.heap.size, 0, none⟩ = some u ∧ IncMI w w1) :
    (w1.setCell ⟨w.heap.size + 1, 0, none⟩ x).cell? ⟨w.heap.size, 0, none⟩ = some u ∧ IncMI w (w1.setCell ⟨w.heap.size + 1, 0, none⟩ x) := by
  obtain ⟨h1, h2, v, h3⟩ := h
  exact ⟨(cell_other (by show w.heap.size ≠ w.heap.size + 1; omega)).trans h1, h2.setCell (p := ⟨w.heap.size + 1, 0, none⟩) (by show w.heap.size ≤ w.heap.size + 1; omega) _, x, one_set h3⟩
theorem incm_blkI {w w1 w2 : World} (k : Below w1.heap.size w1 w2) (h : IncMI w w1) : ∃ v, w2.heap[w.heap.size + 1]? = some (.cells #[v] 80 (0, 0)) := by
  obtain ⟨_, v, h3⟩ := h
  exact ⟨v, (k.block _ (iter_lt h3)).trans h3⟩
theorem incm_beginI (w : World) (gx : Nat) :
    ((w.alloc (.cells #[.pointer (some ⟨gx, 0, none⟩)] 80)).alloc (.cells #[.pointer none] 80)).cell? ⟨w.heap.size, 0, none⟩ = some (.pointer (some ⟨gx, 0, none⟩)) ∧
    IncMI w ((w.alloc (.cells #[.pointer (some ⟨gx, 0, none⟩)] 80)).alloc (.cells #[.pointer none] 80)) :=
  ⟨one_cell (heap_old (heap_here _ _)), below_a2 _ _ _, _, heap_at _ _ (heap_size_alloc _ _)⟩

set_option maxRecDepth 100000 in
set_option maxHeartbeats 4000000 in
theorem addRaw_walk (gx : Nat) (n x : Int) (w : World) (hn : -9223372036854775808 ≤ n ∧ n < 9223372036854775808) (hx : IntAt w gx x) (ox : overI x = false) (oz : overI (x + n) = false) :
    Calls Tryz.prog 112 #[.agg #[.pointer (some ⟨gx, 0, none⟩)], .int .i64 n] w (MadePost w (x + n)) := by
  have HAD := Lib.hid (fun (g2 : Nat) (w2 : World) (h1 : IntAt w2 gx x) (h2 : IntAt w2 g2 n) => intAdd2_walk gx g2 x n w2 h1 h2 ox (overI_i64 hn) oz)
  have HX := Lib.hid hx
  have HNW := Lib.hid (fun (w2 : World) => cnewInt_walk n w2 hn)
  clear hx ox oz
  have hkept := incm_beginI w gx
  obtain ⟨wa, hwa⟩ : ∃ wa, (w.alloc (.cells #[.pointer (some ⟨gx, 0, none⟩)] 80)).alloc (.cells #[.pointer none] 80) = wa := ⟨_, rfl⟩
  rw [hwa] at hkept
  have HWA := Lib.hid hwa
  clear hwa
  go_enter Tryz.func112, Tryz.ntmps112
  go_upto_region 1 with fail
  rw [HWA.out]
  go_region_held3 (fun w' => w'.cell? ⟨w.heap.size, 0, none⟩ = some (.pointer (some ⟨gx, 0, none⟩)) ∧ IncMI w w')
    (first | exact incm_drewI hkept | exact incm_growI (by assumption) hgr | exact incm_setI (by assumption) | assumption)
    (first
      | (go_at_call 119; refine (HNW.out _).mono ?_; rintro e w7 ⟨g7, rfl, hi7, hgr, hf7'⟩; have hf7 : w.heap.size ≤ g7 := Nat.le_trans (by go_split_ands; exact IncMI.size (by assumption)) hf7'; have HI7 := Lib.hid hi7; clear hi7 hf7')
      | (go_at_call 97; refine (HAD.out g7 _ (HX.out.below (by go_split_ands; exact IncMI.below (by assumption))) HI7.out).mono ?_; rintro e w8 ⟨g8, rfl, hi8, hgr, hf8⟩; obtain ⟨x2, hk2⟩ := incm_blkI hgr (by go_split_ands; assumption); have c20 := one_cell hk2; have f20 := one_free hk2 0; have hs8 : w.heap.size ≤ g8 := Nat.le_trans (by go_split_ands; exact IncMI.size (by assumption)) hf8; have HK2 := Lib.hid hk2; have HI8 := Lib.hid hi8; clear hi8 hk2 hf8))
  all_goals
    have hB := (‹_ ∧ IncMI w (w8.setCell _ _)›).2.below
    go_wp2_with fail
    have k0 := one_set (u := .pointer (some ⟨g8, 0, none⟩)) HK2.out
    have d0 := one_cell k0
    exact bodyPost_ret (v := .agg #[.pointer (some ⟨g8, 0, none⟩)]) (by simp [results, Tryz.results112, go_sem, d0]) rfl
      ⟨g8, rfl, HI8.out.store HK2.out (by decide) (by decide) _, hB, hs8⟩

set_option maxRecDepth 100000 in
set_option maxHeartbeats 4000000 in
theorem addRaw_panic (gx : Nat) (n x : Int) (p q : Addr) (w : World) (hn : -9223372036854775808 ≤ n ∧ n < 9223372036854775808) (hx : IntAt w gx x) (he : ErrsAre w p q) (ox : overI x = false) (oz : overI (x + n) = true) :
    Calls Tryz.prog 112 #[.agg #[.pointer (some ⟨gx, 0, none⟩)], .int .i64 n] w (PanicPost w) := by
  have HAD := Lib.hid (fun (g2 : Nat) (w2 : World) (h1 : IntAt w2 gx x) (h2 : IntAt w2 g2 n) (he2 : ErrsAre w2 p q) => intAdd2_panic gx g2 x n p q w2 h1 h2 he2 ox (overI_i64 hn) oz)
  have HX := Lib.hid hx
  have HE := Lib.hid he
  have HNW := Lib.hid (fun (w2 : World) => cnewInt_walk n w2 hn)
  clear hx ox oz he
  have hkept := incm_beginI w gx
  obtain ⟨wa, hwa⟩ : ∃ wa, (w.alloc (.cells #[.pointer (some ⟨gx, 0, none⟩)] 80)).alloc (.cells #[.pointer none] 80) = wa := ⟨_, rfl⟩
  rw [hwa] at hkept
  have HWA := Lib.hid hwa
  have c0 := hkept.1
  have HKP := Lib.hid hkept.2.below
  clear hwa hkept
  go_enter Tryz.func112, Tryz.ntmps112
  go_upto_region 1 with fail
  rw [HWA.out]
  go_region_with (first
      | (go_at_call 119; refine (HNW.out _).mono ?_; rintro e w7 ⟨g7, rfl, hi7, hgr, hf7'⟩; have hf7 : w.heap.size ≤ g7 := Nat.le_trans HKP.out.size hf7'; have HI7 := Lib.hid hi7; have HB7 := Lib.hid hgr; have c7 := (hgr.cell (by exact World.block_lt_of_cell? _ _ c0)).trans c0; clear hi7 hgr)
      | (go_at_call 97; refine (HAD.out g7 _ (HX.out.below (bt HKP.out.drew HB7.out)) HI7.out (HE.out.below (bt HKP.out.drew HB7.out))).mono ?_; rintro e w8 ⟨t8, v8, rfl, hb8⟩; have hp : PanicPost w (.panicked [{ v := .iface t8 v8, recovered := false }]) w8 := ⟨_, _, rfl, bt (bt HKP.out.drew HB7.out) hb8⟩; suffices hq : wpAny Tryz.prog .any #[] (fun _ _ _ => True) 0 #[] ⟨#[], []⟩ w8 by (go_wp2_with fail; exact ⟨rfl, hp⟩)))
  all_goals trivial

set_option maxRecDepth 100000 in
set_option maxHeartbeats 4000000 in
theorem subRaw_walk (gx : Nat) (n x : Int) (w : World) (hn : -9223372036854775808 ≤ n ∧ n < 9223372036854775808) (hx : IntAt w gx x) (ox : overI x = false) (oz : overI (x - n) = false) :
    Calls Tryz.prog 113 #[.agg #[.pointer (some ⟨gx, 0, none⟩)], .int .i64 n] w (MadePost w (x - n)) := by
  have HAD := Lib.hid (fun (g2 : Nat) (w2 : World) (h1 : IntAt w2 gx x) (h2 : IntAt w2 g2 n) => intSub2_walk gx g2 x n w2 h1 h2 ox (overI_i64 hn) oz)
  have HX := Lib.hid hx
  have HNW := Lib.hid (fun (w2 : World) => cnewInt_walk n w2 hn)
  clear hx ox oz
  have hkept := incm_beginI w gx
  obtain ⟨wa, hwa⟩ : ∃ wa, (w.alloc (.cells #[.pointer (some ⟨gx, 0, none⟩)] 80)).alloc (.cells #[.pointer none] 80) = wa := ⟨_, rfl⟩
  rw [hwa] at hkept
  have HWA := Lib.hid hwa
  clear hwa
  go_enter Tryz.func113, Tryz.ntmps113
  go_upto_region 1 with fail
  rw [HWA.out]
  go_region_held3 (fun w' => w'.cell? ⟨w.heap.size, 0, none⟩ = some (.pointer (some ⟨gx, 0, none⟩)) ∧ IncMI w w')
    (first | exact incm_drewI hkept | exact incm_growI (by assumption) hgr | exact incm_setI (by assumption) | assumption)
    (first
      | (go_at_call 119; refine (HNW.out _).mono ?_; rintro e w7 ⟨g7, rfl, hi7, hgr, hf7'⟩; have hf7 : w.heap.size ≤ g7 := Nat.le_trans (by go_split_ands; exact IncMI.size (by assumption)) hf7'; have HI7 := Lib.hid hi7; clear hi7 hf7')
      | (go_at_call 99; refine (HAD.out g7 _ (HX.out.below (by go_split_ands; exact IncMI.below (by assumption))) HI7.out).mono ?_; rintro e w8 ⟨g8, rfl, hi8, hgr, hf8⟩; obtain ⟨x2, hk2⟩ := incm_blkI hgr (by go_split_ands; assumption); have c20 := one_cell hk2; have f20 := one_free hk2 0; have hs8 : w.heap.size ≤ g8 := Nat.le_trans (by go_split_ands; exact IncMI.size (by assumption)) hf8; have HK2 := Lib.hid hk2; have HI8 := Lib.hid hi8; clear hi8 hk2 hf8))
  all_goals
    have hB := (‹_ ∧ IncMI w (w8.setCell _ _)›).2.below
    go_wp2_with fail
    have k0 := one_set (u := .pointer (some ⟨g8, 0, none⟩)) HK2.out
    have d0 := one_cell k0
    exact bodyPost_ret (v := .agg #[.pointer (some ⟨g8, 0, none⟩)]) (by simp [results, Tryz.results113, go_sem, d0]) rfl
      ⟨g8, rfl, HI8.out.store HK2.out (by decide) (by decide) _, hB, hs8⟩

set_option maxRecDepth 100000 in
set_option maxHeartbeats 4000000 in
theorem subRaw_panic (gx : Nat) (n x : Int) (p q : Addr) (w : World) (hn : -9223372036854775808 ≤ n ∧ n < 9223372036854775808) (hx : IntAt w gx x) (he : ErrsAre w p q) (ox : overI x = false) (oz : overI (x - n) = true) :
    Calls Tryz.prog 113 #[.agg #[.pointer (some ⟨gx, 0, none⟩)], .int .i64 n] w (PanicPost w) := by
  have HAD := Lib.hid (fun (g2 : Nat) (w2 : World) (h1 : IntAt w2 gx x) (h2 : IntAt w2 g2 n) (he2 : ErrsAre w2 p q) => intSub2_panic gx g2 x n p q w2 h1 h2 he2 ox (overI_i64 hn) oz)
  have HX := Lib.hid hx
  have HE := Lib.hid he
  have HNW := Lib.hid (fun (w2 : World) => cnewInt_walk n w2 hn)
  clear hx ox oz he
  have hkept := incm_beginI w gx
  obtain ⟨wa, hwa⟩ : ∃ wa, (w.alloc (.cells #[.pointer (some ⟨gx, 0, none⟩)] 80)).alloc (.cells #[.pointer none] 80) = wa := ⟨_, rfl⟩
  rw [hwa] at hkept
  have HWA := Lib.hid hwa
  have c0 := hkept.1
  have HKP := Lib.hid hkept.2.below
  clear hwa hkept
  go_enter Tryz.func113, Tryz.ntmps113
  go_upto_region 1 with fail
  rw [HWA.out]
  go_region_with (first
      | (go_at_call 119; refine (HNW.out _).mono ?_; rintro e w7 ⟨g7, rfl, hi7, hgr, hf7'⟩; have hf7 : w.heap.size ≤ g7 := Nat.le_trans HKP.out.size hf7'; have HI7 := Lib.hid hi7; have HB7 := Lib.hid hgr; have c7 := (hgr.cell (by exact World.block_lt_of_cell? _ _ c0)).trans c0; clear hi7 hgr)
      | (go_at_call 99; refine (HAD.out g7 _ (HX.out.below (bt HKP.out.drew HB7.out)) HI7.out (HE.out.below (bt HKP.out.drew HB7.out))).mono ?_; rintro e w8 ⟨t8, v8, rfl, hb8⟩; have hp : PanicPost w (.panicked [{ v := .iface t8 v8, recovered := false }]) w8 := ⟨_, _, rfl, bt (bt HKP.out.drew HB7.out) hb8⟩; suffices hq : wpAny Tryz.prog .any #[] (fun _ _ _ => True) 0 #[] ⟨#[], []⟩ w8 by (go_wp2_with fail; exact ⟨rfl, hp⟩)))
  all_goals trivial

set_option maxRecDepth 100000 in
set_option maxHeartbeats 4000000 in
theorem mulRaw_walk (gx : Nat) (n x : Int) (w : World) (hn : -9223372036854775808 ≤ n ∧ n < 9223372036854775808) (hx : IntAt w gx x) (hk : KaraIs w) (ox : overI x = false) (oz : overI (x * n) = false) :
    Calls Tryz.prog 114 #[.agg #[.pointer (some ⟨gx, 0, none⟩)], .int .i64 n] w (MadePost w (x * n)) := by
  have HAD := Lib.hid (fun (g2 : Nat) (w2 : World) (h1 : IntAt w2 gx x) (h2 : IntAt w2 g2 n) (hne : g2 ≠ gx) (h5 : KaraIs w2) => intMul2_walk gx g2 x n w2 h1 h2 hne h5 ox (overI_i64 hn) oz)
  have HX := Lib.hid hx
  have HNW := Lib.hid (fun (w2 : World) => cnewInt_walk n w2 hn)
  have HK := Lib.hid hk
  clear hx ox oz hk
  have hkept := incm_beginI w gx
  obtain ⟨wa, hwa⟩ : ∃ wa, (w.alloc (.cells #[.pointer (some ⟨gx, 0, none⟩)] 80)).alloc (.cells #[.pointer none] 80) = wa := ⟨_, rfl⟩
  rw [hwa] at hkept
  have HWA := Lib.hid hwa
  clear hwa
  go_enter Tryz.func114, Tryz.ntmps114
  go_upto_region 1 with fail
  rw [HWA.out]
  go_region_held3 (fun w' => w'.cell? ⟨w.heap.size, 0, none⟩ = some (.pointer (some ⟨gx, 0, none⟩)) ∧ IncMI w w')
    (first | exact incm_drewI hkept | exact incm_growI (by assumption) hgr | exact incm_setI (by assumption) | assumption)
    (first
      | (go_at_call 119; refine (HNW.out _).mono ?_; rintro e w7 ⟨g7, rfl, hi7, hgr, hf7'⟩; have hf7 : w.heap.size ≤ g7 := Nat.le_trans (by go_split_ands; exact IncMI.size (by assumption)) hf7'; have HI7 := Lib.hid hi7; clear hi7 hf7')
      | (go_at_call 100; refine (HAD.out g7 _ (HX.out.below (by go_split_ands; exact IncMI.below (by assumption))) HI7.out (Nat.ne_of_gt (Nat.lt_of_lt_of_le HX.out.lt hf7)) (HK.out.below (by go_split_ands; exact IncMI.below (by assumption)))).mono ?_; rintro e w8 ⟨g8, rfl, hi8, hgr, hf8⟩; obtain ⟨x2, hk2⟩ := incm_blkI hgr (by go_split_ands; assumption); have c20 := one_cell hk2; have f20 := one_free hk2 0; have hs8 : w.heap.size ≤ g8 := Nat.le_trans (by go_split_ands; exact IncMI.size (by assumption)) hf8; have HK2 := Lib.hid hk2; have HI8 := Lib.hid hi8; clear hi8 hk2 hf8))
  all_goals
    have hB := (‹_ ∧ IncMI w (w8.setCell _ _)›).2.below
    go_wp2_with fail
    have k0 := one_set (u := .pointer (some ⟨g8, 0, none⟩)) HK2.out
    have d0 := one_cell k0
    exact bodyPost_ret (v := .agg #[.pointer (some ⟨g8, 0, none⟩)]) (by simp [results, Tryz.results114, go_sem, d0]) rfl
      ⟨g8, rfl, HI8.out.store HK2.out (by decide) (by decide) _, hB, hs8⟩

set_option maxRecDepth 100000 in
set_option maxHeartbeats 4000000 in
theorem mulRaw_panic (gx : Nat) (n x : Int) (p q : Addr) (w : World) (hn : -9223372036854775808 ≤ n ∧ n < 9223372036854775808) (hx : IntAt w gx x) (he : ErrsAre w p q) (hk : KaraIs w) (ox : overI x = false) (oz : overI (x * n) = true) :
    Calls Tryz.prog 114 #[.agg #[.pointer (some ⟨gx, 0, none⟩)], .int .i64 n] w (PanicPost w) := by
  have HAD := Lib.hid (fun (g2 : Nat) (w2 : World) (h1 : IntAt w2 gx x) (h2 : IntAt w2 g2 n) (he2 : ErrsAre w2 p q) (hne : g2 ≠ gx) (h5 : KaraIs w2) => intMul2_panic gx g2 x n p q w2 h1 h2 he2 hne h5 ox (overI_i64 hn) oz)
  have HX := Lib.hid hx
  have HE := Lib.hid he
  have HNW := Lib.hid (fun (w2 : World) => cnewInt_walk n w2 hn)
  have HK := Lib.hid hk
  clear hx ox oz he hk
  have hkept := incm_beginI w gx
  obtain ⟨wa, hwa⟩ : ∃ wa, (w.alloc (.cells #[.pointer (some ⟨gx, 0, none⟩)] 80)).alloc (.cells #[.pointer none] 80) = wa := ⟨_, rfl⟩
  rw [hwa] at hkept
  have HWA := Lib.hid hwa
  have c0 := hkept.1
  have HKP := Lib.hid hkept.2.below
  clear hwa hkept
  go_enter Tryz.func114, Tryz.ntmps114
  go_upto_region 1 with fail
  rw [HWA.out]
  go_region_with (first
      | (go_at_call 119; refine (HNW.out _).mono ?_; rintro e w7 ⟨g7, rfl, hi7, hgr, hf7'⟩; have hf7 : w.heap.size ≤ g7 := Nat.le_trans HKP.out.size hf7'; have HI7 := Lib.hid hi7; have HB7 := Lib.hid hgr; have c7 := (hgr.cell (by exact World.block_lt_of_cell? _ _ c0)).trans c0; clear hi7 hgr)
      | (go_at_call 100; refine (HAD.out g7 _ (HX.out.below (bt HKP.out.drew HB7.out)) HI7.out (HE.out.below (bt HKP.out.drew HB7.out)) (Nat.ne_of_gt (Nat.lt_of_lt_of_le HX.out.lt hf7)) (HK.out.below (bt HKP.out.drew HB7.out))).mono ?_; rintro e w8 ⟨t8, v8, rfl, hb8⟩; have hp : PanicPost w (.panicked [{ v := .iface t8 v8, recovered := false }]) w8 := ⟨_, _, rfl, bt (bt HKP.out.drew HB7.out) hb8⟩; suffices hq : wpAny Tryz.prog .any #[] (fun _ _ _ => True) 0 #[] ⟨#[], []⟩ w8 by (go_wp2_with fail; exact ⟨rfl, hp⟩)))
  all_goals trivial

set_option maxRecDepth 100000 in
set_option maxHeartbeats 4000000 in
theorem quoRaw_walk (gx : Nat) (n x : Int) (w : World) (hn : -9223372036854775808 ≤ n ∧ n < 9223372036854775808) (hn0 : n ≠ 0) (hx : IntAt w gx x) (hk : DivIs w) (ox : overI x = false) :
    Calls Tryz.prog 115 #[.agg #[.pointer (some ⟨gx, 0, none⟩)], .int .i64 n] w (MadePost w (x.tdiv n)) := by
  have HAD := Lib.hid (fun (g2 : Nat) (w2 : World) (h1 : IntAt w2 gx x) (h2 : IntAt w2 g2 n) (hne : g2 ≠ gx) (h5 : DivIs w2) => intQuo2_walk gx g2 x n w2 h1 h2 hne h5 hn0 ox (overI_i64 hn))
  have HX := Lib.hid hx
  have HNW := Lib.hid (fun (w2 : World) => cnewInt_walk n w2 hn)
  have HK := Lib.hid hk
  clear hx ox hk
  have hkept := incm_beginI w gx
  obtain ⟨wa, hwa⟩ : ∃ wa, (w.alloc (.cells #[.pointer (some ⟨gx, 0, none⟩)] 80)).alloc (.cells #[.pointer none] 80) = wa := ⟨_, rfl⟩
  rw [hwa] at hkept
  have HWA := Lib.hid hwa
  clear hwa
  go_enter Tryz.func115, Tryz.ntmps115
  go_upto_region 1 with fail
  rw [HWA.out]
  go_region_held3 (fun w' => w'.cell? ⟨w.heap.size, 0, none⟩ = some (.pointer (some ⟨gx, 0, none⟩)) ∧ IncMI w w')
    (first | exact incm_drewI hkept | exact incm_growI (by assumption) hgr | exact incm_setI (by assumption) | assumption)
    (first
      | (go_at_call 119; refine (HNW.out _).mono ?_; rintro e w7 ⟨g7, rfl, hi7, hgr, hf7'⟩; have hf7 : w.heap.size ≤ g7 := Nat.le_trans (by go_split_ands; exact IncMI.size (by assumption)) hf7'; have HI7 := Lib.hid hi7; clear hi7 hf7')
      | (go_at_call 101; refine (HAD.out g7 _ (HX.out.below (by go_split_ands; exact IncMI.below (by assumption))) HI7.out (Nat.ne_of_gt (Nat.lt_of_lt_of_le HX.out.lt hf7)) (HK.out.below (by go_split_ands; exact IncMI.below (by assumption)) HK.out.lt)).mono ?_; rintro e w8 ⟨g8, rfl, hi8, hgr, hf8⟩; obtain ⟨x2, hk2⟩ := incm_blkI hgr (by go_split_ands; assumption); have c20 := one_cell hk2; have f20 := one_free hk2 0; have hs8 : w.heap.size ≤ g8 := Nat.le_trans (by go_split_ands; exact IncMI.size (by assumption)) hf8; have HK2 := Lib.hid hk2; have HI8 := Lib.hid hi8; clear hi8 hk2 hf8))
  all_goals
    have hB := (‹_ ∧ IncMI w (w8.setCell _ _)›).2.below
    go_wp2_with fail
    have k0 := one_set (u := .pointer (some ⟨g8, 0, none⟩)) HK2.out
    have d0 := one_cell k0
    exact bodyPost_ret (v := .agg #[.pointer (some ⟨g8, 0, none⟩)]) (by simp [results, Tryz.results115, go_sem, d0]) rfl
      ⟨g8, rfl, HI8.out.store HK2.out (by decide) (by decide) _, hB, hs8⟩

set_option maxRecDepth 100000 in
set_option maxHeartbeats 4000000 in
theorem quoRaw_panic (gx : Nat) (n x : Int) (p q : Addr) (w : World) (hn : -9223372036854775808 ≤ n ∧ n < 9223372036854775808) (hn0 : n = 0) (hx : IntAt w gx x) (he : ErrsAre w p q) :
    Calls Tryz.prog 115 #[.agg #[.pointer (some ⟨gx, 0, none⟩)], .int .i64 n] w (PanicPost w) := by
  have HAD := Lib.hid (fun (g2 : Nat) (w2 : World) (h1 : IntAt w2 gx x) (h2 : IntAt w2 g2 n) (he2 : ErrsAre w2 p q) => intQuo2_panic gx g2 x n p q w2 h1 h2 he2 hn0)
  have HX := Lib.hid hx
  have HE := Lib.hid he
  have HNW := Lib.hid (fun (w2 : World) => cnewInt_walk n w2 hn)
  clear hx hn0 he
  have hkept := incm_beginI w gx
  obtain ⟨wa, hwa⟩ : ∃ wa, (w.alloc (.cells #[.pointer (some ⟨gx, 0, none⟩)] 80)).alloc (.cells #[.pointer none] 80) = wa := ⟨_, rfl⟩
  rw [hwa] at hkept
  have HWA := Lib.hid hwa
  have c0 := hkept.1
  have HKP := Lib.hid hkept.2.below
  clear hwa hkept
  go_enter Tryz.func115, Tryz.ntmps115
  go_upto_region 1 with fail
  rw [HWA.out]
  go_region_with (first
      | (go_at_call 119; refine (HNW.out _).mono ?_; rintro e w7 ⟨g7, rfl, hi7, hgr, hf7'⟩; have hf7 : w.heap.size ≤ g7 := Nat.le_trans HKP.out.size hf7'; have HI7 := Lib.hid hi7; have HB7 := Lib.hid hgr; have c7 := (hgr.cell (by exact World.block_lt_of_cell? _ _ c0)).trans c0; clear hi7 hgr)
      | (go_at_call 101; refine (HAD.out g7 _ (HX.out.below (bt HKP.out.drew HB7.out)) HI7.out (HE.out.below (bt HKP.out.drew HB7.out))).mono ?_; rintro e w8 ⟨t8, v8, rfl, hb8⟩; have hp : PanicPost w (.panicked [{ v := .iface t8 v8, recovered := false }]) w8 := ⟨_, _, rfl, bt (bt HKP.out.drew HB7.out) hb8⟩; suffices hq : wpAny Tryz.prog .any #[] (fun _ _ _ => True) 0 #[] ⟨#[], []⟩ w8 by (go_wp2_with fail; exact ⟨rfl, hp⟩)))
  all_goals trivial

set_option maxRecDepth 100000 in
set_option maxHeartbeats 4000000 in
theorem modRaw_walk (gx : Nat) (n x : Int) (w : World) (hn : -9223372036854775808 ≤ n ∧ n < 9223372036854775808) (hn0 : n ≠ 0) (hx : IntAt w gx x) (hk : DivIs w) (ox : overI x = false) :
    Calls Tryz.prog 116 #[.agg #[.pointer (some ⟨gx, 0, none⟩)], .int .i64 n] w (MadePost w (modZ x n)) := by
  have HAD := Lib.hid (fun (g2 : Nat) (w2 : World) (h1 : IntAt w2 gx x) (h2 : IntAt w2 g2 n) (hne : g2 ≠ gx) (h5 : DivIs w2) => intMod2_walk gx g2 x n w2 h1 h2 hne h5 hn0 ox (overI_i64 hn))
  have HX := Lib.hid hx
  have HNW := Lib.hid (fun (w2 : World) => cnewInt_walk n w2 hn)
  have HK := Lib.hid hk
  clear hx ox hk
  have hkept := incm_beginI w gx
  obtain ⟨wa, hwa⟩ : ∃ wa, (w.alloc (.cells #[.pointer (some ⟨gx, 0, none⟩)] 80)).alloc (.cells #[.pointer none] 80) = wa := ⟨_, rfl⟩
  rw [hwa] at hkept
  have HWA := Lib.hid hwa
  clear hwa
  go_enter Tryz.func116, Tryz.ntmps116
  go_upto_region 1 with fail
  rw [HWA.out]
  go_region_held3 (fun w' => w'.cell? ⟨w.heap.size, 0, none⟩ = some (.pointer (some ⟨gx, 0, none⟩)) ∧ IncMI w w')
    (first | exact incm_drewI hkept | exact incm_growI (by assumption) hgr | exact incm_setI (by assumption) | assumption)
    (first
      | (go_at_call 119; refine (HNW.out _).mono ?_; rintro e w7 ⟨g7, rfl, hi7, hgr, hf7'⟩; have hf7 : w.heap.size ≤ g7 := Nat.le_trans (by go_split_ands; exact IncMI.size (by assumption)) hf7'; have HI7 := Lib.hid hi7; clear hi7 hf7')
      | (go_at_call 102; refine (HAD.out g7 _ (HX.out.below (by go_split_ands; exact IncMI.below (by assumption))) HI7.out (Nat.ne_of_gt (Nat.lt_of_lt_of_le HX.out.lt hf7)) (HK.out.below (by go_split_ands; exact IncMI.below (by assumption)) HK.out.lt)).mono ?_; rintro e w8 ⟨g8, rfl, hi8, hgr, hf8⟩; obtain ⟨x2, hk2⟩ := incm_blkI hgr (by go_split_ands; assumption); have c20 := one_cell hk2; have f20 := one_free hk2 0; have hs8 : w.heap.size ≤ g8 := Nat.le_trans (by go_split_ands; exact IncMI.size (by assumption)) hf8; have HK2 := Lib.hid hk2; have HI8 := Lib.hid hi8; clear hi8 hk2 hf8))
  all_goals
    have hB := (‹_ ∧ IncMI w (w8.setCell _ _)›).2.below
    go_wp2_with fail
    have k0 := one_set (u := .pointer (some ⟨g8, 0, none⟩)) HK2.out
    have d0 := one_cell k0
    exact bodyPost_ret (v := .agg #[.pointer (some ⟨g8, 0, none⟩)]) (by simp [results, Tryz.results116, go_sem, d0]) rfl
      ⟨g8, rfl, HI8.out.store HK2.out (by decide) (by decide) _, hB, hs8⟩

set_option maxRecDepth 100000 in
set_option maxHeartbeats 4000000 in
theorem modRaw_panic (gx : Nat) (n x : Int) (p q : Addr) (w : World) (hn : -9223372036854775808 ≤ n ∧ n < 9223372036854775808) (hn0 : n = 0) (hx : IntAt w gx x) (he : ErrsAre w p q) :
    Calls Tryz.prog 116 #[.agg #[.pointer (some ⟨gx, 0, none⟩)], .int .i64 n] w (PanicPost w) := by
  have HAD := Lib.hid (fun (g2 : Nat) (w2 : World) (h1 : IntAt w2 gx x) (h2 : IntAt w2 g2 n) (he2 : ErrsAre w2 p q) => intMod2_panic gx g2 x n p q w2 h1 h2 he2 hn0)
  have HX := Lib.hid hx
  have HE := Lib.hid he
  have HNW := Lib.hid (fun (w2 : World) => cnewInt_walk n w2 hn)
  clear hx hn0 he
  have hkept := incm_beginI w gx
  obtain ⟨wa, hwa⟩ : ∃ wa, (w.alloc (.cells #[.pointer (some ⟨gx, 0, none⟩)] 80)).alloc (.cells #[.pointer none] 80) = wa := ⟨_, rfl⟩
  rw [hwa] at hkept
  have HWA := Lib.hid hwa
  have c0 := hkept.1
  have HKP := Lib.hid hkept.2.below
  clear hwa hkept
  go_enter Tryz.func116, Tryz.ntmps116
  go_upto_region 1 with fail
  rw [HWA.out]
  go_region_with (first
      | (go_at_call 119; refine (HNW.out _).mono ?_; rintro e w7 ⟨g7, rfl, hi7, hgr, hf7'⟩; have hf7 : w.heap.size ≤ g7 := Nat.le_trans HKP.out.size hf7'; have HI7 := Lib.hid hi7; have HB7 := Lib.hid hgr; have c7 := (hgr.cell (by exact World.block_lt_of_cell? _ _ c0)).trans c0; clear hi7 hgr)
      | (go_at_call 102; refine (HAD.out g7 _ (HX.out.below (bt HKP.out.drew HB7.out)) HI7.out (HE.out.below (bt HKP.out.drew HB7.out))).mono ?_; rintro e w8 ⟨t8, v8, rfl, hb8⟩; have hp : PanicPost w (.panicked [{ v := .iface t8 v8, recovered := false }]) w8 := ⟨_, _, rfl, bt (bt HKP.out.drew HB7.out) hb8⟩; suffices hq : wpAny Tryz.prog .any #[] (fun _ _ _ => True) 0 #[] ⟨#[], []⟩ w8 by (go_wp2_with fail; exact ⟨rfl, hp⟩)))
  all_goals trivial
end Go.Proofs.YtiohlcfdoleooaaGreatDoor
