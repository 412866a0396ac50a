/-
  Uint.Quo of cosmosmath, where it returns.
-/
import Derived.Test.YtiohlcfdoleooaaGreatDoorBn03Z
import Derived.Test.YtiohlcfdoleooaaGreatDoorBn09Z
import Derived.Test.YtiohlcfdoleooaaGreatDoorBn22Z
namespace Go.Proofs.YtiohlcfdoleooaaGreatDoor
open Go.RowKit

/-- A Uint has four words. -/
theorem overU_words4 {z : Int} (h : overU z = false) : (wds z.natAbs).length ≤ 4 := by
  unfold overU at h
  rw [Bool.or_eq_false_iff] at h
  have h2 := of_decide_eq_false h.2
  exact toD_length_le (by decide) 4 _ (Nat.lt_of_lt_of_le ((natLen_lt_iff z.natAbs 256).1 (by omega)) (by decide))
set_option maxRecDepth 100000 in
set_option maxHeartbeats 2000000 in
theorem bigDiv_walk (gx gy : Nat) (x y : Int) (w : World) (hx : IntAt w gx x) (hy : IntAt w gy y) (hne : gy ≠ gx) (hk : DivIs w) (hy0 : y ≠ 0) (ox : overU x = false) (oy : overU y = false) :
    Calls Tryz.prog 143 #[.pointer (some ⟨gx, 0, none⟩), .pointer (some ⟨gy, 0, none⟩)] w fun e w' => ∃ g, e = .returned (.pointer (some ⟨g, 0, none⟩)) ∧ IntAt w' g (x.tdiv y) ∧ Below w.heap.size w w' ∧ w.heap.size ≤ g := by
  have hb := below_a1 w (.cells #[.bool false, .slice none 0 0] 101)
  have HQ := Lib.hid (intQuo_walk w.heap.size gx gy x y _ (heap_here w _) (hx.below hb) (hy.below hb) hne (Nat.ne_of_lt hx.lt) (Nat.ne_of_lt hy.lt) (hk.below hb hk.lt) (by have := overU_words ox; omega) (overU_words4 oy) hy0)
  have HB := Lib.hid hb
  clear hx hy hk hb
  go_enter Tryz.func143, Tryz.ntmps143
  go_wp2_with fail
  refine HQ.out.mono ?_
  rintro e w1 ⟨rfl, hi, hx1⟩
  have HI := Lib.hid hi
  have HB1 := Lib.hid (HB.out.trans (hx1.below (by rw [heap_size_alloc]; omega) (fun k hk => by omega)))
  clear hi hx1
  go_wp2_with fail
  go_ret
  exact ⟨w.heap.size, rfl, HI.out, HB1.out, Nat.le_refl _⟩

set_option maxRecDepth 100000 in
set_option maxHeartbeats 2000000 in
theorem uintQuo_walk (gx gy : Nat) (x y : Int) (w : World) (hx : IntAt w gx x) (hy : IntAt w gy y) (hne : gy ≠ gx) (hk : DivIs w) (hy0 : y ≠ 0) (ox : overU x = false) (oy : overU y = false) (oz : overU (x.tdiv y) = false) :
    Calls Tryz.prog 71 #[.agg #[.pointer (some ⟨gx, 0, none⟩)], .agg #[.pointer (some ⟨gy, 0, none⟩)]] w (MadePost w (x.tdiv y)) := by
  have hT := twoBox w gx gy x y hx hy
  have hwl := overU_words oz
  have HT := Lib.hid hT
  have HS := Lib.hid (fun (w2 : World) (h2 : IntAt w2 gx x) (h3 : IntAt w2 gy y) (h6 : DivIs w2) => bigDiv_walk gx gy x y w2 h2 h3 hne h6 hy0 ox oy)
  have HN := Lib.hid (fun (g : Nat) (w2 : World) (h1 : IntAt w2 g (x.tdiv y)) => newUint_walk g (x.tdiv y) w2 h1 (by omega) oz)
  have HK := Lib.hid hk
  clear hx hy hT hk
  go_enter Tryz.func71, Tryz.ntmps71
  go_upto_region 1 with fail
  obtain ⟨wa, hwa⟩ : ∃ wa, ((w.alloc (.cells #[.pointer (some ⟨gx, 0, none⟩)] 64)).alloc (.cells #[.pointer (some ⟨gy, 0, none⟩)] 64)).alloc (.cells #[.pointer none] 64) = wa := ⟨_, rfl⟩
  rw [hwa] at HT ⊢
  have c0 : wa.cell? ⟨w.heap.size, 0, none⟩ = some (.pointer (some ⟨gx, 0, none⟩)) := one_cell HT.out.b0
  have c1 : wa.cell? ⟨w.heap.size + 1, 0, none⟩ = some (.pointer (some ⟨gy, 0, none⟩)) := one_cell HT.out.b1
  have hs2 := iter_lt HT.out.b2
  clear hwa
  go_wp2_with fail
  refine (HS.out wa HT.out.hx HT.out.hy (HK.out.below HT.out.below HK.out.lt)).mono ?_
  rintro e w1 ⟨g1, rfl, hi1, hx1, hg1⟩
  have hk1 := (hx1.block (w.heap.size + 1 + 1) hs2).trans HT.out.b2
  have hb1 : Below w.heap.size w w1 := bt HT.out.below hx1
  have HK1 := Lib.hid hk1
  have HI1 := Lib.hid hi1
  have HB1 := Lib.hid hb1
  clear hk1 hi1 hx1 hb1 c0 c1
  go_wp2_with fail
  refine (HN.out _ w1 HI1.out).mono ?_
  rintro e w5 ⟨g5, rfl, hi5, hb5, hfr⟩
  have hk5 := (hb5.block (w.heap.size + 1 + 1) (iter_lt HK1.out)).trans HK1.out
  have c0 := one_cell hk5
  have f0 := one_free hk5 0
  have HK5 := Lib.hid hk5
  have HI5 := Lib.hid hi5
  have HB5 := Lib.hid hb5
  clear hk5 hi5 hb5
  go_wp2_with fail
  have k0 := one_set (u := .pointer (some ⟨g5, 0, none⟩)) HK5.out
  have d0 := one_cell k0
  exact bodyPost_ret (v := .agg #[.pointer (some ⟨g5, 0, none⟩)]) (by simp [results, Tryz.results71, go_sem, d0]) rfl
    ⟨g5, rfl, HI5.out.store HK5.out (by decide) (by decide) _, (bt HB1.out HB5.out).setCell (p := ⟨w.heap.size + 1 + 1, 0, none⟩) (by show w.heap.size ≤ w.heap.size + 1 + 1; omega) _, Nat.le_trans HB1.out.size hfr⟩
end Go.Proofs.YtiohlcfdoleooaaGreatDoor

/-
  A division by zero panics: (nat).div, Int.Quo, div, Uint.Quo.
-/
namespace Go.Proofs.YtiohlcfdoleooaaGreatDoor
open Go.RowKit

set_option maxRecDepth 100000 in
set_option maxHeartbeats 2000000 in
theorem natDiv_panic (N : Nat) (A B : Option Addr) (c d : Nat) (w : World) :
    Calls Tryz.prog 208 #[.slice none 0 0, .pointer none, .slice none 0 0, .slice A (wds N).length c, .slice B 0 d] w (PanicPost w) := by
  obtain ⟨ln, hln⟩ : ∃ ln, (wds N).length = ln := ⟨_, rfl⟩
  rw [hln]
  clear hln
  go_enter_defers Tryz.func208, Tryz.ntmps208
  go_wp2_with fail
  exact ⟨_, _, rfl, Below.refl _ _⟩

set_option maxRecDepth 100000 in
set_option maxHeartbeats 4000000 in
theorem intQuo_panic (gz gx gy : Nat) (x : Int) (w : World) (hz : IntNew w gz) (hx : IntAt w gx x) (hy : IntAt w gy 0) (_hgx : gx ≠ gz) (_hgy : gy ≠ gz) :
    Calls Tryz.prog 185 #[.pointer (some ⟨gz, 0, none⟩), .pointer (some ⟨gx, 0, none⟩), .pointer (some ⟨gy, 0, none⟩)] w (PanicPost w) := by
  obtain ⟨A, c, hkx, h2, h3, h4⟩ := hx
  obtain ⟨B, d, hky, i2, i3, i4⟩ := hy
  have c1 := num_cell1 hz
  have d1 := num_cell1 hkx
  have e1 := num_cell1 hky
  have e0 : (wds (0 : Int).natAbs).length = 0 := by rw [Int.natAbs_zero, wds_zero]; rfl
  rw [e0] at e1
  have HM := Lib.hid (fun (w2 : World) => natDiv_panic x.natAbs A B c d w2)
  clear h4 i4 hz hkx hky e0 i2
  go_enter Tryz.func185, Tryz.ntmps185
  go_upto_region 1 with fail
  go_region_with ((go_at_call 208; refine (HM.out _).mono ?_; rintro e w1 ⟨t8, v8, rfl, hb8⟩; have hp : PanicPost w (.panicked [{ v := .iface t8 v8, recovered := false }]) w1 := ⟨_, _, rfl, (by first | exact hb8 | exact ((Below.refl w.heap.size w).drew).trans hb8 | exact (below_drewN (Below.refl w.heap.size w) _).trans hb8)⟩; suffices hq : wpAny Tryz.prog .any #[] (fun _ _ _ => True) 0 #[] ⟨#[], []⟩ w1 by (go_wp2_with fail; exact ⟨rfl, hp⟩)))
  all_goals trivial

set_option maxRecDepth 100000 in
set_option maxHeartbeats 2000000 in
theorem bigDiv_panic (gx gy : Nat) (x : Int) (w : World) (hx : IntAt w gx x) (hy : IntAt w gy 0) :
    Calls Tryz.prog 143 #[.pointer (some ⟨gx, 0, none⟩), .pointer (some ⟨gy, 0, none⟩)] w (PanicPost w) := by
  have hb := below_a1 w (.cells #[.bool false, .slice none 0 0] 101)
  have HQ := Lib.hid (intQuo_panic w.heap.size gx gy x _ (heap_here w _) (hx.below hb) (hy.below hb) (Nat.ne_of_lt hx.lt) (Nat.ne_of_lt hy.lt))
  have HB := Lib.hid hb
  clear hx hy hb
  go_enter Tryz.func143, Tryz.ntmps143
  go_wp2_with fail
  refine HQ.out.mono ?_
  rintro e w1 ⟨t5, v5, rfl, hb5⟩
  have HB5 := Lib.hid (HB.out.trans (hb5.mono HB.out.size))
  clear hb5
  go_wp2_with fail
  have hp : PanicPost w (.panicked [{ v := .iface t5 v5, recovered := false }]) w1 := ⟨_, _, rfl, HB5.out⟩
  exact ⟨rfl, hp⟩

set_option maxRecDepth 100000 in
set_option maxHeartbeats 2000000 in
theorem uintQuo_panic (gx gy : Nat) (x : Int) (w : World) (hx : IntAt w gx x) (hy : IntAt w gy 0) :
    Calls Tryz.prog 71 #[.agg #[.pointer (some ⟨gx, 0, none⟩)], .agg #[.pointer (some ⟨gy, 0, none⟩)]] w (PanicPost w) := by
  have hT := twoBox w gx gy x 0 hx hy
  have HT := Lib.hid hT
  have HS := Lib.hid (fun (w2 : World) (h2 : IntAt w2 gx x) (h3 : IntAt w2 gy 0) => bigDiv_panic gx gy x w2 h2 h3)
  clear hx hy hT
  go_enter Tryz.func71, Tryz.ntmps71
  go_upto_region 1 with fail
  obtain ⟨wa, hwa⟩ : ∃ wa, ((w.alloc (.cells #[.pointer (some ⟨gx, 0, none⟩)] 64)).alloc (.cells #[.pointer (some ⟨gy, 0, none⟩)] 64)).alloc (.cells #[.pointer none] 64) = wa := ⟨_, rfl⟩
  rw [hwa] at HT ⊢
  have c0 : wa.cell? ⟨w.heap.size, 0, none⟩ = some (.pointer (some ⟨gx, 0, none⟩)) := one_cell HT.out.b0
  have c1 : wa.cell? ⟨w.heap.size + 1, 0, none⟩ = some (.pointer (some ⟨gy, 0, none⟩)) := one_cell HT.out.b1
  clear hwa
  go_wp2_with fail
  refine (HS.out wa HT.out.hx HT.out.hy).mono ?_
  rintro e w1 ⟨t5, v5, rfl, hb5⟩
  have HB5 := Lib.hid (bt HT.out.below hb5)
  clear hb5 c0 c1
  go_wp2_with fail
  have hp : PanicPost w (.panicked [{ v := .iface t5 v5, recovered := false }]) w1 := ⟨_, _, rfl, HB5.out⟩
  exact ⟨rfl, hp⟩
end Go.Proofs.YtiohlcfdoleooaaGreatDoor

/-
  What UintDo and UintRaw hand back.
-/
namespace Go.Proofs.YtiohlcfdoleooaaGreatDoor
open Go.RowKit

/-- What is done with two numbers; none: a division by 0. -/
def opZ (op : Nat) (x y : Int) : Option Int :=
  match op with
  | 0 => some (x + y)
  | 1 => some (x - y)
  | 2 => some (x * y)
  | 3 => if y = 0 then none else some (x.tdiv y)
  | 4 => if y = 0 then none else some (x.tmod y)
  | 5 => some (minZ x y)
  | 6 => some (maxZ x y)
  | _ => none
/-- What UintDo hands back: none where it panics. -/
def uRes (op : Nat) (x y : Int) : Option Int :=
  match opZ op x y with
  | some z => if overU z = true then none else some z
  | none => none
def outT (r : Option Int) : List UInt8 :=
  match r with
  | some z => zText z
  | none => []
def DoPost (w : World) (b : Nat) (r : Option Int) (e : Ending) (w' : World) : Prop :=
  match r with
  | some z => e = .returned (.tuple #[]) ∧ Ext (fun k => k = b) w w' ∧ w'.heap[b]? = some (.cells #[.string (S (zText z))] 9 (0, 0))
  | none => PanicPost w e w'
theorem quo_fits {x y : Int} (ox : overU x = false) (oy : overU y = false) : overU (x.tdiv y) = false := by
  have h1 := ox
  have h2 := oy
  unfold overU at h1 h2 ⊢
  rw [Bool.or_eq_false_iff] at h1 h2 ⊢
  have a1 := of_decide_eq_false h1.1
  have a2 := of_decide_eq_false h2.1
  have b1 := (natLen_lt_iff x.natAbs 256).1 (by have := of_decide_eq_false h1.2; omega)
  have e := natAbs_quo x y
  have hle : (x.tdiv y).natAbs ≤ x.natAbs := by rw [e]; exact Nat.div_le_self _ _
  have h0 : 0 ≤ x.tdiv y := Int.tdiv_nonneg (by omega) (by omega)
  refine ⟨decide_eq_false (by omega), decide_eq_false ?_⟩
  have := (natLen_lt_iff (x.tdiv y).natAbs 256).2 (by omega)
  omega
theorem mod_fits {x y : Int} (ox : overU x = false) (oy : overU y = false) (_hy : y ≠ 0) : overU (x.tmod y) = false := by
  have h1 := ox
  have h2 := oy
  unfold overU at h1 h2 ⊢
  rw [Bool.or_eq_false_iff] at h1 h2 ⊢
  have a1 := of_decide_eq_false h1.1
  have a2 := of_decide_eq_false h2.1
  have b1 := (natLen_lt_iff x.natAbs 256).1 (by have := of_decide_eq_false h1.2; omega)
  have h0 : 0 ≤ x.tmod y := Int.tmod_nonneg y (by omega)
  have hle : (x.tmod y).natAbs ≤ x.natAbs := by rw [Int.natAbs_tmod]; exact Nat.mod_le _ _
  refine ⟨decide_eq_false (by omega), decide_eq_false ?_⟩
  have := (natLen_lt_iff (x.tmod y).natAbs 256).2 (by omega)
  omega
theorem heap_size_drew (w : World) : w.drew.heap.size = w.heap.size := rfl
end Go.Proofs.YtiohlcfdoleooaaGreatDoor

/-
  AddUint64, SubUint64, MulUint64, QuoUint64 of cosmosmath.
-/
namespace Go.Proofs.YtiohlcfdoleooaaGreatDoor
open Go.RowKit

theorem over_u64' {n : Nat} (h : n < 18446744073709551616) : overU (n : Int) = false := (over_u64 h).1

set_option maxRecDepth 100000 in
set_option maxHeartbeats 4000000 in
theorem addUint64_walk (gx n : Nat) (x : Int) (w : World) (hn : n < 18446744073709551616) (hx : IntAt w gx x) (ox : overU x = false) (oz : overU (x + (n : Int)) = false) :
    Calls Tryz.prog 90 #[.agg #[.pointer (some ⟨gx, 0, none⟩)], .int .u64 (n : Int)] w (MadePost w (x + (n : Int))) := by
  have HAD := Lib.hid (fun (g2 : Nat) (w2 : World) (h1 : IntAt w2 gx x) (h2 : IntAt w2 g2 (n : Int)) => uintAdd_walk gx g2 x (n : Int) w2 h1 h2 ox (over_u64' hn) oz)
  have HX := Lib.hid hx
  have HNW := Lib.hid (fun (w2 : World) => newUintU_walk n w2 hn)
  clear hx ox oz
  have hkept := incm_begin w gx
  obtain ⟨wa, hwa⟩ : ∃ wa, (w.alloc (.cells #[.pointer (some ⟨gx, 0, none⟩)] 64)).alloc (.cells #[.pointer none] 64) = wa := ⟨_, rfl⟩
  rw [hwa] at hkept
  have HWA := Lib.hid hwa
  clear hwa
  go_enter Tryz.func90, Tryz.ntmps90
  go_upto_region 1 with fail
  rw [HWA.out]
  go_region_held3 (fun w' => w'.cell? ⟨w.heap.size, 0, none⟩ = some (.pointer (some ⟨gx, 0, none⟩)) ∧ IncM w w')
    (first | exact incm_drew hkept | exact incm_grow (by assumption) hgr | exact incm_set (by assumption) | assumption)
    (first
      | (go_at_call 156; refine (HNW.out _).mono ?_; rintro e w7 ⟨g7, rfl, hi7, hgr, hf7'⟩; have hf7 : w.heap.size ≤ g7 := Nat.le_trans (by go_split_ands; exact IncM.size (by assumption)) hf7'; have HI7 := Lib.hid hi7; clear hi7 hf7')
      | (go_at_call 67; refine (HAD.out g7 _ (HX.out.below (by go_split_ands; exact IncM.below (by assumption))) HI7.out).mono ?_; rintro e w8 ⟨g8, rfl, hi8, hgr, hf8⟩; obtain ⟨x2, hk2⟩ := incm_blk hgr (by go_split_ands; assumption); have c20 := one_cell hk2; have f20 := one_free hk2 0; have hs8 : w.heap.size ≤ g8 := Nat.le_trans (by go_split_ands; exact IncM.size (by assumption)) hf8; have HK2 := Lib.hid hk2; have HI8 := Lib.hid hi8; clear hi8 hk2 hf8))
  all_goals
    have hB := (‹_ ∧ IncM w (w8.setCell _ _)›).2.below
    go_wp2_with fail
    have k0 := one_set (u := .pointer (some ⟨g8, 0, none⟩)) HK2.out
    have d0 := one_cell k0
    exact bodyPost_ret (v := .agg #[.pointer (some ⟨g8, 0, none⟩)]) (by simp [results, Tryz.results90, go_sem, d0]) rfl
      ⟨g8, rfl, HI8.out.store HK2.out (by decide) (by decide) _, hB, hs8⟩

set_option maxRecDepth 100000 in
set_option maxHeartbeats 4000000 in
theorem addUint64_panic (gx n : Nat) (x : Int) (w : World) (hn : n < 18446744073709551616) (hx : IntAt w gx x) (ox : overU x = false) (oz : overU (x + (n : Int)) = true) :
    Calls Tryz.prog 90 #[.agg #[.pointer (some ⟨gx, 0, none⟩)], .int .u64 (n : Int)] w (PanicPost w) := by
  have HAD := Lib.hid (fun (g2 : Nat) (w2 : World) (h1 : IntAt w2 gx x) (h2 : IntAt w2 g2 (n : Int)) => uintAdd_panic gx g2 x (n : Int) w2 h1 h2 ox (over_u64' hn) oz)
  have HX := Lib.hid hx
  have HNW := Lib.hid (fun (w2 : World) => newUintU_walk n w2 hn)
  clear hx ox oz
  have hkept := incm_begin w gx
  obtain ⟨wa, hwa⟩ : ∃ wa, (w.alloc (.cells #[.pointer (some ⟨gx, 0, none⟩)] 64)).alloc (.cells #[.pointer none] 64) = wa := ⟨_, rfl⟩
  rw [hwa] at hkept
  have HWA := Lib.hid hwa
  have c0 := hkept.1
  have HKP := Lib.hid hkept.2.below
  clear hwa hkept
  go_enter Tryz.func90, Tryz.ntmps90
  go_upto_region 1 with fail
  rw [HWA.out]
  go_region_with (first
      | (go_at_call 156; refine (HNW.out _).mono ?_; rintro e w7 ⟨g7, rfl, hi7, hgr, hf7'⟩; have hf7 : w.heap.size ≤ g7 := Nat.le_trans HKP.out.size hf7'; have HI7 := Lib.hid hi7; have HB7 := Lib.hid hgr; have c7 := (hgr.cell (by exact World.block_lt_of_cell? _ _ c0)).trans c0; clear hi7 hgr)
      | (go_at_call 67; refine (HAD.out g7 _ (HX.out.below (bt HKP.out.drew HB7.out)) HI7.out).mono ?_; rintro e w8 ⟨t8, v8, rfl, hb8⟩; have hp : PanicPost w (.panicked [{ v := .iface t8 v8, recovered := false }]) w8 := ⟨_, _, rfl, bt (bt HKP.out.drew HB7.out) hb8⟩; suffices hq : wpAny Tryz.prog .any #[] (fun _ _ _ => True) 0 #[] ⟨#[], []⟩ w8 by (go_wp2_with fail; exact ⟨rfl, hp⟩)))
  all_goals trivial

set_option maxRecDepth 100000 in
set_option maxHeartbeats 4000000 in
theorem subUint64_walk (gx n : Nat) (x : Int) (w : World) (hn : n < 18446744073709551616) (hx : IntAt w gx x) (ox : overU x = false) (oz : overU (x - (n : Int)) = false) :
    Calls Tryz.prog 91 #[.agg #[.pointer (some ⟨gx, 0, none⟩)], .int .u64 (n : Int)] w (MadePost w (x - (n : Int))) := by
  have HAD := Lib.hid (fun (g2 : Nat) (w2 : World) (h1 : IntAt w2 gx x) (h2 : IntAt w2 g2 (n : Int)) => uintSub_walk gx g2 x (n : Int) w2 h1 h2 ox (over_u64' hn) oz)
  have HX := Lib.hid hx
  have HNW := Lib.hid (fun (w2 : World) => newUintU_walk n w2 hn)
  clear hx ox oz
  have hkept := incm_begin w gx
  obtain ⟨wa, hwa⟩ : ∃ wa, (w.alloc (.cells #[.pointer (some ⟨gx, 0, none⟩)] 64)).alloc (.cells #[.pointer none] 64) = wa := ⟨_, rfl⟩
  rw [hwa] at hkept
  have HWA := Lib.hid hwa
  clear hwa
  go_enter Tryz.func91, Tryz.ntmps91
  go_upto_region 1 with fail
  rw [HWA.out]
  go_region_held3 (fun w' => w'.cell? ⟨w.heap.size, 0, none⟩ = some (.pointer (some ⟨gx, 0, none⟩)) ∧ IncM w w')
    (first | exact incm_drew hkept | exact incm_grow (by assumption) hgr | exact incm_set (by assumption) | assumption)
    (first
      | (go_at_call 156; refine (HNW.out _).mono ?_; rintro e w7 ⟨g7, rfl, hi7, hgr, hf7'⟩; have hf7 : w.heap.size ≤ g7 := Nat.le_trans (by go_split_ands; exact IncM.size (by assumption)) hf7'; have HI7 := Lib.hid hi7; clear hi7 hf7')
      | (go_at_call 69; refine (HAD.out g7 _ (HX.out.below (by go_split_ands; exact IncM.below (by assumption))) HI7.out).mono ?_; rintro e w8 ⟨g8, rfl, hi8, hgr, hf8⟩; obtain ⟨x2, hk2⟩ := incm_blk hgr (by go_split_ands; assumption); have c20 := one_cell hk2; have f20 := one_free hk2 0; have hs8 : w.heap.size ≤ g8 := Nat.le_trans (by go_split_ands; exact IncM.size (by assumption)) hf8; have HK2 := Lib.hid hk2; have HI8 := Lib.hid hi8; clear hi8 hk2 hf8))
  all_goals
    have hB := (‹_ ∧ IncM w (w8.setCell _ _)›).2.below
    go_wp2_with fail
    have k0 := one_set (u := .pointer (some ⟨g8, 0, none⟩)) HK2.out
    have d0 := one_cell k0
    exact bodyPost_ret (v := .agg #[.pointer (some ⟨g8, 0, none⟩)]) (by simp [results, Tryz.results91, go_sem, d0]) rfl
      ⟨g8, rfl, HI8.out.store HK2.out (by decide) (by decide) _, hB, hs8⟩

set_option maxRecDepth 100000 in
set_option maxHeartbeats 4000000 in
theorem subUint64_panic (gx n : Nat) (x : Int) (w : World) (hn : n < 18446744073709551616) (hx : IntAt w gx x) (ox : overU x = false) (oz : overU (x - (n : Int)) = true) :
    Calls Tryz.prog 91 #[.agg #[.pointer (some ⟨gx, 0, none⟩)], .int .u64 (n : Int)] w (PanicPost w) := by
  have HAD := Lib.hid (fun (g2 : Nat) (w2 : World) (h1 : IntAt w2 gx x) (h2 : IntAt w2 g2 (n : Int)) => uintSub_panic gx g2 x (n : Int) w2 h1 h2 ox (over_u64' hn) oz)
  have HX := Lib.hid hx
  have HNW := Lib.hid (fun (w2 : World) => newUintU_walk n w2 hn)
  clear hx ox oz
  have hkept := incm_begin w gx
  obtain ⟨wa, hwa⟩ : ∃ wa, (w.alloc (.cells #[.pointer (some ⟨gx, 0, none⟩)] 64)).alloc (.cells #[.pointer none] 64) = wa := ⟨_, rfl⟩
  rw [hwa] at hkept
  have HWA := Lib.hid hwa
  have c0 := hkept.1
  have HKP := Lib.hid hkept.2.below
  clear hwa hkept
  go_enter Tryz.func91, Tryz.ntmps91
  go_upto_region 1 with fail
  rw [HWA.out]
  go_region_with (first
      | (go_at_call 156; refine (HNW.out _).mono ?_; rintro e w7 ⟨g7, rfl, hi7, hgr, hf7'⟩; have hf7 : w.heap.size ≤ g7 := Nat.le_trans HKP.out.size hf7'; have HI7 := Lib.hid hi7; have HB7 := Lib.hid hgr; have c7 := (hgr.cell (by exact World.block_lt_of_cell? _ _ c0)).trans c0; clear hi7 hgr)
      | (go_at_call 69; refine (HAD.out g7 _ (HX.out.below (bt HKP.out.drew HB7.out)) HI7.out).mono ?_; rintro e w8 ⟨t8, v8, rfl, hb8⟩; have hp : PanicPost w (.panicked [{ v := .iface t8 v8, recovered := false }]) w8 := ⟨_, _, rfl, bt (bt HKP.out.drew HB7.out) hb8⟩; suffices hq : wpAny Tryz.prog .any #[] (fun _ _ _ => True) 0 #[] ⟨#[], []⟩ w8 by (go_wp2_with fail; exact ⟨rfl, hp⟩)))
  all_goals trivial

set_option maxRecDepth 100000 in
set_option maxHeartbeats 4000000 in
theorem mulUint64_walk (gx n : Nat) (x : Int) (w : World) (hn : n < 18446744073709551616) (hx : IntAt w gx x) (hk : KaraIs w) (ox : overU x = false) (oz : overU (x * (n : Int)) = false) :
    Calls Tryz.prog 92 #[.agg #[.pointer (some ⟨gx, 0, none⟩)], .int .u64 (n : Int)] w (MadePost w (x * (n : Int))) := by
  have HAD := Lib.hid (fun (g2 : Nat) (w2 : World) (h1 : IntAt w2 gx x) (h2 : IntAt w2 g2 (n : Int)) (hne : g2 ≠ gx) (h5 : KaraIs w2) => uintMul_walk gx g2 x (n : Int) w2 h1 h2 hne h5 ox (over_u64' hn) oz)
  have HX := Lib.hid hx
  have HNW := Lib.hid (fun (w2 : World) => newUintU_walk n w2 hn)
  have HK := Lib.hid hk
  clear hx ox oz hk
  have hkept := incm_begin w gx
  obtain ⟨wa, hwa⟩ : ∃ wa, (w.alloc (.cells #[.pointer (some ⟨gx, 0, none⟩)] 64)).alloc (.cells #[.pointer none] 64) = wa := ⟨_, rfl⟩
  rw [hwa] at hkept
  have HWA := Lib.hid hwa
  clear hwa
  go_enter Tryz.func92, Tryz.ntmps92
  go_upto_region 1 with fail
  rw [HWA.out]
  go_region_held3 (fun w' => w'.cell? ⟨w.heap.size, 0, none⟩ = some (.pointer (some ⟨gx, 0, none⟩)) ∧ IncM w w')
    (first | exact incm_drew hkept | exact incm_grow (by assumption) hgr | exact incm_set (by assumption) | assumption)
    (first
      | (go_at_call 156; refine (HNW.out _).mono ?_; rintro e w7 ⟨g7, rfl, hi7, hgr, hf7'⟩; have hf7 : w.heap.size ≤ g7 := Nat.le_trans (by go_split_ands; exact IncM.size (by assumption)) hf7'; have HI7 := Lib.hid hi7; clear hi7 hf7')
      | (go_at_call 70; refine (HAD.out g7 _ (HX.out.below (by go_split_ands; exact IncM.below (by assumption))) HI7.out (Nat.ne_of_gt (Nat.lt_of_lt_of_le HX.out.lt hf7)) (HK.out.below (by go_split_ands; exact IncM.below (by assumption)))).mono ?_; rintro e w8 ⟨g8, rfl, hi8, hgr, hf8⟩; obtain ⟨x2, hk2⟩ := incm_blk hgr (by go_split_ands; assumption); have c20 := one_cell hk2; have f20 := one_free hk2 0; have hs8 : w.heap.size ≤ g8 := Nat.le_trans (by go_split_ands; exact IncM.size (by assumption)) hf8; have HK2 := Lib.hid hk2; have HI8 := Lib.hid hi8; clear hi8 hk2 hf8))
  all_goals
    have hB := (‹_ ∧ IncM w (w8.setCell _ _)›).2.below
    go_wp2_with fail
    have k0 := one_set (u := .pointer (some ⟨g8, 0, none⟩)) HK2.out
    have d0 := one_cell k0
    exact bodyPost_ret (v := .agg #[.pointer (some ⟨g8, 0, none⟩)]) (by simp [results, Tryz.results92, go_sem, d0]) rfl
      ⟨g8, rfl, HI8.out.store HK2.out (by decide) (by decide) _, hB, hs8⟩

set_option maxRecDepth 100000 in
set_option maxHeartbeats 4000000 in
theorem mulUint64_panic (gx n : Nat) (x : Int) (w : World) (hn : n < 18446744073709551616) (hx : IntAt w gx x) (hk : KaraIs w) (ox : overU x = false) (oz : overU (x * (n : Int)) = true) :
    Calls Tryz.prog 92 #[.agg #[.pointer (some ⟨gx, 0, none⟩)], .int .u64 (n : Int)] w (PanicPost w) := by
  have HAD := Lib.hid (fun (g2 : Nat) (w2 : World) (h1 : IntAt w2 gx x) (h2 : IntAt w2 g2 (n : Int)) (hne : g2 ≠ gx) (h5 : KaraIs w2) => uintMul_panic gx g2 x (n : Int) w2 h1 h2 hne h5 ox (over_u64' hn) oz)
  have HX := Lib.hid hx
  have HNW := Lib.hid (fun (w2 : World) => newUintU_walk n w2 hn)
  have HK := Lib.hid hk
  clear hx ox oz hk
  have hkept := incm_begin w gx
  obtain ⟨wa, hwa⟩ : ∃ wa, (w.alloc (.cells #[.pointer (some ⟨gx, 0, none⟩)] 64)).alloc (.cells #[.pointer none] 64) = wa := ⟨_, rfl⟩
  rw [hwa] at hkept
  have HWA := Lib.hid hwa
  have c0 := hkept.1
  have HKP := Lib.hid hkept.2.below
  clear hwa hkept
  go_enter Tryz.func92, Tryz.ntmps92
  go_upto_region 1 with fail
  rw [HWA.out]
  go_region_with (first
      | (go_at_call 156; refine (HNW.out _).mono ?_; rintro e w7 ⟨g7, rfl, hi7, hgr, hf7'⟩; have hf7 : w.heap.size ≤ g7 := Nat.le_trans HKP.out.size hf7'; have HI7 := Lib.hid hi7; have HB7 := Lib.hid hgr; have c7 := (hgr.cell (by exact World.block_lt_of_cell? _ _ c0)).trans c0; clear hi7 hgr)
      | (go_at_call 70; refine (HAD.out g7 _ (HX.out.below (bt HKP.out.drew HB7.out)) HI7.out (Nat.ne_of_gt (Nat.lt_of_lt_of_le HX.out.lt hf7)) (HK.out.below (bt HKP.out.drew HB7.out))).mono ?_; rintro e w8 ⟨t8, v8, rfl, hb8⟩; have hp : PanicPost w (.panicked [{ v := .iface t8 v8, recovered := false }]) w8 := ⟨_, _, rfl, bt (bt HKP.out.drew HB7.out) hb8⟩; suffices hq : wpAny Tryz.prog .any #[] (fun _ _ _ => True) 0 #[] ⟨#[], []⟩ w8 by (go_wp2_with fail; exact ⟨rfl, hp⟩)))
  all_goals trivial

set_option maxRecDepth 100000 in
set_option maxHeartbeats 4000000 in
theorem quoUint64_walk (gx n : Nat) (x : Int) (w : World) (hn : n < 18446744073709551616) (hn0 : n ≠ 0) (hx : IntAt w gx x) (hk : DivIs w) (ox : overU x = false) (oz : overU (x.tdiv (n : Int)) = false) :
    Calls Tryz.prog 93 #[.agg #[.pointer (some ⟨gx, 0, none⟩)], .int .u64 (n : Int)] w (MadePost w (x.tdiv (n : Int))) := by
  have HAD := Lib.hid (fun (g2 : Nat) (w2 : World) (h1 : IntAt w2 gx x) (h2 : IntAt w2 g2 (n : Int)) (hne : g2 ≠ gx) (h5 : DivIs w2) => uintQuo_walk gx g2 x (n : Int) w2 h1 h2 hne h5 (by omega) ox (over_u64' hn) oz)
  have HX := Lib.hid hx
  have HNW := Lib.hid (fun (w2 : World) => newUintU_walk n w2 hn)
  have HK := Lib.hid hk
  clear hx ox oz hk
  have hkept := incm_begin w gx
  obtain ⟨wa, hwa⟩ : ∃ wa, (w.alloc (.cells #[.pointer (some ⟨gx, 0, none⟩)] 64)).alloc (.cells #[.pointer none] 64) = wa := ⟨_, rfl⟩
  rw [hwa] at hkept
  have HWA := Lib.hid hwa
  clear hwa
  go_enter Tryz.func93, Tryz.ntmps93
  go_upto_region 1 with fail
  rw [HWA.out]
  go_region_held3 (fun w' => w'.cell? ⟨w.heap.size, 0, none⟩ = some (.pointer (some ⟨gx, 0, none⟩)) ∧ IncM w w')
    (first | exact incm_drew hkept | exact incm_grow (by assumption) hgr | exact incm_set (by assumption) | assumption)
    (first
      | (go_at_call 156; refine (HNW.out _).mono ?_; rintro e w7 ⟨g7, rfl, hi7, hgr, hf7'⟩; have hf7 : w.heap.size ≤ g7 := Nat.le_trans (by go_split_ands; exact IncM.size (by assumption)) hf7'; have HI7 := Lib.hid hi7; clear hi7 hf7')
      | (go_at_call 71; refine (HAD.out g7 _ (HX.out.below (by go_split_ands; exact IncM.below (by assumption))) HI7.out (Nat.ne_of_gt (Nat.lt_of_lt_of_le HX.out.lt hf7)) (HK.out.below (by go_split_ands; exact IncM.below (by assumption)) HK.out.lt)).mono ?_; rintro e w8 ⟨g8, rfl, hi8, hgr, hf8⟩; obtain ⟨x2, hk2⟩ := incm_blk hgr (by go_split_ands; assumption); have c20 := one_cell hk2; have f20 := one_free hk2 0; have hs8 : w.heap.size ≤ g8 := Nat.le_trans (by go_split_ands; exact IncM.size (by assumption)) hf8; have HK2 := Lib.hid hk2; have HI8 := Lib.hid hi8; clear hi8 hk2 hf8))
  all_goals
    have hB := (‹_ ∧ IncM w (w8.setCell _ _)›).2.below
    go_wp2_with fail
    have k0 := one_set (u := .pointer (some ⟨g8, 0, none⟩)) HK2.out
    have d0 := one_cell k0
    exact bodyPost_ret (v := .agg #[.pointer (some ⟨g8, 0, none⟩)]) (by simp [results, Tryz.results93, go_sem, d0]) rfl
      ⟨g8, rfl, HI8.out.store HK2.out (by decide) (by decide) _, hB, hs8⟩

set_option maxRecDepth 100000 in
set_option maxHeartbeats 4000000 in
theorem quoUint64_panic (gx n : Nat) (x : Int) (w : World) (hn : n < 18446744073709551616) (hn0 : n = 0) (hx : IntAt w gx x) :
    Calls Tryz.prog 93 #[.agg #[.pointer (some ⟨gx, 0, none⟩)], .int .u64 (n : Int)] w (PanicPost w) := by
  have HAD := Lib.hid (fun (g2 : Nat) (w2 : World) (h1 : IntAt w2 gx x) (h2 : IntAt w2 g2 (n : Int)) => uintQuo_panic gx g2 x w2 h1 (by rw [hn0] at h2; exact h2))
  have HX := Lib.hid hx
  have HNW := Lib.hid (fun (w2 : World) => newUintU_walk n w2 hn)
  clear hx hn0
  have hkept := incm_begin w gx
  obtain ⟨wa, hwa⟩ : ∃ wa, (w.alloc (.cells #[.pointer (some ⟨gx, 0, none⟩)] 64)).alloc (.cells #[.pointer none] 64) = wa := ⟨_, rfl⟩
  rw [hwa] at hkept
  have HWA := Lib.hid hwa
  have c0 := hkept.1
  have HKP := Lib.hid hkept.2.below
  clear hwa hkept
  go_enter Tryz.func93, Tryz.ntmps93
  go_upto_region 1 with fail
  rw [HWA.out]
  go_region_with (first
      | (go_at_call 156; refine (HNW.out _).mono ?_; rintro e w7 ⟨g7, rfl, hi7, hgr, hf7'⟩; have hf7 : w.heap.size ≤ g7 := Nat.le_trans HKP.out.size hf7'; have HI7 := Lib.hid hi7; have HB7 := Lib.hid hgr; have c7 := (hgr.cell (by exact World.block_lt_of_cell? _ _ c0)).trans c0; clear hi7 hgr)
      | (go_at_call 71; refine (HAD.out g7 _ (HX.out.below (bt HKP.out.drew HB7.out)) HI7.out).mono ?_; rintro e w8 ⟨t8, v8, rfl, hb8⟩; have hp : PanicPost w (.panicked [{ v := .iface t8 v8, recovered := false }]) w8 := ⟨_, _, rfl, bt (bt HKP.out.drew HB7.out) hb8⟩; suffices hq : wpAny Tryz.prog .any #[] (fun _ _ _ => True) 0 #[] ⟨#[], []⟩ w8 by (go_wp2_with fail; exact ⟨rfl, hp⟩)))
  all_goals trivial
end Go.Proofs.YtiohlcfdoleooaaGreatDoor

/-
  impl.UintRaw.
-/
namespace Go.Proofs.YtiohlcfdoleooaaGreatDoor
open Go.RowKit

set_option maxRecDepth 100000 in
set_option maxHeartbeats 4000000 in
theorem uintRawC_walk (op n : Nat) (l : List UInt8) (p : Addr) (b1 b2 b3 b4 : Nat) (w : World) (hok : readOk l = true) (hl : l.length ≤ 1000) (hn : n < 18446744073709551616) (hp : EofIs w p) (hleaf : LeafIs w) (hkara : KaraIs w) (hdiv : DivIs w) (hop : op ≤ 3)
    (h1 : w.heap[b1]? = some (.cells #[.string (S l)] 9 (0, 0))) (h2 : w.heap[b2]? = some (.cells #[.int .i64 (op : Int)] 3 (0, 0))) (h3 : w.heap[b3]? = some (.cells #[.int .u64 (n : Int)] 43 (0, 0))) (h4 : w.heap[b4]? = some (.cells #[.string ⟨#[]⟩] 9 (0, 0)))
    (ox : overU (readZ l) = false) :
    Calls Tryz.prog 89 #[.pointer (some ⟨b1, 0, none⟩), .pointer (some ⟨b2, 0, none⟩), .pointer (some ⟨b3, 0, none⟩), .pointer (some ⟨b4, 0, none⟩)] w (DoPost w b4 (uRes op (readZ l) (n : Int))) := by
  have c1 := one_cell h1
  have lt1 := iter_lt h1
  have lt2 := iter_lt h2
  have lt3 := iter_lt h3
  have lt4 := iter_lt h4
  have H2 := Lib.hid h2
  have H3 := Lib.hid h3
  have H4 := Lib.hid h4
  have HU := Lib.hid (unsigned_walk l p w hok hl hp ox)
  have HOX := Lib.hid ox
  have HKA := Lib.hid hkara
  have HDI := Lib.hid hdiv
  have HLF := Lib.hid hleaf
  have HFIN : Hid (∀ (w' : World) (g : Nat) (z : Int), Below w.heap.size w w' → IntAt w' g z → overU z = false → Calls Tryz.prog 68 #[.agg #[.pointer (some ⟨g, 0, none⟩)]] w' fun e w6 => e = .returned (.string (S (zText z))) ∧ Below w.heap.size w w6 ∧ w6.heap[b4]? = some (.cells #[.string ⟨#[]⟩] 9 (0, 0))) := by
    refine Lib.hid fun w' g z hb hi oz => (uintString_walk g z w' hi (overU_len oz).1 (HLF.out.below hb)).mono ?_
    rintro e w6 ⟨rfl, hb6⟩
    exact ⟨rfl, bt hb hb6, ((bt hb hb6).block b4 lt4).trans H4.out⟩
  clear h1 h2 h3 h4 hp hleaf hkara hdiv ox
  have HV : Hid (∀ w1, Below w.heap.size w w1 → ∀ o, (w1.alloc o).cell? ⟨b2, 0, none⟩ = some (.int .i64 (op : Int)) ∧ (w1.alloc o).cell? ⟨b3, 0, none⟩ = some (.int .u64 (n : Int))) := Lib.hid fun w1 hb o => ⟨one_cell (heap_old ((hb.block b2 lt2).trans H2.out)), one_cell (heap_old ((hb.block b3 lt3).trans H3.out))⟩
  rcases (show op = 0 ∨ op = 1 ∨ op = 2 ∨ op = 3 by omega) with rfl | rfl | rfl | rfl
  · cases oz : overU (readZ l + (n : Int)) with
    | false =>
      have HOZ := Lib.hid oz
      have HPO : Hid (uRes 0 (readZ l) (n : Int) = some (readZ l + (n : Int))) := Lib.hid (by unfold uRes opZ; simp only []; rw [if_neg (by rw [HOZ.out]; decide)])
      rw [HPO.out]
      clear oz
      go_enter Tryz.func89, Tryz.ntmps89
      go_wp2_with fail
      refine HU.out.mono ?_
      rintro e w1 ⟨g1, rfl, hi1, hb1, _⟩
      have HI1 := Lib.hid (hi1.below (below_a1 w1 (.cells #[.pointer (some ⟨g1, 0, none⟩)] 64)))
      have HB1 := Lib.hid (bt hb1 (below_a1 w1 (.cells #[.pointer (some ⟨g1, 0, none⟩)] 64)))
      have c2 := (HV.out w1 hb1 (.cells #[.pointer (some ⟨g1, 0, none⟩)] 64)).1
      have c3 := (HV.out w1 hb1 (.cells #[.pointer (some ⟨g1, 0, none⟩)] 64)).2
      have e0 : ((0 : Nat) : Int) = 0 := rfl
      rw [e0] at c2
      clear e0
      clear hi1 hb1
      go_wp2_with fail
      refine (addUint64_walk g1 n _ _ hn HI1.out HOX.out HOZ.out).mono ?_
      rintro e w5 ⟨g5, rfl, hi5, hb5, _⟩
      have HI5 := Lib.hid hi5
      have HB5 := Lib.hid (bt HB1.out hb5)
      clear hi5 hb5
      go_wp2_with fail
      refine (HFIN.out w5 g5 _ HB5.out HI5.out HOZ.out).mono ?_
      rintro e w6 ⟨rfl, hb6, k4⟩
      have c4 := one_cell k4
      have f4 := one_free k4 0
      have K4' := Lib.hid k4
      have HB6 := Lib.hid hb6
      clear k4 hb6
      go_wp2_with fail
      go_end0
      exact ⟨rfl, Ext.setCell (D := fun k => k = b4) (p := ⟨b4, 0, none⟩) (Ext.of_below HB6.out) (fun _ => rfl) _, one_set K4'.out⟩
    | true =>
      have HOZ := Lib.hid oz
      have HPO : Hid (uRes 0 (readZ l) (n : Int) = none) := Lib.hid (by unfold uRes opZ; simp only []; rw [if_pos HOZ.out])
      rw [HPO.out]
      clear oz
      go_enter Tryz.func89, Tryz.ntmps89
      go_wp2_with fail
      refine HU.out.mono ?_
      rintro e w1 ⟨g1, rfl, hi1, hb1, _⟩
      have HI1 := Lib.hid (hi1.below (below_a1 w1 (.cells #[.pointer (some ⟨g1, 0, none⟩)] 64)))
      have HB1 := Lib.hid (bt hb1 (below_a1 w1 (.cells #[.pointer (some ⟨g1, 0, none⟩)] 64)))
      have c2 := (HV.out w1 hb1 (.cells #[.pointer (some ⟨g1, 0, none⟩)] 64)).1
      have c3 := (HV.out w1 hb1 (.cells #[.pointer (some ⟨g1, 0, none⟩)] 64)).2
      have e0 : ((0 : Nat) : Int) = 0 := rfl
      rw [e0] at c2
      clear e0
      clear hi1 hb1
      go_wp2_with fail
      refine (addUint64_panic g1 n _ _ hn HI1.out HOX.out HOZ.out).mono ?_
      rintro e w5 ⟨t5, v5, rfl, hb5⟩
      have HB5 := Lib.hid (bt HB1.out hb5)
      clear hb5
      go_wp2_with fail
      have hp : DoPost w b4 none (.panicked [{ v := .iface t5 v5, recovered := false }]) w5 := ⟨_, _, rfl, HB5.out⟩
      exact ⟨rfl, hp⟩
  · cases oz : overU (readZ l - (n : Int)) with
    | false =>
      have HOZ := Lib.hid oz
      have HPO : Hid (uRes 1 (readZ l) (n : Int) = some (readZ l - (n : Int))) := Lib.hid (by unfold uRes opZ; simp only []; rw [if_neg (by rw [HOZ.out]; decide)])
      rw [HPO.out]
      clear oz
      go_enter Tryz.func89, Tryz.ntmps89
      go_wp2_with fail
      refine HU.out.mono ?_
      rintro e w1 ⟨g1, rfl, hi1, hb1, _⟩
      have HI1 := Lib.hid (hi1.below (below_a1 w1 (.cells #[.pointer (some ⟨g1, 0, none⟩)] 64)))
      have HB1 := Lib.hid (bt hb1 (below_a1 w1 (.cells #[.pointer (some ⟨g1, 0, none⟩)] 64)))
      have c2 := (HV.out w1 hb1 (.cells #[.pointer (some ⟨g1, 0, none⟩)] 64)).1
      have c3 := (HV.out w1 hb1 (.cells #[.pointer (some ⟨g1, 0, none⟩)] 64)).2
      have e0 : ((1 : Nat) : Int) = 1 := rfl
      rw [e0] at c2
      clear e0
      clear hi1 hb1
      go_wp2_with fail
      refine (subUint64_walk g1 n _ _ hn HI1.out HOX.out HOZ.out).mono ?_
      rintro e w5 ⟨g5, rfl, hi5, hb5, _⟩
      have HI5 := Lib.hid hi5
      have HB5 := Lib.hid (bt HB1.out hb5)
      clear hi5 hb5
      go_wp2_with fail
      refine (HFIN.out w5 g5 _ HB5.out HI5.out HOZ.out).mono ?_
      rintro e w6 ⟨rfl, hb6, k4⟩
      have c4 := one_cell k4
      have f4 := one_free k4 0
      have K4' := Lib.hid k4
      have HB6 := Lib.hid hb6
      clear k4 hb6
      go_wp2_with fail
      go_end0
      exact ⟨rfl, Ext.setCell (D := fun k => k = b4) (p := ⟨b4, 0, none⟩) (Ext.of_below HB6.out) (fun _ => rfl) _, one_set K4'.out⟩
    | true =>
      have HOZ := Lib.hid oz
      have HPO : Hid (uRes 1 (readZ l) (n : Int) = none) := Lib.hid (by unfold uRes opZ; simp only []; rw [if_pos HOZ.out])
      rw [HPO.out]
      clear oz
      go_enter Tryz.func89, Tryz.ntmps89
      go_wp2_with fail
      refine HU.out.mono ?_
      rintro e w1 ⟨g1, rfl, hi1, hb1, _⟩
      have HI1 := Lib.hid (hi1.below (below_a1 w1 (.cells #[.pointer (some ⟨g1, 0, none⟩)] 64)))
      have HB1 := Lib.hid (bt hb1 (below_a1 w1 (.cells #[.pointer (some ⟨g1, 0, none⟩)] 64)))
      have c2 := (HV.out w1 hb1 (.cells #[.pointer (some ⟨g1, 0, none⟩)] 64)).1
      have c3 := (HV.out w1 hb1 (.cells #[.pointer (some ⟨g1, 0, none⟩)] 64)).2
      have e0 : ((1 : Nat) : Int) = 1 := rfl
      rw [e0] at c2
      clear e0
      clear hi1 hb1
      go_wp2_with fail
      refine (subUint64_panic g1 n _ _ hn HI1.out HOX.out HOZ.out).mono ?_
      rintro e w5 ⟨t5, v5, rfl, hb5⟩
      have HB5 := Lib.hid (bt HB1.out hb5)
      clear hb5
      go_wp2_with fail
      have hp : DoPost w b4 none (.panicked [{ v := .iface t5 v5, recovered := false }]) w5 := ⟨_, _, rfl, HB5.out⟩
      exact ⟨rfl, hp⟩
  · cases oz : overU (readZ l * (n : Int)) with
    | false =>
      have HOZ := Lib.hid oz
      have HPO : Hid (uRes 2 (readZ l) (n : Int) = some (readZ l * (n : Int))) := Lib.hid (by unfold uRes opZ; simp only []; rw [if_neg (by rw [HOZ.out]; decide)])
      rw [HPO.out]
      clear oz
      go_enter Tryz.func89, Tryz.ntmps89
      go_wp2_with fail
      refine HU.out.mono ?_
      rintro e w1 ⟨g1, rfl, hi1, hb1, _⟩
      have HI1 := Lib.hid (hi1.below (below_a1 w1 (.cells #[.pointer (some ⟨g1, 0, none⟩)] 64)))
      have HB1 := Lib.hid (bt hb1 (below_a1 w1 (.cells #[.pointer (some ⟨g1, 0, none⟩)] 64)))
      have c2 := (HV.out w1 hb1 (.cells #[.pointer (some ⟨g1, 0, none⟩)] 64)).1
      have c3 := (HV.out w1 hb1 (.cells #[.pointer (some ⟨g1, 0, none⟩)] 64)).2
      have e0 : ((2 : Nat) : Int) = 2 := rfl
      rw [e0] at c2
      clear e0
      clear hi1 hb1
      go_wp2_with fail
      refine (mulUint64_walk g1 n _ _ hn HI1.out (HKA.out.below HB1.out) HOX.out HOZ.out).mono ?_
      rintro e w5 ⟨g5, rfl, hi5, hb5, _⟩
      have HI5 := Lib.hid hi5
      have HB5 := Lib.hid (bt HB1.out hb5)
      clear hi5 hb5
      go_wp2_with fail
      refine (HFIN.out w5 g5 _ HB5.out HI5.out HOZ.out).mono ?_
      rintro e w6 ⟨rfl, hb6, k4⟩
      have c4 := one_cell k4
      have f4 := one_free k4 0
      have K4' := Lib.hid k4
      have HB6 := Lib.hid hb6
      clear k4 hb6
      go_wp2_with fail
      go_end0
      exact ⟨rfl, Ext.setCell (D := fun k => k = b4) (p := ⟨b4, 0, none⟩) (Ext.of_below HB6.out) (fun _ => rfl) _, one_set K4'.out⟩
    | true =>
      have HOZ := Lib.hid oz
      have HPO : Hid (uRes 2 (readZ l) (n : Int) = none) := Lib.hid (by unfold uRes opZ; simp only []; rw [if_pos HOZ.out])
      rw [HPO.out]
      clear oz
      go_enter Tryz.func89, Tryz.ntmps89
      go_wp2_with fail
      refine HU.out.mono ?_
      rintro e w1 ⟨g1, rfl, hi1, hb1, _⟩
      have HI1 := Lib.hid (hi1.below (below_a1 w1 (.cells #[.pointer (some ⟨g1, 0, none⟩)] 64)))
      have HB1 := Lib.hid (bt hb1 (below_a1 w1 (.cells #[.pointer (some ⟨g1, 0, none⟩)] 64)))
      have c2 := (HV.out w1 hb1 (.cells #[.pointer (some ⟨g1, 0, none⟩)] 64)).1
      have c3 := (HV.out w1 hb1 (.cells #[.pointer (some ⟨g1, 0, none⟩)] 64)).2
      have e0 : ((2 : Nat) : Int) = 2 := rfl
      rw [e0] at c2
      clear e0
      clear hi1 hb1
      go_wp2_with fail
      refine (mulUint64_panic g1 n _ _ hn HI1.out (HKA.out.below HB1.out) HOX.out HOZ.out).mono ?_
      rintro e w5 ⟨t5, v5, rfl, hb5⟩
      have HB5 := Lib.hid (bt HB1.out hb5)
      clear hb5
      go_wp2_with fail
      have hp : DoPost w b4 none (.panicked [{ v := .iface t5 v5, recovered := false }]) w5 := ⟨_, _, rfl, HB5.out⟩
      exact ⟨rfl, hp⟩
  · by_cases hn0 : n = 0
    · have hni : (n : Int) = 0 := by omega
      have HN0 := Lib.hid hn0
      have HPO : Hid (uRes 3 (readZ l) (n : Int) = none) := Lib.hid (by unfold uRes opZ; simp only []; rw [if_pos hni])
      rw [HPO.out]
      clear hn0 hni
      go_enter Tryz.func89, Tryz.ntmps89
      go_wp2_with fail
      refine HU.out.mono ?_
      rintro e w1 ⟨g1, rfl, hi1, hb1, _⟩
      have HI1 := Lib.hid (hi1.below (below_a1 w1 (.cells #[.pointer (some ⟨g1, 0, none⟩)] 64)))
      have HB1 := Lib.hid (bt hb1 (below_a1 w1 (.cells #[.pointer (some ⟨g1, 0, none⟩)] 64)))
      have c2 := (HV.out w1 hb1 (.cells #[.pointer (some ⟨g1, 0, none⟩)] 64)).1
      have c3 := (HV.out w1 hb1 (.cells #[.pointer (some ⟨g1, 0, none⟩)] 64)).2
      have e0 : ((3 : Nat) : Int) = 3 := rfl
      rw [e0] at c2
      clear e0
      clear hi1 hb1
      go_wp2_with fail
      refine (quoUint64_panic g1 n _ _ hn HN0.out HI1.out).mono ?_
      rintro e w5 ⟨t5, v5, rfl, hb5⟩
      have HB5 := Lib.hid (bt HB1.out hb5)
      clear hb5
      go_wp2_with fail
      have hp : DoPost w b4 none (.panicked [{ v := .iface t5 v5, recovered := false }]) w5 := ⟨_, _, rfl, HB5.out⟩
      exact ⟨rfl, hp⟩
    · have hni : ¬ (n : Int) = 0 := by omega
      have HN0 := Lib.hid hn0
      have HOZ : Hid (overU ((readZ l).tdiv (n : Int)) = false) := Lib.hid (quo_fits HOX.out (over_u64' hn))
      have HPO : Hid (uRes 3 (readZ l) (n : Int) = some ((readZ l).tdiv (n : Int))) := Lib.hid (by unfold uRes opZ; simp only []; rw [if_neg hni]; simp only []; rw [if_neg (by rw [HOZ.out]; decide)])
      rw [HPO.out]
      clear hn0 hni
      go_enter Tryz.func89, Tryz.ntmps89
      go_wp2_with fail
      refine HU.out.mono ?_
      rintro e w1 ⟨g1, rfl, hi1, hb1, _⟩
      have HI1 := Lib.hid (hi1.below (below_a1 w1 (.cells #[.pointer (some ⟨g1, 0, none⟩)] 64)))
      have HB1 := Lib.hid (bt hb1 (below_a1 w1 (.cells #[.pointer (some ⟨g1, 0, none⟩)] 64)))
      have c2 := (HV.out w1 hb1 (.cells #[.pointer (some ⟨g1, 0, none⟩)] 64)).1
      have c3 := (HV.out w1 hb1 (.cells #[.pointer (some ⟨g1, 0, none⟩)] 64)).2
      have e0 : ((3 : Nat) : Int) = 3 := rfl
      rw [e0] at c2
      clear e0
      clear hi1 hb1
      go_wp2_with fail
      refine (quoUint64_walk g1 n _ _ hn HN0.out HI1.out (HDI.out.below HB1.out HDI.out.lt) HOX.out HOZ.out).mono ?_
      rintro e w5 ⟨g5, rfl, hi5, hb5, _⟩
      have HI5 := Lib.hid hi5
      have HB5 := Lib.hid (bt HB1.out hb5)
      clear hi5 hb5
      go_wp2_with fail
      refine (HFIN.out w5 g5 _ HB5.out HI5.out HOZ.out).mono ?_
      rintro e w6 ⟨rfl, hb6, k4⟩
      have c4 := one_cell k4
      have f4 := one_free k4 0
      have K4' := Lib.hid k4
      have HB6 := Lib.hid hb6
      clear k4 hb6
      go_wp2_with fail
      go_end0
      exact ⟨rfl, Ext.setCell (D := fun k => k = b4) (p := ⟨b4, 0, none⟩) (Ext.of_below HB6.out) (fun _ => rfl) _, one_set K4'.out⟩

set_option maxRecDepth 100000 in
theorem callCUintRaw : ∀ (caps : Array Value) (w : World), (callFunc 89 caps).run Tryz.prog w = .ok (.enter 89 caps) w := fun _ _ => by rfl
set_option maxRecDepth 100000 in
set_option maxHeartbeats 2000000 in
theorem uintRaw_walk (op n : Nat) (l : List UInt8) (p : Addr) (w : World) (hok : readOk l = true) (hl : l.length ≤ 1000) (hn : n < 18446744073709551616) (hp : EofIs w p) (hleaf : LeafIs w) (hkara : KaraIs w) (hdiv : DivIs w) (hop : op ≤ 3) (ox : overU (readZ l) = false) :
    Calls Tryz.prog 33 #[.int .i64 (op : Int), .string (S l), .int .u64 (n : Int)] w fun e w' => e = .returned (.tuple #[.string (S (outT (uRes op (readZ l) (n : Int)))), .bool (uRes op (readZ l) (n : Int)).isSome]) ∧ Below w.heap.size w w' := by
  have hmf : ∀ (fn : Fn) (first cap : Array Value) (w : World), (Instr.makeFunc fn first cap).run Tryz.prog w = .ok (.func fn first cap) w := fun _ _ _ _ => rfl
  obtain ⟨R, hR⟩ : ∃ R, uRes op (readZ l) (n : Int) = R := ⟨_, rfl⟩
  rw [hR]
  have HS : Hid (Calls Tryz.prog 48 #[.func (.func 89) #[] #[.pointer (some ⟨w.heap.size + 1, 0, none⟩), .pointer (some ⟨w.heap.size, 0, none⟩), .pointer (some ⟨w.heap.size + 1 + 1, 0, none⟩), .pointer (some ⟨w.heap.size + 1 + 1 + 1, 0, none⟩)]]
      ((((w.alloc (.cells #[.int .i64 (op : Int)] 3)).alloc (.cells #[.string (S l)] 9)).alloc (.cells #[.int .u64 (n : Int)] 43)).alloc (.cells #[.string ⟨#[]⟩] 9))
      fun e w' => e = .returned (.bool R.isSome) ∧ Below w.heap.size w w' ∧ w'.heap[w.heap.size + 1 + 1 + 1]? = some (.cells #[.string (S (outT R))] 9 (0, 0))) := by
    apply Lib.hid
    have k0 : ((((w.alloc (.cells #[.int .i64 (op : Int)] 3)).alloc (.cells #[.string (S l)] 9)).alloc (.cells #[.int .u64 (n : Int)] 43)).alloc (.cells #[.string ⟨#[]⟩] 9)).heap[w.heap.size]? = some (.cells #[.int .i64 (op : Int)] 3 (0, 0)) := heap_old (heap_old (heap_old (heap_here _ _)))
    have k1 : ((((w.alloc (.cells #[.int .i64 (op : Int)] 3)).alloc (.cells #[.string (S l)] 9)).alloc (.cells #[.int .u64 (n : Int)] 43)).alloc (.cells #[.string ⟨#[]⟩] 9)).heap[w.heap.size + 1]? = some (.cells #[.string (S l)] 9 (0, 0)) := heap_old (heap_old (heap_at _ _ (heap_size_alloc _ _)))
    have k2 : ((((w.alloc (.cells #[.int .i64 (op : Int)] 3)).alloc (.cells #[.string (S l)] 9)).alloc (.cells #[.int .u64 (n : Int)] 43)).alloc (.cells #[.string ⟨#[]⟩] 9)).heap[w.heap.size + 1 + 1]? = some (.cells #[.int .u64 (n : Int)] 43 (0, 0)) := heap_old (heap_at _ _ (by simp only [heap_size_alloc]))
    have k3 : ((((w.alloc (.cells #[.int .i64 (op : Int)] 3)).alloc (.cells #[.string (S l)] 9)).alloc (.cells #[.int .u64 (n : Int)] 43)).alloc (.cells #[.string ⟨#[]⟩] 9)).heap[w.heap.size + 1 + 1 + 1]? = some (.cells #[.string ⟨#[]⟩] 9 (0, 0)) := heap_at _ _ (by simp only [heap_size_alloc])
    have hb : Below w.heap.size w ((((w.alloc (.cells #[.int .i64 (op : Int)] 3)).alloc (.cells #[.string (S l)] 9)).alloc (.cells #[.int .u64 (n : Int)] 43)).alloc (.cells #[.string ⟨#[]⟩] 9)) := bt (below_a2 _ _ _) (below_a2 _ _ _)
    obtain ⟨wa, hwa⟩ : ∃ wa, (((w.alloc (.cells #[.int .i64 (op : Int)] 3)).alloc (.cells #[.string (S l)] 9)).alloc (.cells #[.int .u64 (n : Int)] 43)).alloc (.cells #[.string ⟨#[]⟩] 9) = wa := ⟨_, rfl⟩
    rw [hwa] at k0 k1 k2 k3 hb ⊢
    clear hwa
    have lt3 := iter_lt k3
    have hC := uintRawC_walk op n l p _ _ _ _ (wa.alloc (.cells #[.bool false] 4)) hok hl hn ((hp.below hb).below (below_a1 _ _)) ((hleaf.below hb).below (below_a1 _ _)) ((hkara.below hb).below (below_a1 _ _)) ((hdiv.below hb hdiv.lt).below (below_a1 _ _) (hdiv.below hb hdiv.lt).lt) hop (heap_old k1) (heap_old k0) (heap_old k2) (heap_old k3) ox
    rw [hR] at hC
    cases R with
    | some z =>
      refine safe_ret 89 _ wa (fun w' => Below w.heap.size w w' ∧ w'.heap[w.heap.size + 1 + 1 + 1]? = some (.cells #[.string (S (zText z))] 9 (0, 0))) (callCUintRaw _) ?_
      refine hC.mono ?_
      rintro e w1 ⟨rfl, he, j3⟩
      refine ⟨rfl, (he.block wa.heap.size (by rw [heap_size_alloc]; omega) (by omega)).trans (heap_here _ _), ?_, ?_⟩
      · refine Below.setCell (Below.setCell ?_ (by show w.heap.size ≤ wa.heap.size; omega) _) (by show w.heap.size ≤ wa.heap.size; omega) _
        exact (hb.trans ((below_a1 wa _).mono (by omega))).trans (he.below (by rw [heap_size_alloc]; omega) (fun k hk => by omega))
      · exact ((one_other (by show w.heap.size + 1 + 1 + 1 ≠ wa.heap.size; omega)).trans (one_other (by show w.heap.size + 1 + 1 + 1 ≠ wa.heap.size; omega))).trans j3
    | none =>
      refine safe_panics 89 _ wa (fun w' => Below w.heap.size w w' ∧ w'.heap[w.heap.size + 1 + 1 + 1]? = some (.cells #[.string (S [])] 9 (0, 0))) (callCUintRaw _) ?_
      refine hC.mono ?_
      rintro e w1 ⟨t, v, rfl, hb1⟩
      refine ⟨t, v, rfl, (hb1.block wa.heap.size (by rw [heap_size_alloc]; omega)).trans (heap_here _ _), ?_, ?_⟩
      · exact ((hb.trans ((below_a1 wa _).mono (by omega))).trans (hb1.mono (by rw [heap_size_alloc]; omega))).setCell (p := ⟨wa.heap.size, 0, none⟩) (by show w.heap.size ≤ wa.heap.size; omega) _
      · exact ((one_other (by show w.heap.size + 1 + 1 + 1 ≠ wa.heap.size; omega)).trans (hb1.block _ (by rw [heap_size_alloc]; omega))).trans (heap_old k3)
  clear hR hp hleaf hkara hdiv ox hok hop
  cases R with
  | some z =>
    obtain ⟨T, hT⟩ : ∃ T, outT (some z) = T := ⟨_, rfl⟩
    rw [hT] at HS ⊢
    have e0 : (some z).isSome = true := rfl
    rw [e0] at HS ⊢
    clear hT e0
    go_enter Tryz.func33, Tryz.ntmps33
    go_wp2_with fail
    refine HS.out.mono ?_
    rintro e w1 ⟨rfl, hb, k3⟩
    have c3 := one_cell k3
    have f3 := one_free k3 0
    have K3 := Lib.hid k3
    clear k3
    go_wp2_with fail
    have e3 := one_set (u := .string (S T)) K3.out
    have d3 := one_cell e3
    exact bodyPost_ret (v := .tuple #[.string (S T), .bool true]) (by simp [results, Tryz.results33, go_sem, d3]) rfl ⟨rfl, hb.setCell (p := ⟨w.heap.size + 1 + 1 + 1, 0, none⟩) (by show w.heap.size ≤ w.heap.size + 1 + 1 + 1; omega) _⟩
  | none =>
    have e0 : (none : Option Int).isSome = false := rfl
    have e1 : outT none = [] := rfl
    rw [e1, e0] at HS ⊢
    clear e0 e1
    go_enter Tryz.func33, Tryz.ntmps33
    go_wp2_with fail
    refine HS.out.mono ?_
    rintro e w1 ⟨rfl, hb, k3⟩
    have c3 := one_cell k3
    have f3 := one_free k3 0
    have K3 := Lib.hid k3
    clear k3
    go_wp2_with fail
    have e3 := one_set (u := .string ⟨#[]⟩) K3.out
    have d3 := one_cell e3
    exact bodyPost_ret (v := .tuple #[.string ⟨#[]⟩, .bool false]) (by simp [results, Tryz.results33, go_sem, d3]) rfl ⟨rfl, hb.setCell (p := ⟨w.heap.size + 1 + 1 + 1, 0, none⟩) (by show w.heap.size ≤ w.heap.size + 1 + 1 + 1; omega) _⟩
end Go.Proofs.YtiohlcfdoleooaaGreatDoor
