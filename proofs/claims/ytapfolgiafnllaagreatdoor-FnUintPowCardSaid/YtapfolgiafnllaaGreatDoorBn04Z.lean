/-
  Uint.Quo of cosmosmath, where it returns.
-/
import Derived.Test.YtapfolgiafnllaaGreatDoorBn03Z
import Derived.Test.YtapfolgiafnllaaGreatDoorBn12Z
import Derived.Test.YtapfolgiafnllaaGreatDoorMostTopZ
import Derived.Test.YtapfolgiafnllaaGreatDoorUintDoZ
import Derived.Test.YtapfolgiafnllaaGreatDoorBn07Z
import Derived.Test.YtapfolgiafnllaaGreatDoorUintAboutZ
namespace Go.Proofs.YtapfolgiafnllaaGreatDoor
open Go.RowKit

/-- A Uint has four words. -/
theorem overU_words4 {z : Int} (h : overU z = false) : (wds z.natAbs).length ≤ 4 := by
  unfold overU at h
  rw [Bool.or_eq_false_iff] at h
  have h2 := of_decide_eq_false h.2
  exact toD_length_le (by decide) 4 _ (Nat.lt_of_lt_of_le ((natLen_lt_iff z.natAbs 256).1 (by omega)) (by decide))
set_option maxRecDepth 100000 in
set_option maxHeartbeats 2000000 in
theorem bigDiv_walk (gx gy : Nat) (x y : Int) (w : World) (hx : IntAt w gx x) (hy : IntAt w gy y) (hne : gy ≠ gx) (hk : DivIs w) (hy0 : y ≠ 0) (ox : overU x = false) (oy : overU y = false) :
    Calls Tryz.prog 88 #[.pointer (some ⟨gx, 0, none⟩), .pointer (some ⟨gy, 0, none⟩)] w fun e w' => ∃ g, e = .returned (.pointer (some ⟨g, 0, none⟩)) ∧ IntAt w' g (x.tdiv y) ∧ Below w.heap.size w w' ∧ w.heap.size ≤ g := by
  have hb := below_a1 w (.cells #[.bool false, .slice none 0 0] 80)
  have HQ := Lib.hid (intQuo_walk w.heap.size gx gy x y _ (heap_here w _) (hx.below hb) (hy.below hb) hne (Nat.ne_of_lt hx.lt) (Nat.ne_of_lt hy.lt) (hk.below hb hk.lt) (by have := overU_words ox; omega) (overU_words4 oy) hy0)
  have HB := Lib.hid hb
  clear hx hy hk hb
  go_enter Tryz.func88, Tryz.ntmps88
  go_wp2_with fail
  refine HQ.out.mono ?_
  rintro e w1 ⟨rfl, hi, hx1⟩
  have HI := Lib.hid hi
  have HB1 := Lib.hid (HB.out.trans (hx1.below (by rw [heap_size_alloc]; omega) (fun k hk => by omega)))
  clear hi hx1
  go_wp2_with fail
  go_ret
  exact ⟨w.heap.size, rfl, HI.out, HB1.out, Nat.le_refl _⟩

set_option maxRecDepth 100000 in
set_option maxHeartbeats 2000000 in
theorem uintQuo_walk (gx gy : Nat) (x y : Int) (w : World) (hx : IntAt w gx x) (hy : IntAt w gy y) (hne : gy ≠ gx) (hk : DivIs w) (hy0 : y ≠ 0) (ox : overU x = false) (oy : overU y = false) (oz : overU (x.tdiv y) = false) :
    Calls Tryz.prog 45 #[.agg #[.pointer (some ⟨gx, 0, none⟩)], .agg #[.pointer (some ⟨gy, 0, none⟩)]] w (MadePost w (x.tdiv y)) := by
  have hT := twoBox w gx gy x y hx hy
  have hwl := overU_words oz
  have HT := Lib.hid hT
  have HS := Lib.hid (fun (w2 : World) (h2 : IntAt w2 gx x) (h3 : IntAt w2 gy y) (h6 : DivIs w2) => bigDiv_walk gx gy x y w2 h2 h3 hne h6 hy0 ox oy)
  have HN := Lib.hid (fun (g : Nat) (w2 : World) (h1 : IntAt w2 g (x.tdiv y)) => newUint_walk g (x.tdiv y) w2 h1 (by omega) oz)
  have HK := Lib.hid hk
  clear hx hy hT hk
  go_enter Tryz.func45, Tryz.ntmps45
  go_upto_region 1 with fail
  obtain ⟨wa, hwa⟩ : ∃ wa, ((w.alloc (.cells #[.pointer (some ⟨gx, 0, none⟩)] 52)).alloc (.cells #[.pointer (some ⟨gy, 0, none⟩)] 52)).alloc (.cells #[.pointer none] 52) = wa := ⟨_, rfl⟩
  rw [hwa] at HT ⊢
  have c0 : wa.cell? ⟨w.heap.size, 0, none⟩ = some (.pointer (some ⟨gx, 0, none⟩)) := one_cell HT.out.b0
  have c1 : wa.cell? ⟨w.heap.size + 1, 0, none⟩ = some (.pointer (some ⟨gy, 0, none⟩)) := one_cell HT.out.b1
  have hs2 := iter_lt HT.out.b2
  clear hwa
  go_wp2_with fail
  refine (HS.out wa HT.out.hx HT.out.hy (HK.out.below HT.out.below HK.out.lt)).mono ?_
  rintro e w1 ⟨g1, rfl, hi1, hx1, hg1⟩
  have hk1 := (hx1.block (w.heap.size + 1 + 1) hs2).trans HT.out.b2
  have hb1 : Below w.heap.size w w1 := bt HT.out.below hx1
  have HK1 := Lib.hid hk1
  have HI1 := Lib.hid hi1
  have HB1 := Lib.hid hb1
  clear hk1 hi1 hx1 hb1 c0 c1
  go_wp2_with fail
  refine (HN.out _ w1 HI1.out).mono ?_
  rintro e w5 ⟨g5, rfl, hi5, hb5, hfr⟩
  have hk5 := (hb5.block (w.heap.size + 1 + 1) (iter_lt HK1.out)).trans HK1.out
  have c0 := one_cell hk5
  have f0 := one_free hk5 0
  have HK5 := Lib.hid hk5
  have HI5 := Lib.hid hi5
  have HB5 := Lib.hid hb5
  clear hk5 hi5 hb5
  go_wp2_with fail
  have k0 := one_set (u := .pointer (some ⟨g5, 0, none⟩)) HK5.out
  have d0 := one_cell k0
  exact bodyPost_ret (v := .agg #[.pointer (some ⟨g5, 0, none⟩)]) (by simp [results, Tryz.results45, go_sem, d0]) rfl
    ⟨g5, rfl, HI5.out.store HK5.out (by decide) (by decide) _, (bt HB1.out HB5.out).setCell (p := ⟨w.heap.size + 1 + 1, 0, none⟩) (by show w.heap.size ≤ w.heap.size + 1 + 1; omega) _, Nat.le_trans HB1.out.size hfr⟩
end Go.Proofs.YtapfolgiafnllaaGreatDoor

/-
  A division by zero panics: (nat).div, Int.Quo, div, Uint.Quo.
-/
namespace Go.Proofs.YtapfolgiafnllaaGreatDoor
open Go.RowKit

set_option maxRecDepth 100000 in
set_option maxHeartbeats 2000000 in
theorem natDiv_panic (N : Nat) (A B : Option Addr) (c d : Nat) (w : World) :
    Calls Tryz.prog 142 #[.slice none 0 0, .pointer none, .slice none 0 0, .slice A (wds N).length c, .slice B 0 d] w (PanicPost w) := by
  obtain ⟨ln, hln⟩ : ∃ ln, (wds N).length = ln := ⟨_, rfl⟩
  rw [hln]
  clear hln
  go_enter_defers Tryz.func142, Tryz.ntmps142
  go_wp2_with fail
  exact ⟨_, _, rfl, Below.refl _ _⟩

set_option maxRecDepth 100000 in
set_option maxHeartbeats 4000000 in
theorem intQuo_panic (gz gx gy : Nat) (x : Int) (w : World) (hz : IntNew w gz) (hx : IntAt w gx x) (hy : IntAt w gy 0) (_hgx : gx ≠ gz) (_hgy : gy ≠ gz) :
    Calls Tryz.prog 115 #[.pointer (some ⟨gz, 0, none⟩), .pointer (some ⟨gx, 0, none⟩), .pointer (some ⟨gy, 0, none⟩)] w (PanicPost w) := by
  obtain ⟨A, c, hkx, h2, h3, h4⟩ := hx
  obtain ⟨B, d, hky, i2, i3, i4⟩ := hy
  have c1 := num_cell1 hz
  have d1 := num_cell1 hkx
  have e1 := num_cell1 hky
  have e0 : (wds (0 : Int).natAbs).length = 0 := by rw [Int.natAbs_zero, wds_zero]; rfl
  rw [e0] at e1
  have HM := Lib.hid (fun (w2 : World) => natDiv_panic x.natAbs A B c d w2)
  clear h4 i4 hz hkx hky e0 i2
  go_enter Tryz.func115, Tryz.ntmps115
  go_upto_region 1 with fail
  go_region_with ((go_at_call 142; refine (HM.out _).mono ?_; rintro e w1 ⟨t8, v8, rfl, hb8⟩; have hp : PanicPost w (.panicked [{ v := .iface t8 v8, recovered := false }]) w1 := ⟨_, _, rfl, (by first | exact hb8 | exact ((Below.refl w.heap.size w).drew).trans hb8 | exact (below_drewN (Below.refl w.heap.size w) _).trans hb8)⟩; suffices hq : wpAny Tryz.prog .any #[] (fun _ _ _ => True) 0 #[] ⟨#[], []⟩ w1 by (go_wp2_with fail; exact ⟨rfl, hp⟩)))
  all_goals trivial

set_option maxRecDepth 100000 in
set_option maxHeartbeats 2000000 in
theorem bigDiv_panic (gx gy : Nat) (x : Int) (w : World) (hx : IntAt w gx x) (hy : IntAt w gy 0) :
    Calls Tryz.prog 88 #[.pointer (some ⟨gx, 0, none⟩), .pointer (some ⟨gy, 0, none⟩)] w (PanicPost w) := by
  have hb := below_a1 w (.cells #[.bool false, .slice none 0 0] 80)
  have HQ := Lib.hid (intQuo_panic w.heap.size gx gy x _ (heap_here w _) (hx.below hb) (hy.below hb) (Nat.ne_of_lt hx.lt) (Nat.ne_of_lt hy.lt))
  have HB := Lib.hid hb
  clear hx hy hb
  go_enter Tryz.func88, Tryz.ntmps88
  go_wp2_with fail
  refine HQ.out.mono ?_
  rintro e w1 ⟨t5, v5, rfl, hb5⟩
  have HB5 := Lib.hid (HB.out.trans (hb5.mono HB.out.size))
  clear hb5
  go_wp2_with fail
  have hp : PanicPost w (.panicked [{ v := .iface t5 v5, recovered := false }]) w1 := ⟨_, _, rfl, HB5.out⟩
  exact ⟨rfl, hp⟩

set_option maxRecDepth 100000 in
set_option maxHeartbeats 2000000 in
theorem uintQuo_panic (gx gy : Nat) (x : Int) (w : World) (hx : IntAt w gx x) (hy : IntAt w gy 0) :
    Calls Tryz.prog 45 #[.agg #[.pointer (some ⟨gx, 0, none⟩)], .agg #[.pointer (some ⟨gy, 0, none⟩)]] w (PanicPost w) := by
  have hT := twoBox w gx gy x 0 hx hy
  have HT := Lib.hid hT
  have HS := Lib.hid (fun (w2 : World) (h2 : IntAt w2 gx x) (h3 : IntAt w2 gy 0) => bigDiv_panic gx gy x w2 h2 h3)
  clear hx hy hT
  go_enter Tryz.func45, Tryz.ntmps45
  go_upto_region 1 with fail
  obtain ⟨wa, hwa⟩ : ∃ wa, ((w.alloc (.cells #[.pointer (some ⟨gx, 0, none⟩)] 52)).alloc (.cells #[.pointer (some ⟨gy, 0, none⟩)] 52)).alloc (.cells #[.pointer none] 52) = wa := ⟨_, rfl⟩
  rw [hwa] at HT ⊢
  have c0 : wa.cell? ⟨w.heap.size, 0, none⟩ = some (.pointer (some ⟨gx, 0, none⟩)) := one_cell HT.out.b0
  have c1 : wa.cell? ⟨w.heap.size + 1, 0, none⟩ = some (.pointer (some ⟨gy, 0, none⟩)) := one_cell HT.out.b1
  clear hwa
  go_wp2_with fail
  refine (HS.out wa HT.out.hx HT.out.hy).mono ?_
  rintro e w1 ⟨t5, v5, rfl, hb5⟩
  have HB5 := Lib.hid (bt HT.out.below hb5)
  clear hb5 c0 c1
  go_wp2_with fail
  have hp : PanicPost w (.panicked [{ v := .iface t5 v5, recovered := false }]) w1 := ⟨_, _, rfl, HB5.out⟩
  exact ⟨rfl, hp⟩
end Go.Proofs.YtapfolgiafnllaaGreatDoor

/-
  What UintDo and UintRaw hand back.
-/
namespace Go.Proofs.YtapfolgiafnllaaGreatDoor
open Go.RowKit

/-- What is done with two numbers; none: a division by 0. -/
def opZ (op : Nat) (x y : Int) : Option Int :=
  match op with
  | 0 => some (x + y)
  | 1 => some (x - y)
  | 2 => some (x * y)
  | 3 => if y = 0 then none else some (x.tdiv y)
  | 4 => if y = 0 then none else some (x.tmod y)
  | 5 => some (minZ x y)
  | 6 => some (maxZ x y)
  | _ => none
/-- What UintDo hands back: none where it panics. -/
def uRes (op : Nat) (x y : Int) : Option Int :=
  match opZ op x y with
  | some z => if overU z = true then none else some z
  | none => none
def outT (r : Option Int) : List UInt8 :=
  match r with
  | some z => zText z
  | none => []
def DoPost (w : World) (b : Nat) (r : Option Int) (e : Ending) (w' : World) : Prop :=
  match r with
  | some z => e = .returned (.tuple #[]) ∧ Ext (fun k => k = b) w w' ∧ w'.heap[b]? = some (.cells #[.string (S (zText z))] 9 (0, 0))
  | none => PanicPost w e w'
theorem quo_fits {x y : Int} (ox : overU x = false) (oy : overU y = false) : overU (x.tdiv y) = false := by
  have h1 := ox
  have h2 := oy
  unfold overU at h1 h2 ⊢
  rw [Bool.or_eq_false_iff] at h1 h2 ⊢
  have a1 := of_decide_eq_false h1.1
  have a2 := of_decide_eq_false h2.1
  have b1 := (natLen_lt_iff x.natAbs 256).1 (by have := of_decide_eq_false h1.2; omega)
  have e := natAbs_quo x y
  have hle : (x.tdiv y).natAbs ≤ x.natAbs := by rw [e]; exact Nat.div_le_self _ _
  have h0 : 0 ≤ x.tdiv y := Int.tdiv_nonneg (by omega) (by omega)
  refine ⟨decide_eq_false (by omega), decide_eq_false ?_⟩
  have := (natLen_lt_iff (x.tdiv y).natAbs 256).2 (by omega)
  omega
theorem mod_fits {x y : Int} (ox : overU x = false) (oy : overU y = false) (_hy : y ≠ 0) : overU (x.tmod y) = false := by
  have h1 := ox
  have h2 := oy
  unfold overU at h1 h2 ⊢
  rw [Bool.or_eq_false_iff] at h1 h2 ⊢
  have a1 := of_decide_eq_false h1.1
  have a2 := of_decide_eq_false h2.1
  have b1 := (natLen_lt_iff x.natAbs 256).1 (by have := of_decide_eq_false h1.2; omega)
  have h0 : 0 ≤ x.tmod y := Int.tmod_nonneg y (by omega)
  have hle : (x.tmod y).natAbs ≤ x.natAbs := by rw [Int.natAbs_tmod]; exact Nat.mod_le _ _
  refine ⟨decide_eq_false (by omega), decide_eq_false ?_⟩
  have := (natLen_lt_iff (x.tmod y).natAbs 256).2 (by omega)
  omega
theorem heap_size_drew (w : World) : w.drew.heap.size = w.heap.size := rfl
end Go.Proofs.YtapfolgiafnllaaGreatDoor

/-
  Uint.Mul of a number with itself, returned and out of range.
-/
namespace Go.Proofs.YtapfolgiafnllaaGreatDoor
open Go.RowKit

set_option maxRecDepth 100000 in
set_option maxHeartbeats 2000000 in
theorem uintSqr_walk (gx : Nat) (x : Int) (w : World) (hx : IntAt w gx x) (hk : SqrIs w) (ox : overU x = false) (oz : overU (x * x) = false) :
    Calls Tryz.prog 44 #[.agg #[.pointer (some ⟨gx, 0, none⟩)], .agg #[.pointer (some ⟨gx, 0, none⟩)]] w (MadePost w (x * x)) := by
  have hT := twoBox w gx gx x x hx hx
  have hwl := overU_words oz
  have HT := Lib.hid hT
  have HS := Lib.hid (fun (gz : Nat) (w2 : World) (h1 : IntNew w2 gz) (h2 : IntAt w2 gx x) (h4 : gx ≠ gz) (h6 : SqrIs w2) => intSqr_walk gz gx x w2 h1 h2 h4 h6 (by have := overU_words4 ox; omega))
  have HN := Lib.hid (fun (g : Nat) (w2 : World) (h1 : IntAt w2 g (x * x)) => newUint_walk g (x * x) w2 h1 (by omega) oz)
  have HK := Lib.hid hk
  clear hx hT hk
  go_enter Tryz.func44, Tryz.ntmps44
  go_upto_region 1 with fail
  obtain ⟨wa, hwa⟩ : ∃ wa, ((w.alloc (.cells #[.pointer (some ⟨gx, 0, none⟩)] 52)).alloc (.cells #[.pointer (some ⟨gx, 0, none⟩)] 52)).alloc (.cells #[.pointer none] 52) = wa := ⟨_, rfl⟩
  rw [hwa] at HT ⊢
  have c0 : ∀ o, (wa.alloc o).cell? ⟨w.heap.size, 0, none⟩ = some (.pointer (some ⟨gx, 0, none⟩)) := fun o => one_cell (heap_old HT.out.b0)
  have c1 : ∀ o, (wa.alloc o).cell? ⟨w.heap.size + 1, 0, none⟩ = some (.pointer (some ⟨gx, 0, none⟩)) := fun o => one_cell (heap_old HT.out.b1)
  have hs2 := iter_lt HT.out.b2
  clear hwa
  go_wp2_with fail
  refine (HS.out wa.heap.size _ (heap_here _ _) (HT.out.hx.below (below_a1 _ _)) (Nat.ne_of_lt HT.out.hx.lt) ((HK.out.below HT.out.below).below (below_a1 _ _))).mono ?_
  rintro e w1 ⟨rfl, hi1, hx1⟩
  have hk1 := (hx1.block (w.heap.size + 1 + 1) (by rw [heap_size_alloc]; omega) (by omega)).trans (heap_old (o := .cells #[.bool false, .slice none 0 0] 80) HT.out.b2)
  have hb1 : Below w.heap.size w w1 := (HT.out.below.alloc HT.out.below.size _).trans (hx1.below (by have := HT.out.below.size; rw [heap_size_alloc]; omega) (fun k hk => by have := HT.out.below.size; omega))
  have HK1 := Lib.hid hk1
  have HI1 := Lib.hid hi1
  have HB1 := Lib.hid hb1
  clear hk1 hi1 hx1 hb1 c0 c1
  go_wp2_with fail
  refine (HN.out _ w1 HI1.out).mono ?_
  rintro e w5 ⟨g5, rfl, hi5, hb5, hfr⟩
  have hk5 := (hb5.block (w.heap.size + 1 + 1) (iter_lt HK1.out)).trans HK1.out
  have c0 := one_cell hk5
  have f0 := one_free hk5 0
  have HK5 := Lib.hid hk5
  have HI5 := Lib.hid hi5
  have HB5 := Lib.hid hb5
  clear hk5 hi5 hb5
  go_wp2_with fail
  have k0 := one_set (u := .pointer (some ⟨g5, 0, none⟩)) HK5.out
  have d0 := one_cell k0
  exact bodyPost_ret (v := .agg #[.pointer (some ⟨g5, 0, none⟩)]) (by simp [results, Tryz.results44, go_sem, d0]) rfl
    ⟨g5, rfl, HI5.out.store HK5.out (by decide) (by decide) _, (bt HB1.out HB5.out).setCell (p := ⟨w.heap.size + 1 + 1, 0, none⟩) (by show w.heap.size ≤ w.heap.size + 1 + 1; omega) _, Nat.le_trans HB1.out.size hfr⟩

set_option maxRecDepth 100000 in
set_option maxHeartbeats 2000000 in
theorem uintSqr_panic (gx : Nat) (x : Int) (w : World) (hx : IntAt w gx x) (hk : SqrIs w) (ox : overU x = false) (oz : overU (x * x) = true) :
    Calls Tryz.prog 44 #[.agg #[.pointer (some ⟨gx, 0, none⟩)], .agg #[.pointer (some ⟨gx, 0, none⟩)]] w (PanicPost w) := by
  have hT := twoBox w gx gx x x hx hx
  have hwl := mul_words ox ox
  have HT := Lib.hid hT
  have HS := Lib.hid (fun (gz : Nat) (w2 : World) (h1 : IntNew w2 gz) (h2 : IntAt w2 gx x) (h4 : gx ≠ gz) (h6 : SqrIs w2) => intSqr_walk gz gx x w2 h1 h2 h4 h6 (by have := overU_words4 ox; omega))
  have HN := Lib.hid (fun (g : Nat) (w2 : World) (h1 : IntAt w2 g (x * x)) => newUint_panic g (x * x) w2 h1 (by omega) oz)
  have HK := Lib.hid hk
  clear hx hT hk
  go_enter Tryz.func44, Tryz.ntmps44
  go_upto_region 1 with fail
  obtain ⟨wa, hwa⟩ : ∃ wa, ((w.alloc (.cells #[.pointer (some ⟨gx, 0, none⟩)] 52)).alloc (.cells #[.pointer (some ⟨gx, 0, none⟩)] 52)).alloc (.cells #[.pointer none] 52) = wa := ⟨_, rfl⟩
  rw [hwa] at HT ⊢
  have c0 : ∀ o, (wa.alloc o).cell? ⟨w.heap.size, 0, none⟩ = some (.pointer (some ⟨gx, 0, none⟩)) := fun o => one_cell (heap_old HT.out.b0)
  have c1 : ∀ o, (wa.alloc o).cell? ⟨w.heap.size + 1, 0, none⟩ = some (.pointer (some ⟨gx, 0, none⟩)) := fun o => one_cell (heap_old HT.out.b1)
  have hs2 := iter_lt HT.out.b2
  clear hwa
  go_wp2_with fail
  refine (HS.out wa.heap.size _ (heap_here _ _) (HT.out.hx.below (below_a1 _ _)) (Nat.ne_of_lt HT.out.hx.lt) ((HK.out.below HT.out.below).below (below_a1 _ _))).mono ?_
  rintro e w1 ⟨rfl, hi1, hx1⟩
  have hk1 := (hx1.block (w.heap.size + 1 + 1) (by rw [heap_size_alloc]; omega) (by omega)).trans (heap_old (o := .cells #[.bool false, .slice none 0 0] 80) HT.out.b2)
  have hb1 : Below w.heap.size w w1 := (HT.out.below.alloc HT.out.below.size _).trans (hx1.below (by have := HT.out.below.size; rw [heap_size_alloc]; omega) (fun k hk => by have := HT.out.below.size; omega))
  have HK1 := Lib.hid hk1
  have HI1 := Lib.hid hi1
  have HB1 := Lib.hid hb1
  clear hk1 hi1 hx1 hb1 c0 c1
  go_wp2_with fail
  refine (HN.out _ w1 HI1.out).mono ?_
  rintro e w5 ⟨t5, v5, rfl, hb5⟩
  have HB5 := Lib.hid (bt HB1.out hb5)
  clear hb5
  go_wp2_with fail
  have hp : PanicPost w (.panicked [{ v := .iface t5 v5, recovered := false }]) w5 := ⟨_, _, rfl, HB5.out⟩
  exact ⟨rfl, hp⟩
end Go.Proofs.YtapfolgiafnllaaGreatDoor

/-
  Uint.GT.
-/
namespace Go.Proofs.YtapfolgiafnllaaGreatDoor
open Go.RowKit

set_option maxRecDepth 100000 in
set_option maxHeartbeats 1000000 in
theorem gt_walk (gx gy : Nat) (x y : Int) (w : World) (hx : IntAt w gx x) (hy : IntAt w gy y) (hne : gy ≠ gx) (px : ¬ x < 0) (py : ¬ y < 0) :
    Calls Tryz.prog 96 #[.pointer (some ⟨gx, 0, none⟩), .pointer (some ⟨gy, 0, none⟩)] w fun e w' => e = .returned (.bool (decide (y < x))) ∧ Below w.heap.size w w' := by
  have HC := Lib.hid (intCmp_walk gx gy x y w hx hy hne px py)
  have hs : (sgnC (x - y) == 1) = decide (y < x) := by
    unfold sgnC
    by_cases h : y < x
    · rw [decide_eq_true h, if_neg (by omega), if_neg (by omega)]; rfl
    · rw [decide_eq_false h]
      split
      · rfl
      · rw [if_pos (by omega)]; rfl
  rw [← hs]
  obtain ⟨s, hss⟩ : ∃ s, sgnC (x - y) = s := ⟨_, rfl⟩
  rw [hss] at HC ⊢
  clear hx hy hs hss
  go_enter Tryz.func96, Tryz.ntmps96
  go_wp2_with fail
  refine HC.out.mono ?_
  rintro e w1 ⟨rfl, hb⟩
  go_wp2_with fail
  go_ret
  exact ⟨rfl, hb⟩

set_option maxRecDepth 100000 in
set_option maxHeartbeats 1000000 in
theorem uintGt_walk (gx gy : Nat) (x y : Int) (w : World) (hx : IntAt w gx x) (hy : IntAt w gy y) (hne : gy ≠ gx) (px : ¬ x < 0) (py : ¬ y < 0) :
    Calls Tryz.prog 64 #[.agg #[.pointer (some ⟨gx, 0, none⟩)], .agg #[.pointer (some ⟨gy, 0, none⟩)]] w fun e w' => e = .returned (.bool (decide (y < x))) ∧ Below w.heap.size w w' := by
  have k0 : ((w.alloc (.cells #[.pointer (some ⟨gx, 0, none⟩)] 52)).alloc (.cells #[.pointer (some ⟨gy, 0, none⟩)] 52)).heap[w.heap.size]? = some (.cells #[.pointer (some ⟨gx, 0, none⟩)] 52 (0, 0)) := heap_old (heap_here _ _)
  have k1 : ((w.alloc (.cells #[.pointer (some ⟨gx, 0, none⟩)] 52)).alloc (.cells #[.pointer (some ⟨gy, 0, none⟩)] 52)).heap[w.heap.size + 1]? = some (.cells #[.pointer (some ⟨gy, 0, none⟩)] 52 (0, 0)) := heap_at _ _ (heap_size_alloc _ _)
  have hb := below_a2 w (.cells #[.pointer (some ⟨gx, 0, none⟩)] 52) (.cells #[.pointer (some ⟨gy, 0, none⟩)] 52)
  have c0 := one_cell k0
  have c1 := one_cell k1
  have HE := Lib.hid (fun (w' : World) (h : Below w.heap.size w w') => gt_walk gx gy x y w' (hx.below h) (hy.below h) hne px py)
  have HB := Lib.hid hb
  clear hx hy k0 k1 hb
  go_enter Tryz.func64, Tryz.ntmps64
  go_wp2_with fail
  refine (HE.out _ HB.out).mono ?_
  rintro e w1 ⟨rfl, hb⟩
  go_wp2_with fail
  go_ret
  exact ⟨rfl, bt HB.out hb⟩
end Go.Proofs.YtapfolgiafnllaaGreatDoor
