/-
  Uint.Add of cosmosmath; Add and Sub out of range.
-/
import Derived.Test.YthipbglnaalhmaaGreatDoorUintSub
import Derived.Test.YthipbglnaalhmaaGreatDoorIntAddA
namespace Go.Proofs.YthipbglnaalhmaaGreatDoor
open Go.RowKit

theorem add_words {x y : Int} (hx : overU x = false) (hy : overU y = false) : (wds (x + y).natAbs).length ≤ 5 := by
  have h1 := hx
  have h2 := hy
  unfold overU at h1 h2
  rw [Bool.or_eq_false_iff] at h1 h2
  have a1 := of_decide_eq_false h1.2
  have a2 := of_decide_eq_false h2.2
  have b1 := (natLen_lt_iff x.natAbs 256).1 (by omega)
  have b2 := (natLen_lt_iff y.natAbs 256).1 (by omega)
  refine toD_length_le (by decide) 5 _ (Nat.lt_of_le_of_lt (m := x.natAbs + y.natAbs) (by omega) ?_)
  have e : (2 : Nat) ^ 256 + 2 ^ 256 ≤ 18446744073709551616 ^ 5 := by decide
  omega
theorem intAdd_walk (gz gx gy : Nat) (x y : Int) (w : World) (hz : IntNew w gz) (hx : IntAt w gx x) (hy : IntAt w gy y) (ox : overU x = false) (oy : overU y = false) :
    Calls Tryz.prog 141 #[.pointer (some ⟨gz, 0, none⟩), .pointer (some ⟨gx, 0, none⟩), .pointer (some ⟨gy, 0, none⟩)] w fun e w' => e = .returned (.pointer (some ⟨gz, 0, none⟩)) ∧ IntAt w' gz (x + y) ∧ Ext (fun b => b = gz) w w' := by
  have c1 := overU_pos ox
  have c2 := overU_pos oy
  have w1 := overU_words ox
  have w2 := overU_words oy
  exact intAddSame_walk gz gx gy x y w hz hx hy (by omega) (by omega) (by rw [decide_eq_false c1, decide_eq_false c2])

set_option maxRecDepth 100000 in
set_option maxHeartbeats 2000000 in
theorem uintAdd_walk (gx gy : Nat) (x y : Int) (w : World) (hx : IntAt w gx x) (hy : IntAt w gy y) (ox : overU x = false) (oy : overU y = false) (oz : overU (x + y) = false) :
    Calls Tryz.prog 97 #[.agg #[.pointer (some ⟨gx, 0, none⟩)], .agg #[.pointer (some ⟨gy, 0, none⟩)]] w (MadePost w (x + y)) := by
  have hT := twoBox w gx gy x y hx hy
  have hwl := overU_words oz
  have HT := Lib.hid hT
  have HS := Lib.hid (fun (gz : Nat) (w2 : World) (h1 : IntNew w2 gz) (h2 : IntAt w2 gx x) (h3 : IntAt w2 gy y) => intAdd_walk gz gx gy x y w2 h1 h2 h3 ox oy)
  have HN := Lib.hid (fun (g : Nat) (w2 : World) (h1 : IntAt w2 g (x + y)) => newUint_walk g (x + y) w2 h1 (by omega) oz)
  clear hx hy hT
  go_enter Tryz.func97, Tryz.ntmps97
  go_upto_region 1 with fail
  obtain ⟨wa, hwa⟩ : ∃ wa, ((w.alloc (.cells #[.pointer (some ⟨gx, 0, none⟩)] 62)).alloc (.cells #[.pointer (some ⟨gy, 0, none⟩)] 62)).alloc (.cells #[.pointer none] 62) = wa := ⟨_, rfl⟩
  rw [hwa] at HT ⊢
  have c0 : ∀ o, (wa.alloc o).cell? ⟨w.heap.size, 0, none⟩ = some (.pointer (some ⟨gx, 0, none⟩)) := fun o => one_cell (heap_old HT.out.b0)
  have c1 : ∀ o, (wa.alloc o).cell? ⟨w.heap.size + 1, 0, none⟩ = some (.pointer (some ⟨gy, 0, none⟩)) := fun o => one_cell (heap_old HT.out.b1)
  have hs2 := iter_lt HT.out.b2
  clear hwa
  go_wp2_with fail
  refine (HS.out wa.heap.size _ (heap_here _ _) (HT.out.hx.below (below_a1 _ _)) (HT.out.hy.below (below_a1 _ _))).mono ?_
  rintro e w1 ⟨rfl, hi1, hx1⟩
  have hk1 := (hx1.block (w.heap.size + 1 + 1) (by rw [heap_size_alloc]; omega) (by omega)).trans (heap_old (o := .cells #[.bool false, .slice none 0 0] 89) HT.out.b2)
  have hb1 : Below w.heap.size w w1 := (HT.out.below.alloc HT.out.below.size _).trans (hx1.below (by have := HT.out.below.size; rw [heap_size_alloc]; omega) (fun k hk => by have := HT.out.below.size; omega))
  have HK1 := Lib.hid hk1
  have HI1 := Lib.hid hi1
  have HB1 := Lib.hid hb1
  clear hk1 hi1 hx1 hb1 c0 c1
  go_wp2_with fail
  refine (HN.out _ w1 HI1.out).mono ?_
  rintro e w5 ⟨g5, rfl, hi5, hb5, hfr⟩
  have hk5 := (hb5.block (w.heap.size + 1 + 1) (iter_lt HK1.out)).trans HK1.out
  have c0 := one_cell hk5
  have f0 := one_free hk5 0
  have HK5 := Lib.hid hk5
  have HI5 := Lib.hid hi5
  have HB5 := Lib.hid hb5
  clear hk5 hi5 hb5
  go_wp2_with fail
  have k0 := one_set (u := .pointer (some ⟨g5, 0, none⟩)) HK5.out
  have d0 := one_cell k0
  exact bodyPost_ret (v := .agg #[.pointer (some ⟨g5, 0, none⟩)]) (by simp [results, Tryz.results97, go_sem, d0]) rfl
    ⟨g5, rfl, HI5.out.store HK5.out (by decide) (by decide) _, (bt HB1.out HB5.out).setCell (p := ⟨w.heap.size + 1 + 1, 0, none⟩) (by show w.heap.size ≤ w.heap.size + 1 + 1; omega) _, Nat.le_trans HB1.out.size hfr⟩

set_option maxRecDepth 100000 in
set_option maxHeartbeats 2000000 in
theorem uintAdd_panic (gx gy : Nat) (x y : Int) (w : World) (hx : IntAt w gx x) (hy : IntAt w gy y) (ox : overU x = false) (oy : overU y = false) (oz : overU (x + y) = true) :
    Calls Tryz.prog 97 #[.agg #[.pointer (some ⟨gx, 0, none⟩)], .agg #[.pointer (some ⟨gy, 0, none⟩)]] w (PanicPost w) := by
  have hT := twoBox w gx gy x y hx hy
  have hwl := add_words ox oy
  have HT := Lib.hid hT
  have HS := Lib.hid (fun (gz : Nat) (w2 : World) (h1 : IntNew w2 gz) (h2 : IntAt w2 gx x) (h3 : IntAt w2 gy y) => intAdd_walk gz gx gy x y w2 h1 h2 h3 ox oy)
  have HN := Lib.hid (fun (g : Nat) (w2 : World) (h1 : IntAt w2 g (x + y)) => newUint_panic g (x + y) w2 h1 (by omega) oz)
  clear hx hy hT
  go_enter Tryz.func97, Tryz.ntmps97
  go_upto_region 1 with fail
  obtain ⟨wa, hwa⟩ : ∃ wa, ((w.alloc (.cells #[.pointer (some ⟨gx, 0, none⟩)] 62)).alloc (.cells #[.pointer (some ⟨gy, 0, none⟩)] 62)).alloc (.cells #[.pointer none] 62) = wa := ⟨_, rfl⟩
  rw [hwa] at HT ⊢
  have c0 : ∀ o, (wa.alloc o).cell? ⟨w.heap.size, 0, none⟩ = some (.pointer (some ⟨gx, 0, none⟩)) := fun o => one_cell (heap_old HT.out.b0)
  have c1 : ∀ o, (wa.alloc o).cell? ⟨w.heap.size + 1, 0, none⟩ = some (.pointer (some ⟨gy, 0, none⟩)) := fun o => one_cell (heap_old HT.out.b1)
  have hs2 := iter_lt HT.out.b2
  clear hwa
  go_wp2_with fail
  refine (HS.out wa.heap.size _ (heap_here _ _) (HT.out.hx.below (below_a1 _ _)) (HT.out.hy.below (below_a1 _ _))).mono ?_
  rintro e w1 ⟨rfl, hi1, hx1⟩
  have hk1 := (hx1.block (w.heap.size + 1 + 1) (by rw [heap_size_alloc]; omega) (by omega)).trans (heap_old (o := .cells #[.bool false, .slice none 0 0] 89) HT.out.b2)
  have hb1 : Below w.heap.size w w1 := (HT.out.below.alloc HT.out.below.size _).trans (hx1.below (by have := HT.out.below.size; rw [heap_size_alloc]; omega) (fun k hk => by have := HT.out.below.size; omega))
  have HK1 := Lib.hid hk1
  have HI1 := Lib.hid hi1
  have HB1 := Lib.hid hb1
  clear hk1 hi1 hx1 hb1 c0 c1
  go_wp2_with fail
  refine (HN.out _ w1 HI1.out).mono ?_
  rintro e w5 ⟨t5, v5, rfl, hb5⟩
  have HB5 := Lib.hid (bt HB1.out hb5)
  clear hb5
  go_wp2_with fail
  have hp : PanicPost w (.panicked [{ v := .iface t5 v5, recovered := false }]) w5 := ⟨_, _, rfl, HB5.out⟩
  exact ⟨rfl, hp⟩

set_option maxRecDepth 100000 in
set_option maxHeartbeats 2000000 in
theorem uintSub_panic (gx gy : Nat) (x y : Int) (w : World) (hx : IntAt w gx x) (hy : IntAt w gy y) (ox : overU x = false) (oy : overU y = false) (oz : overU (x - y) = true) :
    Calls Tryz.prog 98 #[.agg #[.pointer (some ⟨gx, 0, none⟩)], .agg #[.pointer (some ⟨gy, 0, none⟩)]] w (PanicPost w) := by
  have hT := twoBox w gx gy x y hx hy
  have hwl := sub_words ox oy
  have HT := Lib.hid hT
  have HS := Lib.hid (fun (gz : Nat) (w2 : World) (h1 : IntNew w2 gz) (h2 : IntAt w2 gx x) (h3 : IntAt w2 gy y) => intSub_walk gz gx gy x y w2 h1 h2 h3 ox oy)
  have HN := Lib.hid (fun (g : Nat) (w2 : World) (h1 : IntAt w2 g (x - y)) => newUint_panic g (x - y) w2 h1 (by omega) oz)
  clear hx hy hT
  go_enter Tryz.func98, Tryz.ntmps98
  go_upto_region 1 with fail
  obtain ⟨wa, hwa⟩ : ∃ wa, ((w.alloc (.cells #[.pointer (some ⟨gx, 0, none⟩)] 62)).alloc (.cells #[.pointer (some ⟨gy, 0, none⟩)] 62)).alloc (.cells #[.pointer none] 62) = wa := ⟨_, rfl⟩
  rw [hwa] at HT ⊢
  have c0 : ∀ o, (wa.alloc o).cell? ⟨w.heap.size, 0, none⟩ = some (.pointer (some ⟨gx, 0, none⟩)) := fun o => one_cell (heap_old HT.out.b0)
  have c1 : ∀ o, (wa.alloc o).cell? ⟨w.heap.size + 1, 0, none⟩ = some (.pointer (some ⟨gy, 0, none⟩)) := fun o => one_cell (heap_old HT.out.b1)
  have hs2 := iter_lt HT.out.b2
  clear hwa
  go_wp2_with fail
  refine (HS.out wa.heap.size _ (heap_here _ _) (HT.out.hx.below (below_a1 _ _)) (HT.out.hy.below (below_a1 _ _))).mono ?_
  rintro e w1 ⟨rfl, hi1, hx1⟩
  have hk1 := (hx1.block (w.heap.size + 1 + 1) (by rw [heap_size_alloc]; omega) (by omega)).trans (heap_old (o := .cells #[.bool false, .slice none 0 0] 89) HT.out.b2)
  have hb1 : Below w.heap.size w w1 := (HT.out.below.alloc HT.out.below.size _).trans (hx1.below (by have := HT.out.below.size; rw [heap_size_alloc]; omega) (fun k hk => by have := HT.out.below.size; omega))
  have HK1 := Lib.hid hk1
  have HI1 := Lib.hid hi1
  have HB1 := Lib.hid hb1
  clear hk1 hi1 hx1 hb1 c0 c1
  go_wp2_with fail
  refine (HN.out _ w1 HI1.out).mono ?_
  rintro e w5 ⟨t5, v5, rfl, hb5⟩
  have HB5 := Lib.hid (bt HB1.out hb5)
  clear hb5
  go_wp2_with fail
  have hp : PanicPost w (.panicked [{ v := .iface t5 v5, recovered := false }]) w5 := ⟨_, _, rfl, HB5.out⟩
  exact ⟨rfl, hp⟩

end Go.Proofs.YthipbglnaalhmaaGreatDoor
