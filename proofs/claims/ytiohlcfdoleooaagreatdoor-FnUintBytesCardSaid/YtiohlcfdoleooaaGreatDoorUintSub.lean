/-
  Uint.Sub of cosmosmath; impl.UintDo, subtracting.
-/
import Derived.Test.YtiohlcfdoleooaaGreatDoorUintNew
import Derived.Test.YtiohlcfdoleooaaGreatDoorSpecMul
import Derived.Test.YtiohlcfdoleooaaGreatDoorIntSubB
import Derived.Test.YtiohlcfdoleooaaGreatDoorIntSubC
namespace Go.Proofs.YtiohlcfdoleooaaGreatDoor
open Go.RowKit

/-- What becomes of a number's bytes that a Uint has. -/
theorem overU_words {z : Int} (h : overU z = false) : (wds z.natAbs).length ≤ 5 := by
  unfold overU at h
  rw [Bool.or_eq_false_iff] at h
  have h2 := of_decide_eq_false h.2
  exact toD_length_le (by decide) 5 _ (Nat.lt_of_lt_of_le ((natLen_lt_iff z.natAbs 256).1 (by omega)) (by decide))
theorem overU_pos {z : Int} (h : overU z = false) : ¬ z < 0 := by
  unfold overU at h
  rw [Bool.or_eq_false_iff] at h
  exact of_decide_eq_false h.1
theorem sub_words {x y : Int} (hx : overU x = false) (hy : overU y = false) : (wds (x - y).natAbs).length ≤ 5 := by
  have h1 := hx
  have h2 := hy
  unfold overU at h1 h2
  rw [Bool.or_eq_false_iff] at h1 h2
  have a1 := of_decide_eq_false h1.2
  have a2 := of_decide_eq_false h2.2
  have b1 := (natLen_lt_iff x.natAbs 256).1 (by omega)
  have b2 := (natLen_lt_iff y.natAbs 256).1 (by omega)
  have c1 := overU_pos hx
  have c2 := overU_pos hy
  refine toD_length_le (by decide) 5 _ (Nat.lt_of_le_of_lt (m := x.natAbs + y.natAbs) (by omega) ?_)
  have e : (2 : Nat) ^ 256 + 2 ^ 256 ≤ 18446744073709551616 ^ 5 := by decide
  omega
theorem intSub_walk (gz gx gy : Nat) (x y : Int) (w : World) (hz : IntNew w gz) (hx : IntAt w gx x) (hy : IntAt w gy y) (ox : overU x = false) (oy : overU y = false) :
    Calls Tryz.prog 141 #[.pointer (some ⟨gz, 0, none⟩), .pointer (some ⟨gx, 0, none⟩), .pointer (some ⟨gy, 0, none⟩)] w fun e w' => e = .returned (.pointer (some ⟨gz, 0, none⟩)) ∧ IntAt w' gz (x - y) ∧ Ext (fun b => b = gz) w w' := by
  have c1 := overU_pos ox
  have c2 := overU_pos oy
  have w1 := overU_words ox
  have w2 := overU_words oy
  have hs : decide (x < 0) = decide (y < 0) := by rw [decide_eq_false c1, decide_eq_false c2]
  by_cases h : y.natAbs ≤ x.natAbs
  · exact intSubGe_walk gz gx gy x y w hz hx hy (by omega) (by omega) hs h
  · exact intSubLt_walk gz gx gy x y w hz hx hy (by omega) (by omega) hs (by omega)

/-- What a method of Uint with two Uints finds: both boxed, room for the result, a new number. -/
structure TwoBox (w : World) (gx gy : Nat) (x y : Int) (wa : World) : Prop where
  b0 : wa.heap[w.heap.size]? = some (.cells #[.pointer (some ⟨gx, 0, none⟩)] 64 (0, 0))
  b1 : wa.heap[w.heap.size + 1]? = some (.cells #[.pointer (some ⟨gy, 0, none⟩)] 64 (0, 0))
  b2 : wa.heap[w.heap.size + 1 + 1]? = some (.cells #[.pointer none] 64 (0, 0))
  hx : IntAt wa gx x
  hy : IntAt wa gy y
  below : Below w.heap.size w wa
theorem twoBox (w : World) (gx gy : Nat) (x y : Int) (hx : IntAt w gx x) (hy : IntAt w gy y) :
    TwoBox w gx gy x y (((w.alloc (.cells #[.pointer (some ⟨gx, 0, none⟩)] 64)).alloc (.cells #[.pointer (some ⟨gy, 0, none⟩)] 64)).alloc (.cells #[.pointer none] 64)) := by
  have hb := bt (below_a2 w (.cells #[.pointer (some ⟨gx, 0, none⟩)] 64) (.cells #[.pointer (some ⟨gy, 0, none⟩)] 64)) (below_a1 _ (.cells #[.pointer none] 64))
  exact ⟨heap_old (heap_old (heap_here _ _)), heap_old (heap_at _ _ (by rw [heap_size_alloc])), heap_at _ _ (by rw [heap_size_alloc, heap_size_alloc]), hx.below hb, hy.below hb, hb⟩

set_option maxRecDepth 100000 in
set_option maxHeartbeats 2000000 in
theorem uintSub_walk (gx gy : Nat) (x y : Int) (w : World) (hx : IntAt w gx x) (hy : IntAt w gy y) (ox : overU x = false) (oy : overU y = false) (oz : overU (x - y) = false) :
    Calls Tryz.prog 69 #[.agg #[.pointer (some ⟨gx, 0, none⟩)], .agg #[.pointer (some ⟨gy, 0, none⟩)]] w (MadePost w (x - y)) := by
  have hT := twoBox w gx gy x y hx hy
  have hwl := overU_words oz
  have HT := Lib.hid hT
  have HS := Lib.hid (fun (gz : Nat) (w2 : World) (h1 : IntNew w2 gz) (h2 : IntAt w2 gx x) (h3 : IntAt w2 gy y) => intSub_walk gz gx gy x y w2 h1 h2 h3 ox oy)
  have HN := Lib.hid (fun (g : Nat) (w2 : World) (h1 : IntAt w2 g (x - y)) => newUint_walk g (x - y) w2 h1 (by omega) oz)
  clear hx hy hT
  go_enter Tryz.func69, Tryz.ntmps69
  go_upto_region 1 with fail
  obtain ⟨wa, hwa⟩ : ∃ wa, ((w.alloc (.cells #[.pointer (some ⟨gx, 0, none⟩)] 64)).alloc (.cells #[.pointer (some ⟨gy, 0, none⟩)] 64)).alloc (.cells #[.pointer none] 64) = wa := ⟨_, rfl⟩
  rw [hwa] at HT ⊢
  have c0 : ∀ o, (wa.alloc o).cell? ⟨w.heap.size, 0, none⟩ = some (.pointer (some ⟨gx, 0, none⟩)) := fun o => one_cell (heap_old HT.out.b0)
  have c1 : ∀ o, (wa.alloc o).cell? ⟨w.heap.size + 1, 0, none⟩ = some (.pointer (some ⟨gy, 0, none⟩)) := fun o => one_cell (heap_old HT.out.b1)
  have hs2 := iter_lt HT.out.b2
  clear hwa
  go_wp2_with fail
  refine (HS.out wa.heap.size _ (heap_here _ _) (HT.out.hx.below (below_a1 _ _)) (HT.out.hy.below (below_a1 _ _))).mono ?_
  rintro e w1 ⟨rfl, hi1, hx1⟩
  have hk1 := (hx1.block (w.heap.size + 1 + 1) (by rw [heap_size_alloc]; omega) (by omega)).trans (heap_old (o := .cells #[.bool false, .slice none 0 0] 101) HT.out.b2)
  have hb1 : Below w.heap.size w w1 := (HT.out.below.alloc HT.out.below.size _).trans (hx1.below (by have := HT.out.below.size; rw [heap_size_alloc]; omega) (fun k hk => by have := HT.out.below.size; omega))
  have HK1 := Lib.hid hk1
  have HI1 := Lib.hid hi1
  have HB1 := Lib.hid hb1
  clear hk1 hi1 hx1 hb1 c0 c1
  go_wp2_with fail
  refine (HN.out _ w1 HI1.out).mono ?_
  rintro e w5 ⟨g5, rfl, hi5, hb5, hfr⟩
  have hk5 := (hb5.block (w.heap.size + 1 + 1) (iter_lt HK1.out)).trans HK1.out
  have c0 := one_cell hk5
  have f0 := one_free hk5 0
  have HK5 := Lib.hid hk5
  have HI5 := Lib.hid hi5
  have HB5 := Lib.hid hb5
  clear hk5 hi5 hb5
  go_wp2_with fail
  have k0 := one_set (u := .pointer (some ⟨g5, 0, none⟩)) HK5.out
  have d0 := one_cell k0
  exact bodyPost_ret (v := .agg #[.pointer (some ⟨g5, 0, none⟩)]) (by simp [results, Tryz.results69, go_sem, d0]) rfl
    ⟨g5, rfl, HI5.out.store HK5.out (by decide) (by decide) _, (bt HB1.out HB5.out).setCell (p := ⟨w.heap.size + 1 + 1, 0, none⟩) (by show w.heap.size ≤ w.heap.size + 1 + 1; omega) _, Nat.le_trans HB1.out.size hfr⟩
end Go.Proofs.YtiohlcfdoleooaaGreatDoor
