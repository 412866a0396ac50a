/-
  add, sub, mul, div of cosmosmath; SafeAdd, SafeSub, SafeMul, SafeQuo, Add, Sub, Mul, Quo of its Int.
-/
import Derived.Test.YtiohlcfdoleooaaGreatDoorBn29Z
import Derived.Test.YtiohlcfdoleooaaGreatDoorBn25Z
import Derived.Test.YtiohlcfdoleooaaGreatDoorBn09Z
namespace Go.Proofs.YtiohlcfdoleooaaGreatDoor
open Go.RowKit

/-- The errors of cosmosmath's Int are there. -/
def ErrsAre (w : World) (p q : Addr) : Prop := w.cell? ⟨0, 0, none⟩ = some (.iface 145 (.pointer (some p))) ∧ w.cell? ⟨1, 0, none⟩ = some (.iface 145 (.pointer (some q)))
theorem ErrsAre.below {w w' : World} {p q : Addr} (h : ErrsAre w p q) (hb : Below w.heap.size w w') : ErrsAre w' p q :=
  ⟨(hb.cell (by exact World.block_lt_of_cell? w _ h.1)).trans h.1, (hb.cell (by exact World.block_lt_of_cell? w _ h.2)).trans h.2⟩
theorem ErrsAre.lt {w : World} {p q : Addr} (h : ErrsAre w p q) : 0 < w.heap.size ∧ 1 < w.heap.size := ⟨World.block_lt_of_cell? w _ h.1, World.block_lt_of_cell? w _ h.2⟩
/-- What a safe function hands back where it tells an error. -/
def SafeNo (w : World) (e : Ending) (w' : World) : Prop := ∃ p, e = .returned (.tuple #[.agg #[.pointer none], .iface 145 (.pointer (some p))]) ∧ Below w.heap.size w w'
theorem overI_w4 {z : Int} (h : overI z = false) : (wds z.natAbs).length ≤ 4 := by
  have h2 := of_decide_eq_false h
  exact toD_length_le (by decide) 4 _ (Nat.lt_of_lt_of_le ((natLen_lt_iff z.natAbs 256).1 (by omega)) (by decide))
theorem overI_abs {z : Int} (h : overI z = false) : z.natAbs < 2 ^ 256 := by
  have h2 := of_decide_eq_false h
  exact (natLen_lt_iff z.natAbs 256).1 (by omega)
theorem overI_words9 {x y z : Int} (ox : overI x = false) (oy : overI y = false) (hz : z = x + y ∨ z = x - y ∨ z = x * y) : (wds z.natAbs).length ≤ 9 := by
  have b1 := overI_abs ox
  have b2 := overI_abs oy
  refine toD_length_le (by decide) 9 _ ?_
  have e : (2 : Nat) ^ 256 * 2 ^ 256 ≤ 18446744073709551616 ^ 9 := by decide
  have e2 : (2 : Nat) ^ 256 + 2 ^ 256 ≤ 18446744073709551616 ^ 9 := by decide
  rcases hz with rfl | rfl | rfl
  · omega
  · omega
  · rw [Int.natAbs_mul]; exact Nat.lt_of_lt_of_le (Nat.mul_lt_mul'' b1 b2) e

set_option maxRecDepth 100000 in
set_option maxHeartbeats 1000000 in
theorem cadd2_walk (gx gy : Nat) (x y : Int) (w : World) (hx : IntAt w gx x) (hy : IntAt w gy y) (ox : overI x = false) (oy : overI y = false) :
    Calls Tryz.prog 162 #[.pointer (some ⟨gx, 0, none⟩), .pointer (some ⟨gy, 0, none⟩)] w fun e w' => ∃ g, e = .returned (.pointer (some ⟨g, 0, none⟩)) ∧ IntAt w' g (x + y) ∧ Below w.heap.size w w' ∧ w.heap.size ≤ g := by
  have HA := Lib.hid (intAddAll_walk w.heap.size gx gy x y _ (heap_here w _) (hx.below (below_a1 _ _)) (hy.below (below_a1 _ _)) (by have := overI_w4 ox; omega) (by have := overI_w4 oy; omega))
  clear hx hy ox oy
  go_enter Tryz.func162, Tryz.ntmps162
  go_wp2_with fail
  refine HA.out.mono ?_
  rintro e w1 ⟨rfl, hi1, hx1⟩
  have HI1 := Lib.hid hi1
  have HB1 := Lib.hid ((below_a1 _ _).trans (hx1.below (B := w.heap.size) (by rw [heap_size_alloc]; omega) (fun k hk => by omega)))
  clear hi1 hx1
  go_wp2_with fail
  go_ret
  exact ⟨_, rfl, HI1.out, HB1.out, Nat.le_refl _⟩

set_option maxRecDepth 100000 in
set_option maxHeartbeats 2000000 in
theorem safeAdd2_walk (gx gy : Nat) (x y : Int) (w : World) (hx : IntAt w gx x) (hy : IntAt w gy y) (ox : overI x = false) (oy : overI y = false) (oz : overI (x + y) = false) :
    Calls Tryz.prog 106 #[.agg #[.pointer (some ⟨gx, 0, none⟩)], .agg #[.pointer (some ⟨gy, 0, none⟩)]] w (SafePost w (x + y)) := by
  have hT := twoBoxI w gx gy x y hx hy
  have HT := Lib.hid hT
  have HS := Lib.hid (fun (w2 : World) (h2 : IntAt w2 gx x) (h3 : IntAt w2 gy y) => cadd2_walk gx gy x y w2 h2 h3 ox oy)
  have HN := Lib.hid (fun (g : Nat) (w2 : World) (h1 : IntAt w2 g (x + y)) => bigOver_walk g (x + y) w2 h1 (by have := overI_words9 ox oy (z := x + y) (.inl rfl); omega))
  rw [oz] at HN
  clear hx hy hT oz ox oy
  go_enter Tryz.func106, Tryz.ntmps106
  go_upto_region 1 with fail
  obtain ⟨wa, hwa⟩ : ∃ wa, ((w.alloc (.cells #[.pointer (some ⟨gx, 0, none⟩)] 80)).alloc (.cells #[.pointer (some ⟨gy, 0, none⟩)] 80)).alloc (.cells #[.pointer none] 80) = wa := ⟨_, rfl⟩
  rw [hwa] at HT ⊢
  have c0 := one_cell HT.out.b0
  have c1 := one_cell HT.out.b1
  clear hwa
  go_wp2_with fail
  refine (HS.out wa HT.out.hx HT.out.hy).mono ?_
  rintro e w1 ⟨g1, rfl, hi1, hb1, hf1⟩
  have hk1 := (hb1.block (w.heap.size + 1 + 1) (iter_lt HT.out.b2)).trans HT.out.b2
  have e1 := one_cell hk1
  have f1 := one_free hk1 0
  have hs1 : w.heap.size ≤ g1 := Nat.le_trans HT.out.below.size hf1
  have HI1 := Lib.hid (hi1.store (o := 0) hk1 (by decide) (by decide) (.pointer (some ⟨g1, 0, none⟩)))
  have HK1 := Lib.hid (one_set (u := .pointer (some ⟨g1, 0, none⟩)) hk1)
  have HB1 := Lib.hid ((bt HT.out.below hb1).setCell (p := ⟨w.heap.size + 1 + 1, 0, none⟩) (by show w.heap.size ≤ w.heap.size + 1 + 1; omega) (.pointer (some ⟨g1, 0, none⟩)))
  clear hk1 hi1 hb1 hf1 c0 c1
  go_wp2_with fail
  obtain ⟨w2, hw2⟩ : ∃ w2, w1.setCell ⟨w.heap.size + 1 + 1, 0, none⟩ (.pointer (some ⟨g1, 0, none⟩)) = w2 := ⟨_, rfl⟩
  rw [hw2] at HI1 HK1 HB1 ⊢
  clear hw2 e1 f1
  refine (HN.out g1 w2 HI1.out).mono ?_
  rintro e w3 ⟨rfl, h3⟩
  subst h3
  have e2 := one_cell HK1.out
  have f2 := one_free HK1.out 0
  go_wp2_with fail
  have k0 := one_set (u := .pointer (some ⟨g1, 0, none⟩)) HK1.out
  have d0 := one_cell k0
  exact bodyPost_ret (v := .tuple #[.agg #[.pointer (some ⟨g1, 0, none⟩)], .nilIface]) (by simp [results, Tryz.results106, go_sem, d0]) rfl
    ⟨g1, rfl, HI1.out.store HK1.out (by decide) (by decide) _, HB1.out.setCell (p := ⟨w.heap.size + 1 + 1, 0, none⟩) (by show w.heap.size ≤ w.heap.size + 1 + 1; omega) _, hs1⟩

set_option maxRecDepth 100000 in
set_option maxHeartbeats 2000000 in
theorem safeAdd2_over (gx gy : Nat) (x y : Int) (p q : Addr) (w : World) (hx : IntAt w gx x) (hy : IntAt w gy y) (he : ErrsAre w p q) (ox : overI x = false) (oy : overI y = false) (oz : overI (x + y) = true) :
    Calls Tryz.prog 106 #[.agg #[.pointer (some ⟨gx, 0, none⟩)], .agg #[.pointer (some ⟨gy, 0, none⟩)]] w (SafeNo w) := by
  have hT := twoBoxI w gx gy x y hx hy
  have HT := Lib.hid hT
  have HS := Lib.hid (fun (w2 : World) (h2 : IntAt w2 gx x) (h3 : IntAt w2 gy y) => cadd2_walk gx gy x y w2 h2 h3 ox oy)
  have HN := Lib.hid (fun (g : Nat) (w2 : World) (h1 : IntAt w2 g (x + y)) => bigOver_walk g (x + y) w2 h1 (by have := overI_words9 ox oy (z := x + y) (.inl rfl); omega))
  rw [oz] at HN
  have HE := Lib.hid he
  clear hx hy hT oz ox oy he
  go_enter Tryz.func106, Tryz.ntmps106
  go_upto_region 1 with fail
  obtain ⟨wa, hwa⟩ : ∃ wa, ((w.alloc (.cells #[.pointer (some ⟨gx, 0, none⟩)] 80)).alloc (.cells #[.pointer (some ⟨gy, 0, none⟩)] 80)).alloc (.cells #[.pointer none] 80) = wa := ⟨_, rfl⟩
  rw [hwa] at HT ⊢
  have c0 := one_cell HT.out.b0
  have c1 := one_cell HT.out.b1
  clear hwa
  go_wp2_with fail
  refine (HS.out wa HT.out.hx HT.out.hy).mono ?_
  rintro e w1 ⟨g1, rfl, hi1, hb1, hf1⟩
  have hk1 := (hb1.block (w.heap.size + 1 + 1) (iter_lt HT.out.b2)).trans HT.out.b2
  have e1 := one_cell hk1
  have f1 := one_free hk1 0
  have hs1 : w.heap.size ≤ g1 := Nat.le_trans HT.out.below.size hf1
  have HI1 := Lib.hid (hi1.store (o := 0) hk1 (by decide) (by decide) (.pointer (some ⟨g1, 0, none⟩)))
  have HK1 := Lib.hid (one_set (u := .pointer (some ⟨g1, 0, none⟩)) hk1)
  have HB1 := Lib.hid ((bt HT.out.below hb1).setCell (p := ⟨w.heap.size + 1 + 1, 0, none⟩) (by show w.heap.size ≤ w.heap.size + 1 + 1; omega) (.pointer (some ⟨g1, 0, none⟩)))
  clear hk1 hi1 hb1 hf1 c0 c1
  go_wp2_with fail
  obtain ⟨w2, hw2⟩ : ∃ w2, w1.setCell ⟨w.heap.size + 1 + 1, 0, none⟩ (.pointer (some ⟨g1, 0, none⟩)) = w2 := ⟨_, rfl⟩
  rw [hw2] at HI1 HK1 HB1 ⊢
  clear hw2 e1 f1
  refine (HN.out g1 w2 HI1.out).mono ?_
  rintro e w3 ⟨rfl, h3⟩
  subst h3
  have e2 := one_cell HK1.out
  have f2 := one_free HK1.out 0
  have e3 := (HE.out.below HB1.out).1
  go_wp2_with fail
  go_region
  all_goals
    go_wp2_with fail
    have k0 := one_set (u := .pointer none) HK1.out
    have d0 := one_cell k0
    exact bodyPost_ret (v := .tuple #[.agg #[.pointer none], .iface 145 (.pointer (some p))]) (by simp [results, Tryz.results106, go_sem, d0]) rfl
      ⟨p, rfl, (HB1.out.setCell (p := ⟨w.heap.size + 1 + 1, 0, none⟩) (by show w.heap.size ≤ w.heap.size + 1 + 1; omega) _).drew⟩

set_option maxRecDepth 100000 in
set_option maxHeartbeats 1000000 in
theorem csub2_walk (gx gy : Nat) (x y : Int) (w : World) (hx : IntAt w gx x) (hy : IntAt w gy y) (ox : overI x = false) (oy : overI y = false) :
    Calls Tryz.prog 163 #[.pointer (some ⟨gx, 0, none⟩), .pointer (some ⟨gy, 0, none⟩)] w fun e w' => ∃ g, e = .returned (.pointer (some ⟨g, 0, none⟩)) ∧ IntAt w' g (x - y) ∧ Below w.heap.size w w' ∧ w.heap.size ≤ g := by
  have HA := Lib.hid (intSubAll_walk w.heap.size gx gy x y _ (heap_here w _) (hx.below (below_a1 _ _)) (hy.below (below_a1 _ _)) (by have := overI_w4 ox; omega) (by have := overI_w4 oy; omega))
  clear hx hy ox oy
  go_enter Tryz.func163, Tryz.ntmps163
  go_wp2_with fail
  refine HA.out.mono ?_
  rintro e w1 ⟨rfl, hi1, hx1⟩
  have HI1 := Lib.hid hi1
  have HB1 := Lib.hid ((below_a1 _ _).trans (hx1.below (B := w.heap.size) (by rw [heap_size_alloc]; omega) (fun k hk => by omega)))
  clear hi1 hx1
  go_wp2_with fail
  go_ret
  exact ⟨_, rfl, HI1.out, HB1.out, Nat.le_refl _⟩

set_option maxRecDepth 100000 in
set_option maxHeartbeats 2000000 in
theorem safeSub2_walk (gx gy : Nat) (x y : Int) (w : World) (hx : IntAt w gx x) (hy : IntAt w gy y) (ox : overI x = false) (oy : overI y = false) (oz : overI (x - y) = false) :
    Calls Tryz.prog 107 #[.agg #[.pointer (some ⟨gx, 0, none⟩)], .agg #[.pointer (some ⟨gy, 0, none⟩)]] w (SafePost w (x - y)) := by
  have hT := twoBoxI w gx gy x y hx hy
  have HT := Lib.hid hT
  have HS := Lib.hid (fun (w2 : World) (h2 : IntAt w2 gx x) (h3 : IntAt w2 gy y) => csub2_walk gx gy x y w2 h2 h3 ox oy)
  have HN := Lib.hid (fun (g : Nat) (w2 : World) (h1 : IntAt w2 g (x - y)) => bigOver_walk g (x - y) w2 h1 (by have := overI_words9 ox oy (z := x - y) (.inr (.inl rfl)); omega))
  rw [oz] at HN
  clear hx hy hT oz ox oy
  go_enter Tryz.func107, Tryz.ntmps107
  go_upto_region 1 with fail
  obtain ⟨wa, hwa⟩ : ∃ wa, ((w.alloc (.cells #[.pointer (some ⟨gx, 0, none⟩)] 80)).alloc (.cells #[.pointer (some ⟨gy, 0, none⟩)] 80)).alloc (.cells #[.pointer none] 80) = wa := ⟨_, rfl⟩
  rw [hwa] at HT ⊢
  have c0 := one_cell HT.out.b0
  have c1 := one_cell HT.out.b1
  clear hwa
  go_wp2_with fail
  refine (HS.out wa HT.out.hx HT.out.hy).mono ?_
  rintro e w1 ⟨g1, rfl, hi1, hb1, hf1⟩
  have hk1 := (hb1.block (w.heap.size + 1 + 1) (iter_lt HT.out.b2)).trans HT.out.b2
  have e1 := one_cell hk1
  have f1 := one_free hk1 0
  have hs1 : w.heap.size ≤ g1 := Nat.le_trans HT.out.below.size hf1
  have HI1 := Lib.hid (hi1.store (o := 0) hk1 (by decide) (by decide) (.pointer (some ⟨g1, 0, none⟩)))
  have HK1 := Lib.hid (one_set (u := .pointer (some ⟨g1, 0, none⟩)) hk1)
  have HB1 := Lib.hid ((bt HT.out.below hb1).setCell (p := ⟨w.heap.size + 1 + 1, 0, none⟩) (by show w.heap.size ≤ w.heap.size + 1 + 1; omega) (.pointer (some ⟨g1, 0, none⟩)))
  clear hk1 hi1 hb1 hf1 c0 c1
  go_wp2_with fail
  obtain ⟨w2, hw2⟩ : ∃ w2, w1.setCell ⟨w.heap.size + 1 + 1, 0, none⟩ (.pointer (some ⟨g1, 0, none⟩)) = w2 := ⟨_, rfl⟩
  rw [hw2] at HI1 HK1 HB1 ⊢
  clear hw2 e1 f1
  refine (HN.out g1 w2 HI1.out).mono ?_
  rintro e w3 ⟨rfl, h3⟩
  subst h3
  have e2 := one_cell HK1.out
  have f2 := one_free HK1.out 0
  go_wp2_with fail
  have k0 := one_set (u := .pointer (some ⟨g1, 0, none⟩)) HK1.out
  have d0 := one_cell k0
  exact bodyPost_ret (v := .tuple #[.agg #[.pointer (some ⟨g1, 0, none⟩)], .nilIface]) (by simp [results, Tryz.results107, go_sem, d0]) rfl
    ⟨g1, rfl, HI1.out.store HK1.out (by decide) (by decide) _, HB1.out.setCell (p := ⟨w.heap.size + 1 + 1, 0, none⟩) (by show w.heap.size ≤ w.heap.size + 1 + 1; omega) _, hs1⟩

set_option maxRecDepth 100000 in
set_option maxHeartbeats 2000000 in
theorem safeSub2_over (gx gy : Nat) (x y : Int) (p q : Addr) (w : World) (hx : IntAt w gx x) (hy : IntAt w gy y) (he : ErrsAre w p q) (ox : overI x = false) (oy : overI y = false) (oz : overI (x - y) = true) :
    Calls Tryz.prog 107 #[.agg #[.pointer (some ⟨gx, 0, none⟩)], .agg #[.pointer (some ⟨gy, 0, none⟩)]] w (SafeNo w) := by
  have hT := twoBoxI w gx gy x y hx hy
  have HT := Lib.hid hT
  have HS := Lib.hid (fun (w2 : World) (h2 : IntAt w2 gx x) (h3 : IntAt w2 gy y) => csub2_walk gx gy x y w2 h2 h3 ox oy)
  have HN := Lib.hid (fun (g : Nat) (w2 : World) (h1 : IntAt w2 g (x - y)) => bigOver_walk g (x - y) w2 h1 (by have := overI_words9 ox oy (z := x - y) (.inr (.inl rfl)); omega))
  rw [oz] at HN
  have HE := Lib.hid he
  clear hx hy hT oz ox oy he
  go_enter Tryz.func107, Tryz.ntmps107
  go_upto_region 1 with fail
  obtain ⟨wa, hwa⟩ : ∃ wa, ((w.alloc (.cells #[.pointer (some ⟨gx, 0, none⟩)] 80)).alloc (.cells #[.pointer (some ⟨gy, 0, none⟩)] 80)).alloc (.cells #[.pointer none] 80) = wa := ⟨_, rfl⟩
  rw [hwa] at HT ⊢
  have c0 := one_cell HT.out.b0
  have c1 := one_cell HT.out.b1
  clear hwa
  go_wp2_with fail
  refine (HS.out wa HT.out.hx HT.out.hy).mono ?_
  rintro e w1 ⟨g1, rfl, hi1, hb1, hf1⟩
  have hk1 := (hb1.block (w.heap.size + 1 + 1) (iter_lt HT.out.b2)).trans HT.out.b2
  have e1 := one_cell hk1
  have f1 := one_free hk1 0
  have hs1 : w.heap.size ≤ g1 := Nat.le_trans HT.out.below.size hf1
  have HI1 := Lib.hid (hi1.store (o := 0) hk1 (by decide) (by decide) (.pointer (some ⟨g1, 0, none⟩)))
  have HK1 := Lib.hid (one_set (u := .pointer (some ⟨g1, 0, none⟩)) hk1)
  have HB1 := Lib.hid ((bt HT.out.below hb1).setCell (p := ⟨w.heap.size + 1 + 1, 0, none⟩) (by show w.heap.size ≤ w.heap.size + 1 + 1; omega) (.pointer (some ⟨g1, 0, none⟩)))
  clear hk1 hi1 hb1 hf1 c0 c1
  go_wp2_with fail
  obtain ⟨w2, hw2⟩ : ∃ w2, w1.setCell ⟨w.heap.size + 1 + 1, 0, none⟩ (.pointer (some ⟨g1, 0, none⟩)) = w2 := ⟨_, rfl⟩
  rw [hw2] at HI1 HK1 HB1 ⊢
  clear hw2 e1 f1
  refine (HN.out g1 w2 HI1.out).mono ?_
  rintro e w3 ⟨rfl, h3⟩
  subst h3
  have e2 := one_cell HK1.out
  have f2 := one_free HK1.out 0
  have e3 := (HE.out.below HB1.out).1
  go_wp2_with fail
  go_region
  all_goals
    go_wp2_with fail
    have k0 := one_set (u := .pointer none) HK1.out
    have d0 := one_cell k0
    exact bodyPost_ret (v := .tuple #[.agg #[.pointer none], .iface 145 (.pointer (some p))]) (by simp [results, Tryz.results107, go_sem, d0]) rfl
      ⟨p, rfl, (HB1.out.setCell (p := ⟨w.heap.size + 1 + 1, 0, none⟩) (by show w.heap.size ≤ w.heap.size + 1 + 1; omega) _).drew⟩

set_option maxRecDepth 100000 in
set_option maxHeartbeats 1000000 in
theorem cmul2_walk (gx gy : Nat) (x y : Int) (w : World) (hx : IntAt w gx x) (hy : IntAt w gy y) (hne : gy ≠ gx) (hk : KaraIs w) (ox : overI x = false) (oy : overI y = false) :
    Calls Tryz.prog 164 #[.pointer (some ⟨gx, 0, none⟩), .pointer (some ⟨gy, 0, none⟩)] w fun e w' => ∃ g, e = .returned (.pointer (some ⟨g, 0, none⟩)) ∧ IntAt w' g (x * y) ∧ Below w.heap.size w w' ∧ w.heap.size ≤ g := by
  have HA := Lib.hid (intMul_walk w.heap.size gx gy x y _ (heap_here w _) (hx.below (below_a1 _ _)) (hy.below (below_a1 _ _)) hne (Nat.ne_of_lt hx.lt) (Nat.ne_of_lt hy.lt) (hk.below (below_a1 _ _)) (by have := overI_w4 ox; omega) (by have := overI_w4 oy; omega))
  clear hx hy ox oy hk
  go_enter Tryz.func164, Tryz.ntmps164
  go_wp2_with fail
  refine HA.out.mono ?_
  rintro e w1 ⟨rfl, hi1, hx1⟩
  have HI1 := Lib.hid hi1
  have HB1 := Lib.hid ((below_a1 _ _).trans (hx1.below (B := w.heap.size) (by rw [heap_size_alloc]; omega) (fun k hk => by omega)))
  clear hi1 hx1
  go_wp2_with fail
  go_ret
  exact ⟨_, rfl, HI1.out, HB1.out, Nat.le_refl _⟩

set_option maxRecDepth 100000 in
set_option maxHeartbeats 2000000 in
theorem safeMul2_walk (gx gy : Nat) (x y : Int) (w : World) (hx : IntAt w gx x) (hy : IntAt w gy y) (hne : gy ≠ gx) (hk : KaraIs w) (ox : overI x = false) (oy : overI y = false) (oz : overI (x * y) = false) :
    Calls Tryz.prog 108 #[.agg #[.pointer (some ⟨gx, 0, none⟩)], .agg #[.pointer (some ⟨gy, 0, none⟩)]] w (SafePost w (x * y)) := by
  have hT := twoBoxI w gx gy x y hx hy
  have HT := Lib.hid hT
  have HS := Lib.hid (fun (w2 : World) (h2 : IntAt w2 gx x) (h3 : IntAt w2 gy y) (h4 : KaraIs w2) => cmul2_walk gx gy x y w2 h2 h3 hne h4 ox oy)
  have HN := Lib.hid (fun (g : Nat) (w2 : World) (h1 : IntAt w2 g (x * y)) => bigOver_walk g (x * y) w2 h1 (by have := overI_words9 ox oy (z := x * y) (.inr (.inr rfl)); omega))
  rw [oz] at HN
  have HK := Lib.hid hk
  clear hx hy hT oz ox oy hk
  go_enter Tryz.func108, Tryz.ntmps108
  go_upto_region 1 with fail
  obtain ⟨wa, hwa⟩ : ∃ wa, ((w.alloc (.cells #[.pointer (some ⟨gx, 0, none⟩)] 80)).alloc (.cells #[.pointer (some ⟨gy, 0, none⟩)] 80)).alloc (.cells #[.pointer none] 80) = wa := ⟨_, rfl⟩
  rw [hwa] at HT ⊢
  have c0 := one_cell HT.out.b0
  have c1 := one_cell HT.out.b1
  clear hwa
  go_wp2_with fail
  refine (HS.out wa HT.out.hx HT.out.hy (HK.out.below HT.out.below)).mono ?_
  rintro e w1 ⟨g1, rfl, hi1, hb1, hf1⟩
  have hk1 := (hb1.block (w.heap.size + 1 + 1) (iter_lt HT.out.b2)).trans HT.out.b2
  have e1 := one_cell hk1
  have f1 := one_free hk1 0
  have hs1 : w.heap.size ≤ g1 := Nat.le_trans HT.out.below.size hf1
  have HI1 := Lib.hid (hi1.store (o := 0) hk1 (by decide) (by decide) (.pointer (some ⟨g1, 0, none⟩)))
  have HK1 := Lib.hid (one_set (u := .pointer (some ⟨g1, 0, none⟩)) hk1)
  have HB1 := Lib.hid ((bt HT.out.below hb1).setCell (p := ⟨w.heap.size + 1 + 1, 0, none⟩) (by show w.heap.size ≤ w.heap.size + 1 + 1; omega) (.pointer (some ⟨g1, 0, none⟩)))
  clear hk1 hi1 hb1 hf1 c0 c1
  go_wp2_with fail
  obtain ⟨w2, hw2⟩ : ∃ w2, w1.setCell ⟨w.heap.size + 1 + 1, 0, none⟩ (.pointer (some ⟨g1, 0, none⟩)) = w2 := ⟨_, rfl⟩
  rw [hw2] at HI1 HK1 HB1 ⊢
  clear hw2 e1 f1
  refine (HN.out g1 w2 HI1.out).mono ?_
  rintro e w3 ⟨rfl, h3⟩
  subst h3
  have e2 := one_cell HK1.out
  have f2 := one_free HK1.out 0
  go_wp2_with fail
  have k0 := one_set (u := .pointer (some ⟨g1, 0, none⟩)) HK1.out
  have d0 := one_cell k0
  exact bodyPost_ret (v := .tuple #[.agg #[.pointer (some ⟨g1, 0, none⟩)], .nilIface]) (by simp [results, Tryz.results108, go_sem, d0]) rfl
    ⟨g1, rfl, HI1.out.store HK1.out (by decide) (by decide) _, HB1.out.setCell (p := ⟨w.heap.size + 1 + 1, 0, none⟩) (by show w.heap.size ≤ w.heap.size + 1 + 1; omega) _, hs1⟩

set_option maxRecDepth 100000 in
set_option maxHeartbeats 2000000 in
theorem safeMul2_over (gx gy : Nat) (x y : Int) (p q : Addr) (w : World) (hx : IntAt w gx x) (hy : IntAt w gy y) (he : ErrsAre w p q) (hne : gy ≠ gx) (hk : KaraIs w) (ox : overI x = false) (oy : overI y = false) (oz : overI (x * y) = true) :
    Calls Tryz.prog 108 #[.agg #[.pointer (some ⟨gx, 0, none⟩)], .agg #[.pointer (some ⟨gy, 0, none⟩)]] w (SafeNo w) := by
  have hT := twoBoxI w gx gy x y hx hy
  have HT := Lib.hid hT
  have HS := Lib.hid (fun (w2 : World) (h2 : IntAt w2 gx x) (h3 : IntAt w2 gy y) (h4 : KaraIs w2) => cmul2_walk gx gy x y w2 h2 h3 hne h4 ox oy)
  have HN := Lib.hid (fun (g : Nat) (w2 : World) (h1 : IntAt w2 g (x * y)) => bigOver_walk g (x * y) w2 h1 (by have := overI_words9 ox oy (z := x * y) (.inr (.inr rfl)); omega))
  rw [oz] at HN
  have HK := Lib.hid hk
  have HE := Lib.hid he
  clear hx hy hT oz ox oy he hk
  go_enter Tryz.func108, Tryz.ntmps108
  go_upto_region 1 with fail
  obtain ⟨wa, hwa⟩ : ∃ wa, ((w.alloc (.cells #[.pointer (some ⟨gx, 0, none⟩)] 80)).alloc (.cells #[.pointer (some ⟨gy, 0, none⟩)] 80)).alloc (.cells #[.pointer none] 80) = wa := ⟨_, rfl⟩
  rw [hwa] at HT ⊢
  have c0 := one_cell HT.out.b0
  have c1 := one_cell HT.out.b1
  clear hwa
  go_wp2_with fail
  refine (HS.out wa HT.out.hx HT.out.hy (HK.out.below HT.out.below)).mono ?_
  rintro e w1 ⟨g1, rfl, hi1, hb1, hf1⟩
  have hk1 := (hb1.block (w.heap.size + 1 + 1) (iter_lt HT.out.b2)).trans HT.out.b2
  have e1 := one_cell hk1
  have f1 := one_free hk1 0
  have hs1 : w.heap.size ≤ g1 := Nat.le_trans HT.out.below.size hf1
  have HI1 := Lib.hid (hi1.store (o := 0) hk1 (by decide) (by decide) (.pointer (some ⟨g1, 0, none⟩)))
  have HK1 := Lib.hid (one_set (u := .pointer (some ⟨g1, 0, none⟩)) hk1)
  have HB1 := Lib.hid ((bt HT.out.below hb1).setCell (p := ⟨w.heap.size + 1 + 1, 0, none⟩) (by show w.heap.size ≤ w.heap.size + 1 + 1; omega) (.pointer (some ⟨g1, 0, none⟩)))
  clear hk1 hi1 hb1 hf1 c0 c1
  go_wp2_with fail
  obtain ⟨w2, hw2⟩ : ∃ w2, w1.setCell ⟨w.heap.size + 1 + 1, 0, none⟩ (.pointer (some ⟨g1, 0, none⟩)) = w2 := ⟨_, rfl⟩
  rw [hw2] at HI1 HK1 HB1 ⊢
  clear hw2 e1 f1
  refine (HN.out g1 w2 HI1.out).mono ?_
  rintro e w3 ⟨rfl, h3⟩
  subst h3
  have e2 := one_cell HK1.out
  have f2 := one_free HK1.out 0
  have e3 := (HE.out.below HB1.out).1
  go_wp2_with fail
  go_region
  all_goals
    go_wp2_with fail
    have k0 := one_set (u := .pointer none) HK1.out
    have d0 := one_cell k0
    exact bodyPost_ret (v := .tuple #[.agg #[.pointer none], .iface 145 (.pointer (some p))]) (by simp [results, Tryz.results108, go_sem, d0]) rfl
      ⟨p, rfl, (HB1.out.setCell (p := ⟨w.heap.size + 1 + 1, 0, none⟩) (by show w.heap.size ≤ w.heap.size + 1 + 1; omega) _).drew⟩

set_option maxRecDepth 100000 in
set_option maxHeartbeats 2000000 in
theorem intAdd2_walk (gx gy : Nat) (x y : Int) (w : World) (hx : IntAt w gx x) (hy : IntAt w gy y) (ox : overI x = false) (oy : overI y = false) (oz : overI (x + y) = false) :
    Calls Tryz.prog 97 #[.agg #[.pointer (some ⟨gx, 0, none⟩)], .agg #[.pointer (some ⟨gy, 0, none⟩)]] w (MadePost w (x + y)) := by
  have hT := twoBoxI w gx gy x y hx hy
  have HS := Lib.hid (fun (w2 : World) (h2 : IntAt w2 gx x) (h3 : IntAt w2 gy y) => safeAdd2_walk gx gy x y w2 h2 h3 ox oy oz)
  have HT := Lib.hid hT
  clear hx hy hT ox oy oz
  go_enter Tryz.func97, Tryz.ntmps97
  go_upto_region 1 with fail
  obtain ⟨wa, hwa⟩ : ∃ wa, ((w.alloc (.cells #[.pointer (some ⟨gx, 0, none⟩)] 80)).alloc (.cells #[.pointer (some ⟨gy, 0, none⟩)] 80)).alloc (.cells #[.pointer none] 80) = wa := ⟨_, rfl⟩
  rw [hwa] at HT ⊢
  have c0 := one_cell HT.out.b0
  have c1 := one_cell HT.out.b1
  clear hwa
  go_wp2_with fail
  refine (HS.out wa HT.out.hx HT.out.hy).mono ?_
  rintro e w1 ⟨g1, rfl, hi1, hb1, hf1⟩
  have hk1 := (hb1.block (w.heap.size + 1 + 1) (iter_lt HT.out.b2)).trans HT.out.b2
  have e1 : ∀ o, (w1.alloc o).cell? ⟨w.heap.size + 1 + 1, 0, none⟩ = some (.pointer none) := fun o => one_cell (heap_old hk1)
  have f1 : ∀ o, (w1.alloc o).frozen? ⟨w.heap.size + 1 + 1, 0, none⟩ = false := fun o => one_free (heap_old hk1) 0
  have hs1 : w.heap.size ≤ g1 := Nat.le_trans HT.out.below.size hf1
  have HI1 := Lib.hid hi1
  have HK1 := Lib.hid hk1
  have HB1 := Lib.hid (bt HT.out.below hb1)
  clear hk1 hi1 hb1 hf1 c0 c1
  go_wp2_with fail
  have k0 := one_set (u := .pointer (some ⟨g1, 0, none⟩)) (heap_old (o := .cells #[.pointer (some ⟨g1, 0, none⟩)] 80) HK1.out)
  have d0 := one_cell k0
  exact bodyPost_ret (v := .agg #[.pointer (some ⟨g1, 0, none⟩)]) (by simp [results, Tryz.results97, go_sem, d0]) rfl
    ⟨g1, rfl, (HI1.out.below (below_a1 _ _)).store (heap_old HK1.out) (by decide) (by decide) _, (bt HB1.out (below_a1 _ _)).setCell (p := ⟨w.heap.size + 1 + 1, 0, none⟩) (by show w.heap.size ≤ w.heap.size + 1 + 1; omega) _, hs1⟩

set_option maxRecDepth 100000 in
set_option maxHeartbeats 2000000 in
theorem intAdd2_panic (gx gy : Nat) (x y : Int) (p q : Addr) (w : World) (hx : IntAt w gx x) (hy : IntAt w gy y) (he : ErrsAre w p q) (ox : overI x = false) (oy : overI y = false) (oz : overI (x + y) = true) :
    Calls Tryz.prog 97 #[.agg #[.pointer (some ⟨gx, 0, none⟩)], .agg #[.pointer (some ⟨gy, 0, none⟩)]] w (PanicPost w) := by
  have hT := twoBoxI w gx gy x y hx hy
  have HS := Lib.hid (fun (w2 : World) (h2 : IntAt w2 gx x) (h3 : IntAt w2 gy y) (h5 : ErrsAre w2 p q) => safeAdd2_over gx gy x y p q w2 h2 h3 h5 ox oy oz)
  have HE := Lib.hid he
  have HT := Lib.hid hT
  clear hx hy hT ox oy oz he
  go_enter Tryz.func97, Tryz.ntmps97
  go_upto_region 1 with fail
  obtain ⟨wa, hwa⟩ : ∃ wa, ((w.alloc (.cells #[.pointer (some ⟨gx, 0, none⟩)] 80)).alloc (.cells #[.pointer (some ⟨gy, 0, none⟩)] 80)).alloc (.cells #[.pointer none] 80) = wa := ⟨_, rfl⟩
  rw [hwa] at HT ⊢
  have c0 := one_cell HT.out.b0
  have c1 := one_cell HT.out.b1
  clear hwa
  go_wp2_with fail
  refine (HS.out wa HT.out.hx HT.out.hy (HE.out.below HT.out.below)).mono ?_
  rintro e w1 ⟨p1, rfl, hb1⟩
  have HB1 := Lib.hid (bt (bt HT.out.below hb1) (below_a1 w1 (.cells #[.pointer none] 80)))
  clear hb1 c0 c1
  go_wp2_with fail
  have hp : PanicPost w (.panicked [{ v := .iface 145 (.pointer (some p1)), recovered := false }]) (w1.alloc (.cells #[.pointer none] 80)) := ⟨_, _, rfl, HB1.out⟩
  exact ⟨rfl, hp⟩

set_option maxRecDepth 100000 in
set_option maxHeartbeats 2000000 in
theorem intSub2_walk (gx gy : Nat) (x y : Int) (w : World) (hx : IntAt w gx x) (hy : IntAt w gy y) (ox : overI x = false) (oy : overI y = false) (oz : overI (x - y) = false) :
    Calls Tryz.prog 99 #[.agg #[.pointer (some ⟨gx, 0, none⟩)], .agg #[.pointer (some ⟨gy, 0, none⟩)]] w (MadePost w (x - y)) := by
  have hT := twoBoxI w gx gy x y hx hy
  have HS := Lib.hid (fun (w2 : World) (h2 : IntAt w2 gx x) (h3 : IntAt w2 gy y) => safeSub2_walk gx gy x y w2 h2 h3 ox oy oz)
  have HT := Lib.hid hT
  clear hx hy hT ox oy oz
  go_enter Tryz.func99, Tryz.ntmps99
  go_upto_region 1 with fail
  obtain ⟨wa, hwa⟩ : ∃ wa, ((w.alloc (.cells #[.pointer (some ⟨gx, 0, none⟩)] 80)).alloc (.cells #[.pointer (some ⟨gy, 0, none⟩)] 80)).alloc (.cells #[.pointer none] 80) = wa := ⟨_, rfl⟩
  rw [hwa] at HT ⊢
  have c0 := one_cell HT.out.b0
  have c1 := one_cell HT.out.b1
  clear hwa
  go_wp2_with fail
  refine (HS.out wa HT.out.hx HT.out.hy).mono ?_
  rintro e w1 ⟨g1, rfl, hi1, hb1, hf1⟩
  have hk1 := (hb1.block (w.heap.size + 1 + 1) (iter_lt HT.out.b2)).trans HT.out.b2
  have e1 : ∀ o, (w1.alloc o).cell? ⟨w.heap.size + 1 + 1, 0, none⟩ = some (.pointer none) := fun o => one_cell (heap_old hk1)
  have f1 : ∀ o, (w1.alloc o).frozen? ⟨w.heap.size + 1 + 1, 0, none⟩ = false := fun o => one_free (heap_old hk1) 0
  have hs1 : w.heap.size ≤ g1 := Nat.le_trans HT.out.below.size hf1
  have HI1 := Lib.hid hi1
  have HK1 := Lib.hid hk1
  have HB1 := Lib.hid (bt HT.out.below hb1)
  clear hk1 hi1 hb1 hf1 c0 c1
  go_wp2_with fail
  have k0 := one_set (u := .pointer (some ⟨g1, 0, none⟩)) (heap_old (o := .cells #[.pointer (some ⟨g1, 0, none⟩)] 80) HK1.out)
  have d0 := one_cell k0
  exact bodyPost_ret (v := .agg #[.pointer (some ⟨g1, 0, none⟩)]) (by simp [results, Tryz.results99, go_sem, d0]) rfl
    ⟨g1, rfl, (HI1.out.below (below_a1 _ _)).store (heap_old HK1.out) (by decide) (by decide) _, (bt HB1.out (below_a1 _ _)).setCell (p := ⟨w.heap.size + 1 + 1, 0, none⟩) (by show w.heap.size ≤ w.heap.size + 1 + 1; omega) _, hs1⟩

set_option maxRecDepth 100000 in
set_option maxHeartbeats 2000000 in
theorem intSub2_panic (gx gy : Nat) (x y : Int) (p q : Addr) (w : World) (hx : IntAt w gx x) (hy : IntAt w gy y) (he : ErrsAre w p q) (ox : overI x = false) (oy : overI y = false) (oz : overI (x - y) = true) :
    Calls Tryz.prog 99 #[.agg #[.pointer (some ⟨gx, 0, none⟩)], .agg #[.pointer (some ⟨gy, 0, none⟩)]] w (PanicPost w) := by
  have hT := twoBoxI w gx gy x y hx hy
  have HS := Lib.hid (fun (w2 : World) (h2 : IntAt w2 gx x) (h3 : IntAt w2 gy y) (h5 : ErrsAre w2 p q) => safeSub2_over gx gy x y p q w2 h2 h3 h5 ox oy oz)
  have HE := Lib.hid he
  have HT := Lib.hid hT
  clear hx hy hT ox oy oz he
  go_enter Tryz.func99, Tryz.ntmps99
  go_upto_region 1 with fail
  obtain ⟨wa, hwa⟩ : ∃ wa, ((w.alloc (.cells #[.pointer (some ⟨gx, 0, none⟩)] 80)).alloc (.cells #[.pointer (some ⟨gy, 0, none⟩)] 80)).alloc (.cells #[.pointer none] 80) = wa := ⟨_, rfl⟩
  rw [hwa] at HT ⊢
  have c0 := one_cell HT.out.b0
  have c1 := one_cell HT.out.b1
  clear hwa
  go_wp2_with fail
  refine (HS.out wa HT.out.hx HT.out.hy (HE.out.below HT.out.below)).mono ?_
  rintro e w1 ⟨p1, rfl, hb1⟩
  have HB1 := Lib.hid (bt (bt HT.out.below hb1) (below_a1 w1 (.cells #[.pointer none] 80)))
  clear hb1 c0 c1
  go_wp2_with fail
  have hp : PanicPost w (.panicked [{ v := .iface 145 (.pointer (some p1)), recovered := false }]) (w1.alloc (.cells #[.pointer none] 80)) := ⟨_, _, rfl, HB1.out⟩
  exact ⟨rfl, hp⟩

set_option maxRecDepth 100000 in
set_option maxHeartbeats 2000000 in
theorem intMul2_walk (gx gy : Nat) (x y : Int) (w : World) (hx : IntAt w gx x) (hy : IntAt w gy y) (hne : gy ≠ gx) (hk : KaraIs w) (ox : overI x = false) (oy : overI y = false) (oz : overI (x * y) = false) :
    Calls Tryz.prog 100 #[.agg #[.pointer (some ⟨gx, 0, none⟩)], .agg #[.pointer (some ⟨gy, 0, none⟩)]] w (MadePost w (x * y)) := by
  have hT := twoBoxI w gx gy x y hx hy
  have HS := Lib.hid (fun (w2 : World) (h2 : IntAt w2 gx x) (h3 : IntAt w2 gy y) (h4 : KaraIs w2) => safeMul2_walk gx gy x y w2 h2 h3 hne h4 ox oy oz)
  have HK := Lib.hid hk
  have HT := Lib.hid hT
  clear hx hy hT ox oy oz hk
  go_enter Tryz.func100, Tryz.ntmps100
  go_upto_region 1 with fail
  obtain ⟨wa, hwa⟩ : ∃ wa, ((w.alloc (.cells #[.pointer (some ⟨gx, 0, none⟩)] 80)).alloc (.cells #[.pointer (some ⟨gy, 0, none⟩)] 80)).alloc (.cells #[.pointer none] 80) = wa := ⟨_, rfl⟩
  rw [hwa] at HT ⊢
  have c0 := one_cell HT.out.b0
  have c1 := one_cell HT.out.b1
  clear hwa
  go_wp2_with fail
  refine (HS.out wa HT.out.hx HT.out.hy (HK.out.below HT.out.below)).mono ?_
  rintro e w1 ⟨g1, rfl, hi1, hb1, hf1⟩
  have hk1 := (hb1.block (w.heap.size + 1 + 1) (iter_lt HT.out.b2)).trans HT.out.b2
  have e1 : ∀ o, (w1.alloc o).cell? ⟨w.heap.size + 1 + 1, 0, none⟩ = some (.pointer none) := fun o => one_cell (heap_old hk1)
  have f1 : ∀ o, (w1.alloc o).frozen? ⟨w.heap.size + 1 + 1, 0, none⟩ = false := fun o => one_free (heap_old hk1) 0
  have hs1 : w.heap.size ≤ g1 := Nat.le_trans HT.out.below.size hf1
  have HI1 := Lib.hid hi1
  have HK1 := Lib.hid hk1
  have HB1 := Lib.hid (bt HT.out.below hb1)
  clear hk1 hi1 hb1 hf1 c0 c1
  go_wp2_with fail
  have k0 := one_set (u := .pointer (some ⟨g1, 0, none⟩)) (heap_old (o := .cells #[.pointer (some ⟨g1, 0, none⟩)] 80) HK1.out)
  have d0 := one_cell k0
  exact bodyPost_ret (v := .agg #[.pointer (some ⟨g1, 0, none⟩)]) (by simp [results, Tryz.results100, go_sem, d0]) rfl
    ⟨g1, rfl, (HI1.out.below (below_a1 _ _)).store (heap_old HK1.out) (by decide) (by decide) _, (bt HB1.out (below_a1 _ _)).setCell (p := ⟨w.heap.size + 1 + 1, 0, none⟩) (by show w.heap.size ≤ w.heap.size + 1 + 1; omega) _, hs1⟩

set_option maxRecDepth 100000 in
set_option maxHeartbeats 2000000 in
theorem intMul2_panic (gx gy : Nat) (x y : Int) (p q : Addr) (w : World) (hx : IntAt w gx x) (hy : IntAt w gy y) (he : ErrsAre w p q) (hne : gy ≠ gx) (hk : KaraIs w) (ox : overI x = false) (oy : overI y = false) (oz : overI (x * y) = true) :
    Calls Tryz.prog 100 #[.agg #[.pointer (some ⟨gx, 0, none⟩)], .agg #[.pointer (some ⟨gy, 0, none⟩)]] w (PanicPost w) := by
  have hT := twoBoxI w gx gy x y hx hy
  have HS := Lib.hid (fun (w2 : World) (h2 : IntAt w2 gx x) (h3 : IntAt w2 gy y) (h5 : ErrsAre w2 p q) (h4 : KaraIs w2) => safeMul2_over gx gy x y p q w2 h2 h3 h5 hne h4 ox oy oz)
  have HK := Lib.hid hk
  have HE := Lib.hid he
  have HT := Lib.hid hT
  clear hx hy hT ox oy oz he hk
  go_enter Tryz.func100, Tryz.ntmps100
  go_upto_region 1 with fail
  obtain ⟨wa, hwa⟩ : ∃ wa, ((w.alloc (.cells #[.pointer (some ⟨gx, 0, none⟩)] 80)).alloc (.cells #[.pointer (some ⟨gy, 0, none⟩)] 80)).alloc (.cells #[.pointer none] 80) = wa := ⟨_, rfl⟩
  rw [hwa] at HT ⊢
  have c0 := one_cell HT.out.b0
  have c1 := one_cell HT.out.b1
  clear hwa
  go_wp2_with fail
  refine (HS.out wa HT.out.hx HT.out.hy (HE.out.below HT.out.below) (HK.out.below HT.out.below)).mono ?_
  rintro e w1 ⟨p1, rfl, hb1⟩
  have HB1 := Lib.hid (bt (bt HT.out.below hb1) (below_a1 w1 (.cells #[.pointer none] 80)))
  clear hb1 c0 c1
  go_wp2_with fail
  have hp : PanicPost w (.panicked [{ v := .iface 145 (.pointer (some p1)), recovered := false }]) (w1.alloc (.cells #[.pointer none] 80)) := ⟨_, _, rfl, HB1.out⟩
  exact ⟨rfl, hp⟩

set_option maxRecDepth 100000 in
set_option maxHeartbeats 2000000 in
theorem cdiv2_walk (gx gy : Nat) (x y : Int) (w : World) (hx : IntAt w gx x) (hy : IntAt w gy y) (hne : gy ≠ gx) (hk : DivIs w) (hy0 : y ≠ 0) (ox : overI x = false) (oy : overI y = false) :
    Calls Tryz.prog 143 #[.pointer (some ⟨gx, 0, none⟩), .pointer (some ⟨gy, 0, none⟩)] w fun e w' => ∃ g, e = .returned (.pointer (some ⟨g, 0, none⟩)) ∧ IntAt w' g (x.tdiv y) ∧ Below w.heap.size w w' ∧ w.heap.size ≤ g := by
  have hb := below_a1 w (.cells #[.bool false, .slice none 0 0] 101)
  have HQ := Lib.hid (intQuo_walk w.heap.size gx gy x y _ (heap_here w _) (hx.below hb) (hy.below hb) hne (Nat.ne_of_lt hx.lt) (Nat.ne_of_lt hy.lt) (hk.below hb hk.lt) (by have := overI_w4 ox; omega) (overI_w4 oy) hy0)
  have HB := Lib.hid hb
  clear hx hy hk hb
  go_enter Tryz.func143, Tryz.ntmps143
  go_wp2_with fail
  refine HQ.out.mono ?_
  rintro e w1 ⟨rfl, hi, hx1⟩
  have HI := Lib.hid hi
  have HB1 := Lib.hid (HB.out.trans (hx1.below (by rw [heap_size_alloc]; omega) (fun k hk => by omega)))
  clear hi hx1
  go_wp2_with fail
  go_ret
  exact ⟨w.heap.size, rfl, HI.out, HB1.out, Nat.le_refl _⟩
theorem quoI_fits {x y : Int} (ox : overI x = false) : overI (x.tdiv y) = false := by
  have h1 := overI_abs ox
  have hle : (x.tdiv y).natAbs ≤ x.natAbs := by rw [natAbs_quo]; exact Nat.div_le_self _ _
  unfold overI
  refine decide_eq_false ?_
  have := (natLen_lt_iff (x.tdiv y).natAbs 256).2 (by omega)
  omega

set_option maxRecDepth 100000 in
set_option maxHeartbeats 2000000 in
theorem safeQuo2_walk (gx gy : Nat) (x y : Int) (w : World) (hx : IntAt w gx x) (hy : IntAt w gy y) (hne : gy ≠ gx) (hk : DivIs w) (hy0 : y ≠ 0) (ox : overI x = false) (oy : overI y = false) :
    Calls Tryz.prog 109 #[.agg #[.pointer (some ⟨gx, 0, none⟩)], .agg #[.pointer (some ⟨gy, 0, none⟩)]] w (SafePost w (x.tdiv y)) := by
  have hT := twoBoxI w gx gy x y hx hy
  have HT := Lib.hid hT
  have HSG := Lib.hid (fun (w2 : World) (h : IntAt w2 gy y) => intSign_walk gy y w2 h)
  have HS := Lib.hid (fun (w2 : World) (h2 : IntAt w2 gx x) (h3 : IntAt w2 gy y) (h4 : DivIs w2) => cdiv2_walk gx gy x y w2 h2 h3 hne h4 hy0 ox oy)
  have HK := Lib.hid hk
  have hsn : (sgnC y == 0) = false := beq_eq_false_iff_ne.2 (by unfold sgnC; split <;> (try split) <;> omega)
  obtain ⟨s, hse⟩ : ∃ s, sgnC y = s := ⟨_, rfl⟩
  rw [hse] at HSG hsn
  clear hx hy hT ox oy hk hy0 hse
  go_enter Tryz.func109, Tryz.ntmps109
  go_upto_region 1 with fail
  obtain ⟨wa, hwa⟩ : ∃ wa, ((w.alloc (.cells #[.pointer (some ⟨gx, 0, none⟩)] 80)).alloc (.cells #[.pointer (some ⟨gy, 0, none⟩)] 80)).alloc (.cells #[.pointer none] 80) = wa := ⟨_, rfl⟩
  rw [hwa] at HT ⊢
  have c0 := one_cell HT.out.b0
  have c1 := one_cell HT.out.b1
  clear hwa
  go_wp2_with fail
  refine (HSG.out wa HT.out.hy).mono ?_
  rintro e w3 ⟨rfl, h3⟩
  subst h3
  go_wp2_with fail
  refine (HS.out wa HT.out.hx HT.out.hy (HK.out.below HT.out.below HK.out.lt)).mono ?_
  rintro e w1 ⟨g1, rfl, hi1, hb1, hf1⟩
  have hk1 := (hb1.block (w.heap.size + 1 + 1) (iter_lt HT.out.b2)).trans HT.out.b2
  have e1 := one_cell hk1
  have f1 := one_free hk1 0
  have hs1 : w.heap.size ≤ g1 := Nat.le_trans HT.out.below.size hf1
  have HI1 := Lib.hid hi1
  have HK1 := Lib.hid hk1
  have HB1 := Lib.hid (bt HT.out.below hb1)
  clear hk1 hi1 hb1 hf1 c0 c1
  go_wp2_with fail
  have k0 := one_set (u := .pointer (some ⟨g1, 0, none⟩)) HK1.out
  have d0 := one_cell k0
  exact bodyPost_ret (v := .tuple #[.agg #[.pointer (some ⟨g1, 0, none⟩)], .nilIface]) (by simp [results, Tryz.results109, go_sem, d0]) rfl
    ⟨g1, rfl, HI1.out.store HK1.out (by decide) (by decide) _, HB1.out.setCell (p := ⟨w.heap.size + 1 + 1, 0, none⟩) (by show w.heap.size ≤ w.heap.size + 1 + 1; omega) _, hs1⟩

set_option maxRecDepth 100000 in
set_option maxHeartbeats 2000000 in
theorem safeQuo2_zero (gx gy : Nat) (x : Int) (p q : Addr) (w : World) (hx : IntAt w gx x) (hy : IntAt w gy 0) (he : ErrsAre w p q) :
    Calls Tryz.prog 109 #[.agg #[.pointer (some ⟨gx, 0, none⟩)], .agg #[.pointer (some ⟨gy, 0, none⟩)]] w (SafeNo w) := by
  have hT := twoBoxI w gx gy x 0 hx hy
  have HT := Lib.hid hT
  have HSG : Hid (∀ (w2 : World), IntAt w2 gy 0 → Calls Tryz.prog 165 #[.pointer (some ⟨gy, 0, none⟩)] w2 fun e w' => e = .returned (.int .i64 0) ∧ w2 = w') := Lib.hid fun w2 h => intSign_walk gy 0 w2 h
  have HE := Lib.hid he
  clear hx hy hT he
  go_enter Tryz.func109, Tryz.ntmps109
  go_upto_region 1 with fail
  obtain ⟨wa, hwa⟩ : ∃ wa, ((w.alloc (.cells #[.pointer (some ⟨gx, 0, none⟩)] 80)).alloc (.cells #[.pointer (some ⟨gy, 0, none⟩)] 80)).alloc (.cells #[.pointer none] 80) = wa := ⟨_, rfl⟩
  rw [hwa] at HT ⊢
  have c1 := one_cell HT.out.b1
  have c2 := one_cell HT.out.b2
  have f2 := one_free HT.out.b2 0
  clear hwa
  go_wp2_with fail
  refine (HSG.out wa HT.out.hy).mono ?_
  rintro e w3 ⟨rfl, h3⟩
  subst h3
  have e3 := (HE.out.below HT.out.below).2
  go_wp2_with fail
  go_region
  all_goals
    go_wp2_with fail
    have k0 := one_set (u := .pointer none) HT.out.b2
    have d0 := one_cell k0
    exact bodyPost_ret (v := .tuple #[.agg #[.pointer none], .iface 145 (.pointer (some q))]) (by simp [results, Tryz.results109, go_sem, d0]) rfl
      ⟨q, rfl, (HT.out.below.setCell (p := ⟨w.heap.size + 1 + 1, 0, none⟩) (by show w.heap.size ≤ w.heap.size + 1 + 1; omega) _).drew⟩

set_option maxRecDepth 100000 in
set_option maxHeartbeats 2000000 in
theorem intQuo2_walk (gx gy : Nat) (x y : Int) (w : World) (hx : IntAt w gx x) (hy : IntAt w gy y) (hne : gy ≠ gx) (hk : DivIs w) (hy0 : y ≠ 0) (ox : overI x = false) (oy : overI y = false) :
    Calls Tryz.prog 101 #[.agg #[.pointer (some ⟨gx, 0, none⟩)], .agg #[.pointer (some ⟨gy, 0, none⟩)]] w (MadePost w (x.tdiv y)) := by
  have hT := twoBoxI w gx gy x y hx hy
  have HS := Lib.hid (fun (w2 : World) (h2 : IntAt w2 gx x) (h3 : IntAt w2 gy y) (h4 : DivIs w2) => safeQuo2_walk gx gy x y w2 h2 h3 hne h4 hy0 ox oy)
  have HK := Lib.hid hk
  have HT := Lib.hid hT
  clear hx hy hT ox oy hk hy0
  go_enter Tryz.func101, Tryz.ntmps101
  go_upto_region 1 with fail
  obtain ⟨wa, hwa⟩ : ∃ wa, ((w.alloc (.cells #[.pointer (some ⟨gx, 0, none⟩)] 80)).alloc (.cells #[.pointer (some ⟨gy, 0, none⟩)] 80)).alloc (.cells #[.pointer none] 80) = wa := ⟨_, rfl⟩
  rw [hwa] at HT ⊢
  have c0 := one_cell HT.out.b0
  have c1 := one_cell HT.out.b1
  clear hwa
  go_wp2_with fail
  refine (HS.out wa HT.out.hx HT.out.hy (HK.out.below HT.out.below HK.out.lt)).mono ?_
  rintro e w1 ⟨g1, rfl, hi1, hb1, hf1⟩
  have hk1 := (hb1.block (w.heap.size + 1 + 1) (iter_lt HT.out.b2)).trans HT.out.b2
  have e1 : ∀ o, (w1.alloc o).cell? ⟨w.heap.size + 1 + 1, 0, none⟩ = some (.pointer none) := fun o => one_cell (heap_old hk1)
  have f1 : ∀ o, (w1.alloc o).frozen? ⟨w.heap.size + 1 + 1, 0, none⟩ = false := fun o => one_free (heap_old hk1) 0
  have hs1 : w.heap.size ≤ g1 := Nat.le_trans HT.out.below.size hf1
  have HI1 := Lib.hid hi1
  have HK1 := Lib.hid hk1
  have HB1 := Lib.hid (bt HT.out.below hb1)
  clear hk1 hi1 hb1 hf1 c0 c1
  go_wp2_with fail
  have k0 := one_set (u := .pointer (some ⟨g1, 0, none⟩)) (heap_old (o := .cells #[.pointer (some ⟨g1, 0, none⟩)] 80) HK1.out)
  have d0 := one_cell k0
  exact bodyPost_ret (v := .agg #[.pointer (some ⟨g1, 0, none⟩)]) (by simp [results, Tryz.results101, go_sem, d0]) rfl
    ⟨g1, rfl, (HI1.out.below (below_a1 _ _)).store (heap_old HK1.out) (by decide) (by decide) _, (bt HB1.out (below_a1 _ _)).setCell (p := ⟨w.heap.size + 1 + 1, 0, none⟩) (by show w.heap.size ≤ w.heap.size + 1 + 1; omega) _, hs1⟩

set_option maxRecDepth 100000 in
set_option maxHeartbeats 2000000 in
theorem intQuo2_panic (gx gy : Nat) (x y : Int) (p q : Addr) (w : World) (hx : IntAt w gx x) (hy : IntAt w gy y) (he : ErrsAre w p q) (hy0 : y = 0) :
    Calls Tryz.prog 101 #[.agg #[.pointer (some ⟨gx, 0, none⟩)], .agg #[.pointer (some ⟨gy, 0, none⟩)]] w (PanicPost w) := by
  have hT := twoBoxI w gx gy x y hx hy
  have HS := Lib.hid (fun (w2 : World) (h2 : IntAt w2 gx x) (h3 : IntAt w2 gy y) (h5 : ErrsAre w2 p q) => safeQuo2_zero gx gy x p q w2 h2 (by rw [hy0] at h3; exact h3) h5)
  have HE := Lib.hid he
  have HT := Lib.hid hT
  clear hx hy hT he hy0
  go_enter Tryz.func101, Tryz.ntmps101
  go_upto_region 1 with fail
  obtain ⟨wa, hwa⟩ : ∃ wa, ((w.alloc (.cells #[.pointer (some ⟨gx, 0, none⟩)] 80)).alloc (.cells #[.pointer (some ⟨gy, 0, none⟩)] 80)).alloc (.cells #[.pointer none] 80) = wa := ⟨_, rfl⟩
  rw [hwa] at HT ⊢
  have c0 := one_cell HT.out.b0
  have c1 := one_cell HT.out.b1
  clear hwa
  go_wp2_with fail
  refine (HS.out wa HT.out.hx HT.out.hy (HE.out.below HT.out.below)).mono ?_
  rintro e w1 ⟨p1, rfl, hb1⟩
  have HB1 := Lib.hid (bt (bt HT.out.below hb1) (below_a1 w1 (.cells #[.pointer none] 80)))
  clear hb1 c0 c1
  go_wp2_with fail
  have hp : PanicPost w (.panicked [{ v := .iface 9 (.string ⟨#[68, 105, 118, 105, 115, 105, 111, 110, 32, 98, 121, 32, 122, 101, 114, 111]⟩), recovered := false }]) (w1.alloc (.cells #[.pointer none] 80)) := ⟨_, _, rfl, HB1.out⟩
  exact ⟨rfl, hp⟩
end Go.Proofs.YtiohlcfdoleooaaGreatDoor
