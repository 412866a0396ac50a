/-
  NewUint, impl.UintMade.
-/
import Derived.Test.YthipbglnaalhmaaGreatDoorUintNew
import Derived.Test.YthipbglnaalhmaaGreatDoorSpecMul
namespace Go.Proofs.YthipbglnaalhmaaGreatDoor
open Go.RowKit

set_option maxRecDepth 100000 in
set_option maxHeartbeats 1000000 in
theorem setUint64N_walk (x : Nat) (w : World) (hx : x < 18446744073709551616) :
    Calls Tryz.prog 146 #[.slice none 0 0, .int .u64 x] w (OwnPost w.heap.size w x) := by
  have hS := setWord_walk w.heap.size none 0 0 x w (.inl ⟨rfl, rfl, rfl⟩) (Nat.le_refl _) hx
  rw [wds_zero] at hS
  have HS := Lib.hid hS
  clear hS
  go_enter Tryz.func146, Tryz.ntmps146
  go_wp2_with fail
  refine HS.out.mono ?_
  rintro e w1 ⟨A1, c1, rfl, hp⟩
  go_wp2_with fail
  go_ret
  exact ⟨A1, c1, rfl, hp⟩

set_option maxRecDepth 100000 in
set_option maxHeartbeats 1000000 in
theorem intSetUint64_walk (gz x : Nat) (w : World) (hz : IntNew w gz) (hx : x < 18446744073709551616) :
    Calls Tryz.prog 102 #[.pointer (some ⟨gz, 0, none⟩), .int .u64 x] w fun e w' => e = .returned (.pointer (some ⟨gz, 0, none⟩)) ∧ IntAt w' gz (x : Int) ∧ Ext (fun b => b = gz) w w' := by
  have c1 := num_cell1 hz
  have HS := Lib.hid (setUint64N_walk x w hx)
  have HZ := Lib.hid hz
  have hlt := iter_lt hz
  clear hz
  go_enter Tryz.func102, Tryz.ntmps102
  go_wp2_with fail
  refine HS.out.mono ?_
  rintro e w1 ⟨A1, c1', rfl, hown, hb, hs⟩
  have hz1 := (hb.block gz hlt).trans HZ.out
  have e0 := num_cell0 hz1
  have e1 := num_cell1 hz1
  have f0 := one_free hz1 0
  have f1 := one_free hz1 1
  have HZ1 := Lib.hid hz1
  have HO := Lib.hid hown
  have HB := Lib.hid hb
  have hr := hown.room
  clear hz1 hown hb
  go_wp2_with fail
  go_ret
  exact ⟨rfl, IntAt.put HZ1.out (by simp) (decide_eq_false (by omega)) hr.1 (by omega) HO.out.wd (fun a ha => by have := HO.out.ge a ha; omega),
    Ext.setCell (D := fun b => b = gz) (p := ⟨gz, 0, none⟩) (Ext.setCell (D := fun b => b = gz) (p := ⟨gz, 1, none⟩) (Ext.of_below HB.out) (fun _ => rfl) _) (fun _ => rfl) _⟩

theorem over_u64 {x : Nat} (hx : x < 18446744073709551616) : overU (x : Int) = false ∧ natLen ((x : Int).natAbs) ≤ 320 ∧ (wds ((x : Int).natAbs)).length ≤ 1 := by
  have h1 : natLen x ≤ 64 := (natLen_lt_iff x 64).2 (by simpa using hx)
  have h2 : (wds x).length ≤ 1 := toD_length_le (by decide) 1 x (by simpa using hx)
  refine ⟨?_, by rw [Int.natAbs_natCast]; omega, by rw [Int.natAbs_natCast]; exact h2⟩
  unfold overU
  rw [decide_eq_false (show ¬ (x : Int) < 0 by omega), Int.natAbs_natCast, decide_eq_false (by omega)]
  rfl

set_option maxRecDepth 100000 in
set_option maxHeartbeats 1000000 in
theorem newUintU_walk (x : Nat) (w : World) (hx : x < 18446744073709551616) :
    Calls Tryz.prog 47 #[.int .u64 x] w (MadePost w (x : Int)) := by
  obtain ⟨ho, hl, hl1⟩ := over_u64 hx
  go_enter Tryz.func47, Tryz.ntmps47
  go_wp2_with fail
  have hs1 := heap_size_alloc w (.cells #[.pointer none] 62)
  have hz : IntNew ((w.alloc (.cells #[.pointer none] 62)).alloc (.cells #[.bool false, .slice none 0 0] 89)) (w.heap.size + 1) := heap_at _ _ hs1
  have hk : ((w.alloc (.cells #[.pointer none] 62)).alloc (.cells #[.bool false, .slice none 0 0] 89)).heap[w.heap.size]? = some (.cells #[.pointer none] 62 (0, 0)) := heap_old (heap_here _ _)
  have hb := below_a2 w (.cells #[.pointer none] 62) (.cells #[.bool false, .slice none 0 0] 89)
  obtain ⟨wa, hwa⟩ : ∃ wa, (w.alloc (.cells #[.pointer none] 62)).alloc (.cells #[.bool false, .slice none 0 0] 89) = wa := ⟨_, rfl⟩
  rw [hwa] at hz hk hb ⊢
  have HK := Lib.hid hk
  have HB := Lib.hid hb
  have HZ := Lib.hid hz
  clear hk hb hz hwa hs1
  refine (intSetUint64_walk (w.heap.size + 1) x wa HZ.out hx).mono ?_
  rintro e w1 ⟨rfl, hi1, hx1⟩
  have hk1 := (hx1.block w.heap.size (iter_lt HK.out) (by omega)).trans HK.out
  have hb1 : Below w.heap.size w w1 := HB.out.trans (hx1.below (by have := iter_lt HK.out; omega) (fun k hk => by omega))
  have HK1 := Lib.hid hk1
  have HI1 := Lib.hid hi1
  have HB1 := Lib.hid hb1
  clear hk1 hi1 hx1 hb1
  go_wp2_with fail
  refine (newUint_walk (w.heap.size + 1) (x : Int) w1 HI1.out (by omega) ho).mono ?_
  rintro e w5 ⟨g5, rfl, hi5, hb5, hfr⟩
  have hk5 := (hb5.block w.heap.size (iter_lt HK1.out)).trans HK1.out
  have c0 := one_cell hk5
  have f0 := one_free hk5 0
  have HK5 := Lib.hid hk5
  have HI5 := Lib.hid hi5
  have HB5 := Lib.hid hb5
  clear hk5 hi5 hb5
  go_wp2_with fail
  have k0 := one_set (u := .pointer (some ⟨g5, 0, none⟩)) HK5.out
  have d0 := one_cell k0
  exact bodyPost_ret (v := .agg #[.pointer (some ⟨g5, 0, none⟩)]) (by simp [results, Tryz.results47, go_sem, d0]) rfl
    ⟨g5, rfl, HI5.out.store HK5.out (by decide) (by decide) _, (bt HB1.out HB5.out).setCell (p := ⟨w.heap.size, 0, none⟩) (Nat.le_refl _) _, Nat.le_trans HB1.out.size hfr⟩

set_option maxRecDepth 100000 in
set_option maxHeartbeats 1000000 in
theorem uintMade_walk (x : Nat) (w : World) (hx : x < 18446744073709551616) (hleaf : LeafIs w) :
    Calls Tryz.prog 18 #[.int .u64 x] w fun e w' => e = .returned (.string (S (zText (x : Int)))) ∧ Below w.heap.size w w' := by
  obtain ⟨ho, hl, hl1⟩ := over_u64 hx
  go_enter Tryz.func18, Tryz.ntmps18
  go_wp2_with fail
  refine (newUintU_walk x w hx).mono ?_
  rintro e w1 ⟨g, rfl, hi1, hb1, _⟩
  have HI1 := Lib.hid hi1
  have HB1 := Lib.hid hb1
  clear hi1 hb1
  go_wp2_with fail
  refine (uintString_walk g (x : Int) w1 HI1.out hl (hleaf.below HB1.out)).mono ?_
  rintro e w2 ⟨rfl, hb2⟩
  have HB2 := Lib.hid hb2
  clear hb2
  go_wp2_with fail
  go_ret
  exact ⟨rfl, bt HB1.out HB2.out⟩
end Go.Proofs.YthipbglnaalhmaaGreatDoor
