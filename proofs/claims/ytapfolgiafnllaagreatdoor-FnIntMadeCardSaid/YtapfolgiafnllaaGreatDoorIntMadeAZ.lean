/-
  NewIntFromUint64; impl.IntMade, impl.IntMadeUint.
-/
import Derived.Test.YtapfolgiafnllaaGreatDoorNewIntAllZ
import Derived.Test.YtapfolgiafnllaaGreatDoorBn08Z
namespace Go.Proofs.YtapfolgiafnllaaGreatDoor
open Go.RowKit

set_option maxRecDepth 100000 in
set_option maxHeartbeats 1000000 in
theorem newIntZ_walk (w : World) : Calls Tryz.prog 81 #[.int .i64 0] w fun e w' => e = .returned (.pointer (some ⟨w.heap.size, 0, none⟩)) ∧ w' = w.alloc (.cells #[.bool false, .slice none 0 0] 80) := by
  go_enter Tryz.func81, Tryz.ntmps81
  go_wp2_with fail
  go_ret
  exact ⟨rfl, rfl⟩

set_option maxRecDepth 100000 in
set_option maxHeartbeats 2000000 in
theorem newIntU_walk (u : Nat) (w : World) (hu : u < 18446744073709551616) : Calls Tryz.prog 38 #[.int .u64 (u : Int)] w (MadePost w (u : Int)) := by
  have hk := heap_here w (.cells #[.pointer none] 55)
  have hb0 := below_a1 w (.cells #[.pointer none] 55)
  have hs0 := heap_size_alloc w (.cells #[.pointer none] 55)
  obtain ⟨wa, hwa⟩ : ∃ wa, w.alloc (.cells #[.pointer none] 55) = wa := ⟨_, rfl⟩
  rw [hwa] at hk hb0 hs0
  have HK := Lib.hid hk
  have HB0 := Lib.hid hb0
  have HS0 := Lib.hid hs0
  have HS := Lib.hid (intSetUint64_walk wa.heap.size u (wa.alloc (.cells #[.bool false, .slice none 0 0] 80)) (heap_here _ _) hu)
  have HWA := Lib.hid hwa
  clear hk hb0 hs0 hwa
  go_enter Tryz.func38, Tryz.ntmps38
  go_upto_region 1 with fail
  rw [HWA.out]
  go_wp2_with fail
  refine (newIntZ_walk wa).mono ?_
  rintro e w1 ⟨rfl, h1⟩
  subst h1
  go_wp2_with fail
  refine HS.out.mono ?_
  rintro e w2 ⟨rfl, hi, hx⟩
  have hk2 := (hx.block w.heap.size (by rw [heap_size_alloc]; have := HS0.out; omega) (by have := HS0.out; omega)).trans (heap_old (o := .cells #[.bool false, .slice none 0 0] 80) HK.out)
  have c0 := one_cell hk2
  have f0 := one_free hk2 0
  have HK2 := Lib.hid hk2
  have HI := Lib.hid hi
  have HB := Lib.hid ((HB0.out.alloc HB0.out.size _).trans (hx.below (by rw [heap_size_alloc]; have := HB0.out.size; omega) (fun k hk => by have := HB0.out.size; omega)))
  clear hk2 hi hx
  go_wp2_with fail
  have k0 := one_set (u := .pointer (some ⟨wa.heap.size, 0, none⟩)) HK2.out
  have d0 := one_cell k0
  exact bodyPost_ret (v := .agg #[.pointer (some ⟨wa.heap.size, 0, none⟩)]) (by simp [results, Tryz.results38, go_sem, d0]) rfl
    ⟨wa.heap.size, rfl, HI.out.store HK2.out (by decide) (by decide) _, HB.out.setCell (p := ⟨w.heap.size, 0, none⟩) (Nat.le_refl _) _, HB0.out.size⟩

set_option maxRecDepth 100000 in
set_option maxHeartbeats 1000000 in
theorem intMade_walk (z : Int) (w : World) (hz : -9223372036854775808 ≤ z ∧ z < 9223372036854775808) (hleaf : LeafIs w) : Calls Tryz.prog 14 #[.int .i64 z] w fun e w' => e = .returned (.string (S (zText z))) ∧ Below w.heap.size w w' := by
  have HN := Lib.hid (cnewInt_walk z w hz)
  have HL := Lib.hid hleaf
  have HO := Lib.hid (overI_len (overI_i64 hz))
  clear hz hleaf
  go_enter Tryz.func14, Tryz.ntmps14
  go_wp2_with fail
  refine HN.out.mono ?_
  rintro e w1 ⟨g, rfl, hi, hb, _⟩
  have HI := Lib.hid hi
  have HB := Lib.hid hb
  clear hi hb
  go_wp2_with fail
  refine (intStringI_walk g z w1 HI.out HO.out (HL.out.below HB.out)).mono ?_
  rintro e w2 ⟨rfl, hb2⟩
  go_wp2_with fail
  go_ret
  exact ⟨rfl, bt HB.out hb2⟩

set_option maxRecDepth 100000 in
set_option maxHeartbeats 1000000 in
theorem intMadeU_walk (u : Nat) (w : World) (hu : u < 18446744073709551616) (hleaf : LeafIs w) : Calls Tryz.prog 16 #[.int .u64 (u : Int)] w fun e w' => e = .returned (.string (S (zText (u : Int)))) ∧ Below w.heap.size w w' := by
  have HN := Lib.hid (newIntU_walk u w hu)
  have HL := Lib.hid hleaf
  have HO := Lib.hid (over_u64 hu).2.1
  clear hu hleaf
  go_enter Tryz.func16, Tryz.ntmps16
  go_wp2_with fail
  refine HN.out.mono ?_
  rintro e w1 ⟨g, rfl, hi, hb, _⟩
  have HI := Lib.hid hi
  have HB := Lib.hid hb
  clear hi hb
  go_wp2_with fail
  refine (intStringI_walk g _ w1 HI.out HO.out (HL.out.below HB.out)).mono ?_
  rintro e w2 ⟨rfl, hb2⟩
  go_wp2_with fail
  go_ret
  exact ⟨rfl, bt HB.out hb2⟩
end Go.Proofs.YtapfolgiafnllaaGreatDoor
