/-
  NewIntWithDecimal of cosmosmath: returned, out of range, a negative decimal.
-/
import Derived.Test.YtapfolgiafnllaaGreatDoorExpDZ
import Derived.Test.YtapfolgiafnllaaGreatDoorBn14Z
import Derived.Test.YtapfolgiafnllaaGreatDoorNewIntAllZ
namespace Go.Proofs.YtapfolgiafnllaaGreatDoor
open Go.RowKit

/-- A number or a panic. -/
def DecPost (w : World) (r : Option Int) (e : Ending) (w' : World) : Prop :=
  match r with
  | some z => MadePost w z e w'
  | none => PanicPost w e w'
def decRef (n d : Int) : Option Int := if d < 0 then none else if overI (n * ((10 ^ d.toNat : Nat) : Int)) = true then none else some (n * ((10 ^ d.toNat : Nat) : Int))

set_option maxRecDepth 100000 in
set_option maxHeartbeats 4000000 in
theorem withDec_neg (n d : Int) (w : World) (hd : d < 0) :
    Calls Tryz.prog 35 #[.int .i64 n, .int .i64 d] w (PanicPost w) := by
  have HB := Lib.hid (below_a1 w (.cells #[.pointer none] 55))
  go_enter Tryz.func35, Tryz.ntmps35
  go_wp2_with fail
  have hp : ∀ t v, PanicPost w (.panicked [{ v := .iface t v, recovered := false }]) (w.alloc (.cells #[.pointer none] 55)) := fun t v => ⟨_, _, rfl, HB.out⟩
  exact ⟨rfl, hp _ _⟩

set_option maxRecDepth 100000 in
set_option maxHeartbeats 4000000 in
theorem withDec_walk (n : Int) (d : Nat) (w : World) (hn : -9223372036854775808 ≤ n ∧ n < 9223372036854775808) (hd : d ≤ 200) (hk : KaraIs w) (hs : SqrIs w) :
    Calls Tryz.prog 35 #[.int .i64 n, .int .i64 (d : Int)] w (DecPost w (decRef n (d : Int))) := by
  have hd0 : ¬ (d : Int) < 0 := by omega
  have hdz : -9223372036854775808 ≤ (d : Int) ∧ (d : Int) < 9223372036854775808 := by omega
  have hr : decRef n (d : Int) = if overI (n * ((10 ^ d : Nat) : Int)) = true then none else some (n * ((10 ^ d : Nat) : Int)) := by unfold decRef; rw [if_neg hd0, Int.toNat_natCast]
  rw [hr]
  have hwl : (wds (n * ((10 ^ d : Nat) : Int)).natAbs).length ≤ 80000 := by
    rw [Int.natAbs_mul, Int.natAbs_natCast]
    have h1 : n.natAbs * 10 ^ d < 10 ^ 20 * 10 ^ 200 := Nat.lt_of_lt_of_le (Nat.mul_lt_mul_of_pos_right (show n.natAbs < 10 ^ 20 by omega) (Nat.pow_pos (by decide))) (Nat.mul_le_mul_left _ (Nat.pow_le_pow_right (by decide) hd))
    have h2 := toD_length_le (b := 18446744073709551616) (by decide) 100 _ (Nat.lt_trans h1 (by decide +kernel))
    exact Nat.le_trans h2 (by decide)
  have hwn : (wds n.natAbs).length < 40 := Nat.lt_of_le_of_lt (toD_length_le (b := 18446744073709551616) (by decide) 1 _ (by omega)) (by decide)
  have hwt : (wds (((10 ^ d : Nat) : Int)).natAbs).length < 40 := by
    rw [Int.natAbs_natCast]
    have h1 : 10 ^ d < 18446744073709551616 ^ 39 := Nat.lt_of_le_of_lt (Nat.pow_le_pow_right (by decide) hd) (by decide +kernel)
    exact Nat.lt_of_le_of_lt (toD_length_le (b := 18446744073709551616) (by decide) 39 _ h1) (by decide)
  have HEX := Lib.hid (fun (gz gx gy : Nat) (w' : World) (h1 : IntNew w' gz) (h2 : IntAt w' gx 10) (h3 : IntAt w' gy (d : Int)) (h4 : gx ≠ gz) (h5 : SqrIs w') => intExp_walk gz gx gy d w' h1 h2 h3 h4 hd h5)
  obtain ⟨T, hT⟩ : ∃ T : Int, ((10 ^ d : Nat) : Int) = T := ⟨_, rfl⟩
  rw [hT] at HEX hwl hwt ⊢
  obtain ⟨R, hR⟩ : ∃ R, (if overI (n * T) = true then none else some (n * T)) = R := ⟨_, rfl⟩
  rw [hR]
  have HR := Lib.hid hR
  clear hR
  have HN10 := Lib.hid (fun (w' : World) => newIntAll_walk 10 w' (by decide))
  have HND := Lib.hid (fun (w' : World) => newIntAll_walk (d : Int) w' hdz)
  have HNN := Lib.hid (fun (w' : World) => newIntAll_walk n w' hn)
  have HMU := Lib.hid (fun (gz gx gy : Nat) (w' : World) (h1 : IntNew w' gz) (h2 : IntAt w' gx n) (h3 : IntAt w' gy T) (h4 : gy ≠ gx) (h5 : gx ≠ gz) (h6 : gy ≠ gz) (h7 : KaraIs w') => intMul_walk gz gx gy n T w' h1 h2 h3 h4 h5 h6 h7 hwn hwt)
  have HOV := Lib.hid (fun (g : Nat) (w' : World) (h1 : IntAt w' g (n * T)) => bigOver_walk g (n * T) w' h1 (Nat.le_trans hwl (by decide)))
  have hb0 := below_a2 w (.cells #[.pointer none] 55) (.cells #[.bool false, .slice none 0 0] 80)
  have hk0 : ((w.alloc (.cells #[.pointer none] 55)).alloc (.cells #[.bool false, .slice none 0 0] 80)).heap[w.heap.size]? = some (.cells #[.pointer none] 55 (0, 0)) := heap_old (heap_here _ _)
  have hz0 : IntNew ((w.alloc (.cells #[.pointer none] 55)).alloc (.cells #[.bool false, .slice none 0 0] 80)) (w.heap.size + 1) := heap_at _ _ (heap_size_alloc _ _)
  obtain ⟨wa, hwa⟩ : ∃ wa, (w.alloc (.cells #[.pointer none] 55)).alloc (.cells #[.bool false, .slice none 0 0] 80) = wa := ⟨_, rfl⟩
  rw [hwa] at hb0 hk0 hz0
  have HB0 := Lib.hid hb0
  have HK0 := Lib.hid hk0
  have HZ0 := Lib.hid hz0
  have HWA := Lib.hid hwa
  have HKA := Lib.hid hk
  have HSQ := Lib.hid hs
  clear hn hdz hr hwl hwn hwt hT hb0 hk0 hz0 hwa hk hs hd
  go_enter Tryz.func35, Tryz.ntmps35
  go_upto_region 3 with fail
  go_wp2_with fail
  rw [HWA.out]
  refine (HN10.out _).mono ?_
  rintro e w1 ⟨g1, rfl, hi1, hb1, hf1⟩
  have HI1 := Lib.hid hi1
  have HB1 := Lib.hid hb1
  have HF1 := Lib.hid hf1
  clear hi1 hb1 hf1
  go_wp2_with fail
  refine (HND.out _).mono ?_
  rintro e w2 ⟨g2, rfl, hi2, hb2, hf2⟩
  have HI2 := Lib.hid hi2
  have HB2 := Lib.hid (bt HB1.out hb2)
  have HI1' := Lib.hid (HI1.out.below hb2)
  have hne1 : g1 ≠ w.heap.size + 1 := by have := HF1.out; have := iter_lt HZ0.out; omega
  have HNE1 := Lib.hid hne1
  clear hi2 hb2 hf2 hne1
  go_wp2_with fail
  refine (HEX.out (w.heap.size + 1) g1 g2 _ ((HB2.out.block _ (iter_lt HZ0.out)).trans HZ0.out) HI1'.out HI2.out HNE1.out ((HSQ.out.below HB0.out).below HB2.out)).mono ?_
  rintro e w3 ⟨rfl, hi3, hx3⟩
  have HB3 : Hid (Below w.heap.size w w3) := Lib.hid ((bt HB0.out HB2.out).trans (hx3.below (by have := HB0.out.size; have := HB2.out.size; omega) (fun k hk => by omega)))
  have HK3 := Lib.hid ((hx3.block w.heap.size (by have := HB2.out.size; have := iter_lt HK0.out; omega) (by omega)).trans ((HB2.out.block _ (iter_lt HK0.out)).trans HK0.out))
  have HI3 := Lib.hid hi3
  clear hi3 hx3
  go_wp2_with fail
  have hzz := heap_here w3 (.cells #[.bool false, .slice none 0 0] 80)
  have hbz := below_a1 w3 (.cells #[.bool false, .slice none 0 0] 80)
  obtain ⟨wz, hwz⟩ : ∃ wz, w3.alloc (.cells #[.bool false, .slice none 0 0] 80) = wz := ⟨_, rfl⟩
  obtain ⟨gi, hgi⟩ : ∃ gi, w3.heap.size = gi := ⟨_, rfl⟩
  have hg3 : w.heap.size + 1 < gi := by rw [← hgi]; exact HI3.out.lt
  rw [hwz] at hzz hbz ⊢
  rw [hgi] at hzz hbz ⊢
  have hbz' : Below w3.heap.size w3 wz := by rw [hgi]; exact hbz
  have HZZ : Hid (IntNew wz gi) := Lib.hid hzz
  have HBZ := Lib.hid hbz'
  clear hzz hbz hbz' hwz hgi
  refine (HNN.out _).mono ?_
  rintro e w4 ⟨g4, rfl, hi4, hb4, hf4⟩
  have HI4 := Lib.hid hi4
  have HB4 := Lib.hid (bt HBZ.out hb4)
  have HZ4 : Hid (IntNew w4 gi) := Lib.hid ((hb4.block _ (iter_lt HZZ.out)).trans HZZ.out)
  have HN4 : Hid (gi < g4) := Lib.hid (Nat.lt_of_lt_of_le (iter_lt HZZ.out) hf4)
  clear hi4 hb4 hf4
  go_wp2_with fail
  refine (HMU.out gi g4 (w.heap.size + 1) _ HZ4.out HI4.out (HI3.out.below HB4.out) (by have := HN4.out; omega) (by have := HN4.out; omega) (by omega) ((HKA.out.below HB3.out).below HB4.out)).mono ?_
  rintro e w5 ⟨rfl, hi5, hx5⟩
  have HB5 : Hid (Below w.heap.size w w5) := Lib.hid ((bt HB3.out HB4.out).trans (hx5.below (by have := HB3.out.size; have := HB4.out.size; omega) (fun k hk => by omega)))
  have hk5 := (hx5.block w.heap.size (by have := HB4.out.size; have := iter_lt HK3.out; omega) (by omega)).trans ((HB4.out.block _ (iter_lt HK3.out)).trans HK3.out)
  have HI5 := Lib.hid hi5
  have HK5 := Lib.hid hk5
  clear hi5 hx5
  go_wp2_with fail
  cases ho : overI (n * T) with
  | true =>
    have HO := Lib.hid ho
    clear ho hk5
    refine (HOV.out gi w5 HI5.out).mono ?_
    rw [HO.out]
    rintro e w6 ⟨rfl, h6⟩
    subst h6
    go_wp2_with fail
    have hp : ∀ t v, DecPost w R (.panicked [{ v := .iface t v, recovered := false }]) w6 := fun t v => by rw [← HR.out, if_pos HO.out]; exact ⟨_, _, rfl, HB5.out⟩
    exact ⟨rfl, hp _ _⟩
  | false =>
    have HO := Lib.hid ho
    have c5 := one_cell hk5
    have f5 := one_free hk5 0
    clear ho hk5
    refine (HOV.out gi w5 HI5.out).mono ?_
    rw [HO.out]
    rintro e w6 ⟨rfl, h6⟩
    subst h6
    go_wp2_with fail
    have k0 := one_set (u := .pointer (some ⟨gi, 0, none⟩)) HK5.out
    have d0 := one_cell k0
    exact bodyPost_ret (v := .agg #[.pointer (some ⟨gi, 0, none⟩)]) (by simp [results, Tryz.results35, go_sem, d0]) rfl
      (by rw [← HR.out, if_neg (by rw [HO.out]; decide)]; exact ⟨gi, rfl, HI5.out.store HK5.out (by decide) (by decide) _, HB5.out.setCell (p := ⟨w.heap.size, 0, none⟩) (Nat.le_refl _) _, by omega⟩)
end Go.Proofs.YtapfolgiafnllaaGreatDoor
