/-
  The walk of laws.FnIntMade.
-/
import Derived.Test.YtapfolgiafnllaaGreatDoorMadeDecZ
import Derived.Test.YtapfolgiafnllaaGreatDoorIntMadeAZ
import Derived.Test.YtapfolgiafnllaaGreatDoorSpecTenZ
import Derived.Test.YtapfolgiafnllaaGreatDoorBn22Z
import Derived.Test.YtapfolgiafnllaaGreatDoorBn05Z
namespace Go.Proofs.YtapfolgiafnllaaGreatDoor
open Go.RowKit

theorem ofUintM_walk (n : Nat) (w : World) (hn : n < 18446744073709551616) : Calls Tryz.prog 7 #[.int .u64 (n : Int)] w (IsPost w (n : Int)) := by
  refine (ofUint_walk n w hn).mono ?_
  rintro e w' ⟨v, rfl, hv, hb⟩
  refine ⟨v, rfl, ?_, hb⟩
  unfold IsNum
  rw [decide_eq_false (by omega), Int.natAbs_natCast, ← dec10_eq]
  exact hv
theorem numTextM_walk (v : Value) (z : Int) (w : World) (hv : IsNum w v z) (hl : (toD 10 z.natAbs).length ≤ 1000000) : Calls Tryz.prog 10 #[v] w fun e w' => e = .returned (.string (S (zText z))) ∧ Below w.heap.size w w' :=
  text_walk v _ _ w hv (toD_lt (by decide) _) hl
theorem small_digits {z : Int} (h : z.natAbs < 10 ^ 20) : (toD 10 z.natAbs).length ≤ 20 := toD_length_le (by decide) 20 _ h

set_option maxRecDepth 100000 in
set_option maxHeartbeats 4000000 in
theorem fnIntMade_walk (n : Int) (u : Nat) (d : Int) (p : Addr) (w : World) (hn : -9223372036854775808 ≤ n ∧ n < 9223372036854775808) (hu : u < 18446744073709551616) (hd : -32768 ≤ d ∧ d < 32768) (hp : EofIs w p) (hleaf : LeafIs w) (hkara : KaraIs w) (hsqr : SqrIs w) :
    Calls Tryz.prog 4 #[.int .i64 n, .int .u64 (u : Int), .int .i16 d] w fun e w' => e = .returned (.bool true) ∧ Below w.heap.size w w' := by
  have HAW : Hid (∀ w', Below w.heap.size w w' → Calls Tryz.prog 12 #[] w' fun e w2 => e = .returned (.bool true) ∧ Below w.heap.size w w2) := Lib.hid fun w' hb => (intAwake_walk p w' (hp.below hb) (hleaf.below hb)).mono (by rintro e w2 ⟨rfl, h⟩; exact ⟨rfl, bt hb h⟩)
  have hd1 := hd.1
  have hd2 := hd.2
  have HB0 := Lib.hid (Below.refl w.heap.size w)
  by_cases hlo : d < -100
  · have q1 : decide (d < -100) = true := decide_eq_true hlo
    clear hn hu hd hp hleaf hkara hsqr hlo hd1 hd2
    go_enter Tryz.func4, Tryz.ntmps4
    go_wp2_with fail
    refine (HAW.out _ HB0.out).mono ?_
    rintro e w1 ⟨rfl, hb1⟩
    go_wp2_with fail
    go_ret
    exact ⟨rfl, hb1⟩
  · have q1 : decide (d < -100) = false := decide_eq_false hlo
    by_cases hhi : 200 < d
    · have q2 : decide (200 < d) = true := decide_eq_true hhi
      clear hn hu hd hp hleaf hkara hsqr hlo hhi hd1 hd2
      go_enter Tryz.func4, Tryz.ntmps4
      go_wp2_with fail
      refine (HAW.out _ HB0.out).mono ?_
      rintro e w1 ⟨rfl, hb1⟩
      go_wp2_with fail
      go_ret
      exact ⟨rfl, hb1⟩
    · have q2 : decide (200 < d) = false := decide_eq_false hhi
      have HDE := Lib.hid (intDecimal_walk n d w hn (by omega) hleaf hkara hsqr)
      by_cases h0 : d < 0
      · have hr : decRef n d = none := by unfold decRef; rw [if_pos h0]
        have q3 : decide (d < 0) = true := decide_eq_true h0
        rw [hr] at HDE
        have e1 : outD none = [] := rfl
        have e2 : (none : Option Int).isSome = false := rfl
        rw [e1, e2] at HDE
        clear hn hu hd hp hleaf hkara hsqr hr e1 e2 hlo hhi
        go_enter Tryz.func4, Tryz.ntmps4
        go_wp2_with fail
        refine HDE.out.mono ?_
        rintro e w1 ⟨rfl, hb1⟩
        go_wp2_with fail
        refine (HAW.out _ hb1).mono ?_
        rintro e w2 ⟨rfl, hb2⟩
        go_wp2_with fail
        go_ret
        exact ⟨rfl, hb2⟩
      · have q3 : decide (d < 0) = false := decide_eq_false h0
        obtain ⟨m, rfl⟩ := Int.eq_ofNat_of_zero_le (show 0 ≤ d by omega)
        have hm : m ≤ 200 := by omega
        have hr : decRef n (m : Int) = if overI (n * ((10 ^ m : Nat) : Int)) = true then none else some (n * ((10 ^ m : Nat) : Int)) := by unfold decRef; rw [if_neg h0, Int.toNat_natCast]
        have hn20 : n.natAbs < 10 ^ 20 := by omega
        have hlm : (toD 10 (((10 ^ m : Nat) : Int)).natAbs).length ≤ 1000 := by rw [Int.natAbs_natCast, ten_digits]; simp; omega
        have hlx : (toD 10 (n * ((10 ^ m : Nat) : Int)).natAbs).length ≤ 1000000 := by
          rw [Int.natAbs_mul, Int.natAbs_natCast]
          have h1 : n.natAbs * 10 ^ m < 10 ^ 20 * 10 ^ 200 := Nat.lt_of_lt_of_le (Nat.mul_lt_mul_of_pos_right hn20 (Nat.pow_pos (by decide))) (Nat.mul_le_mul_left _ (Nat.pow_le_pow_right (by decide) hm))
          rw [← Nat.pow_add] at h1
          exact Nat.le_trans (toD_length_le (by decide) 220 _ h1) (by decide)
        have HTEN := Lib.hid (fun (w' : World) => ten_walk m w' (by omega))
        have HMA := Lib.hid (fun (w' : World) (hb : Below w.heap.size w w') => intMade_walk n w' hn (hleaf.below hb))
        have HMU := Lib.hid (fun (w' : World) (hb : Below w.heap.size w w') => intMadeU_walk u w' hu (hleaf.below hb))
        have HOF := Lib.hid (fun (w' : World) => of_walk n w' (by omega))
        have HOU := Lib.hid (fun (w' : World) => ofUintM_walk u w' hu)
        have HTN := Lib.hid (fun (w' : World) (v : Value) (h : IsNum w' v n) => numTextM_walk v n w' h (Nat.le_trans (small_digits hn20) (by decide)))
        have HTU := Lib.hid (fun (w' : World) (v : Value) (h : IsNum w' v (u : Int)) => numTextM_walk v (u : Int) w' h (Nat.le_trans (small_digits (z := (u : Int)) (by rw [Int.natAbs_natCast]; omega)) (by decide)))
        obtain ⟨T, hT⟩ : ∃ T : Int, ((10 ^ m : Nat) : Int) = T := ⟨_, rfl⟩
        rw [hT] at hr hlm hlx HTEN
        have HMUL := Lib.hid (fun (w' : World) (v t : Value) (h1 : IsNum w' v n) (h2 : IsNum w' t T) => mul_walk v t n T w' h1 h2 (Nat.le_trans (small_digits hn20) (by decide)) hlm)
        obtain ⟨R, hR⟩ : ∃ R, decRef n (m : Int) = R := ⟨_, rfl⟩
        rw [hR] at HDE hr
        have HTO : Hid (∀ (w' : World) (v : Value), IsNum w' v (n * T) → Calls Tryz.prog 17 #[.string (S (outD R)), .bool R.isSome, v, .bool true] w' fun e w2 => e = .returned (.bool true) ∧ Below w'.heap.size w' w2) := Lib.hid fun w' v h => by
          rw [hr]
          have hf := overI_fits (n * T)
          cases ho : overI (n * T) with
          | true =>
            rw [ho] at hf
            rw [if_pos rfl]
            exact told_walk _ false (n * T) v true w' h hlx (by cases h2 : decide ((n * T).natAbs < 2 ^ 256) <;> rw [h2] at hf <;> first | rfl | cases hf) (fun h => by cases h)
          | false =>
            rw [ho] at hf
            rw [if_neg (by decide)]
            exact told_walk _ true (n * T) v true w' h hlx (by cases h2 : decide ((n * T).natAbs < 2 ^ 256) <;> rw [h2] at hf <;> first | rfl | cases hf) (fun _ => rfl)
        obtain ⟨s, hs⟩ : ∃ s, outD R = s := ⟨_, rfl⟩
        obtain ⟨rb, hrb⟩ : ∃ rb, R.isSome = rb := ⟨_, rfl⟩
        obtain ⟨tn, htn⟩ : ∃ tn, zText n = tn := ⟨_, rfl⟩
        obtain ⟨tu, htu⟩ : ∃ tu, zText (u : Int) = tu := ⟨_, rfl⟩
        rw [hs, hrb] at HDE HTO
        rw [htn] at HMA HTN
        rw [htu] at HMU HTU
        clear hn hu hd hp hleaf hkara hsqr hr hlo hhi hn20 hlm hlx hT hR hs hrb htn htu
        go_enter Tryz.func4, Tryz.ntmps4
        go_wp2_with fail
        refine HDE.out.mono ?_
        rintro e w1 ⟨rfl, hb1⟩
        have HB1 := Lib.hid hb1
        clear hb1
        go_wp2_with fail
        refine (HAW.out _ HB1.out).mono ?_
        rintro e w2 ⟨rfl, hb2⟩
        have HB2 := Lib.hid hb2
        clear hb2
        go_wp2_with fail
        refine (HMA.out _ HB2.out).mono ?_
        rintro e w3 ⟨rfl, hb3⟩
        have HB3 := Lib.hid (bt HB2.out hb3)
        clear hb3
        go_wp2_with fail
        refine (HOF.out _).mono ?_
        rintro e w4 ⟨v4, rfl, hv4, hb4⟩
        have HV4 := Lib.hid hv4
        have HB4 := Lib.hid (bt HB3.out hb4)
        clear hv4 hb4
        go_wp2_with fail
        refine (HTN.out _ _ HV4.out).mono ?_
        rintro e w5 ⟨rfl, hb5⟩
        have HB5 := Lib.hid (bt HB4.out hb5)
        clear hb5
        go_wp2_with fail
        refine (HMU.out _ HB5.out).mono ?_
        rintro e w6 ⟨rfl, hb6⟩
        have HB6 := Lib.hid (bt HB5.out hb6)
        clear hb6
        go_wp2_with fail
        refine (HOU.out _).mono ?_
        rintro e w7 ⟨v7, rfl, hv7, hb7⟩
        have HV7 := Lib.hid hv7
        have HB7 := Lib.hid (bt HB6.out hb7)
        clear hv7 hb7
        go_wp2_with fail
        refine (HTU.out _ _ HV7.out).mono ?_
        rintro e w8 ⟨rfl, hb8⟩
        have HB8 := Lib.hid (bt HB7.out hb8)
        clear hb8
        go_wp2_with fail
        refine (HOF.out _).mono ?_
        rintro e w9 ⟨v9, rfl, hv9, hb9⟩
        have HV9 := Lib.hid hv9
        have HB9 := Lib.hid (bt HB8.out hb9)
        clear hv9 hb9
        go_wp2_with fail
        refine (HTEN.out _).mono ?_
        rintro e w10 ⟨v10, rfl, hv10, hb10⟩
        have HV10 := Lib.hid hv10
        have HV9' := Lib.hid (HV9.out.below hb10)
        have HB10 := Lib.hid (bt HB9.out hb10)
        clear hv10 hb10
        go_wp2_with fail
        refine (HMUL.out _ _ _ HV9'.out HV10.out).mono ?_
        rintro e w11 ⟨v11, rfl, hv11, hb11⟩
        have HV11 := Lib.hid hv11
        have HB11 := Lib.hid (bt HB10.out hb11)
        clear hv11 hb11
        go_wp2_with fail
        refine (HTO.out _ _ HV11.out).mono ?_
        rintro e w12 ⟨rfl, hb12⟩
        have HB12 := Lib.hid (bt HB11.out hb12)
        clear hb12
        go_wp2_with fail
        go_ret
        exact ⟨rfl, HB12.out⟩
end Go.Proofs.YtapfolgiafnllaaGreatDoor
