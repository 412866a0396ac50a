/-
  The walk of laws.FnUintPow.
-/
import Derived.Test.YtapfolgiafnllaaGreatDoorPowCZ
import Derived.Test.YtapfolgiafnllaaGreatDoorSpecPowZ
import Derived.Test.YtapfolgiafnllaaGreatDoorBn21Z
import Derived.Test.YtapfolgiafnllaaGreatDoorBn10Z
import Derived.Test.YtapfolgiafnllaaGreatDoorBn05Z
namespace Go.Proofs.YtapfolgiafnllaaGreatDoor
open Go.RowKit

/-- What a text that spec.Uint takes is. -/
theorem uintOk_isP {l : List UInt8} (h : uintOk l = true) : readOk l = true ∧ l.length ≤ 1000 ∧ overU (readZ l) = false := by
  unfold uintOk intOk at h
  simp only [Bool.and_eq_true, decide_eq_true_eq] at h
  obtain ⟨⟨h1, h2, h3⟩, h4⟩ := h
  refine ⟨h2, by omega, ?_⟩
  rw [overU_fits, decide_eq_true h3]
  simpa using h4
theorem ofUintP_walk (n : Nat) (w : World) (hn : n < 18446744073709551616) : Calls Tryz.prog 7 #[.int .u64 (n : Int)] w (IsPost w (n : Int)) := by
  refine (ofUint_walk n w hn).mono ?_
  rintro e w' ⟨v, rfl, hv, hb⟩
  refine ⟨v, rfl, ?_, hb⟩
  unfold IsNum
  rw [decide_eq_false (by omega), Int.natAbs_natCast, ← dec10_eq]
  exact hv
theorem text_smallP {z : Int} (h : overU z = false) : (zText z).length ≤ 1000 := by
  have h1 := h
  rw [overU_fits] at h1
  rw [Bool.or_eq_false_iff] at h1
  have h2 : z.natAbs < 2 ^ 256 := by simpa using h1.2
  have := text_len (k := 100) (Nat.lt_of_lt_of_le h2 (by decide))
  omega
theorem numTextP_walk (v : Value) (z : Int) (w : World) (hv : IsNum w v z) (hl : (toD 10 z.natAbs).length ≤ 1000000) : Calls Tryz.prog 10 #[v] w fun e w' => e = .returned (.string (S (zText z))) ∧ Below w.heap.size w w' :=
  text_walk v _ _ w hv (toD_lt (by decide) _) hl
theorem askPow_walk (R : Option Int) (v : Value) (w : World) (hf : ∀ z, R = some z → overU z = false) (hv : IsNum w v (R.getD 0)) :
    Calls Tryz.prog 11 #[.string (S (outT R)), .bool R.isSome, v, .bool R.isSome] w fun e w' => e = .returned (.bool true) ∧ Below w.heap.size w w' := by
  cases R with
  | none => exact asked0_walk _ 0 v w hv (by rw [Int.natAbs_zero, toD_zero]; decide)
  | some z =>
    have h1 := hf z rfl
    have h2 := h1
    rw [overU_fits, Bool.or_eq_false_iff] at h2
    have h3 := of_decide_eq_false h2.1
    have h4 : z.natAbs < 2 ^ 256 := by simpa using h2.2
    exact asked_walk _ true z v w hv (Nat.le_trans (len_fit h1) (by decide)) (by rw [decide_eq_false h3, decide_eq_true h4]; rfl) (fun _ => rfl)

set_option maxRecDepth 100000 in
set_option maxHeartbeats 4000000 in
theorem fnUintPow_walk (l1 : List UInt8) (n : Nat) (l3 : List UInt8) (p : Addr) (w : World) (hl1 : l1.length ≤ 140737488355328) (hn : n < 18446744073709551616) (hl3 : l3.length ≤ 140737488355328) (hp : EofIs w p) (hleaf : LeafIs w) (hkara : KaraIs w) (hdiv : DivIs w) (hsqr : SqrIs w) :
    Calls Tryz.prog 3 #[.string (S l1), .int .u64 (n : Int), .string (S l3)] w fun e w' => e = .returned (.bool true) ∧ Below w.heap.size w w' := by
  have HAW := Lib.hid (fun (w' : World) (h1 : EofIs w' p) (h2 : LeafIs w') => uintAwake_walk p w' h1 h2)
  have HP := Lib.hid hp
  have HLF := Lib.hid hleaf
  have HKA := Lib.hid hkara
  have HDI := Lib.hid hdiv
  have HSQ := Lib.hid hsqr
  by_cases h1 : l1.length ≤ 2147483647
  · by_cases h2 : l3.length ≤ 2147483647
    · have h1' : decide ((2147483647 : Int) < l1.length) = false := decide_eq_false (by omega)
      have h2' : decide ((2147483647 : Int) < l3.length) = false := decide_eq_false (by omega)
      have HS1 := Lib.hid (fun w => specUint_walk l1 w hl1)
      have HS2 := Lib.hid (fun w => specUint_walk l3 w hl3)
      by_cases ho : uintOk l1 = true ∧ uintOk l3 = true
      · obtain ⟨o1, o2⟩ := ho
        by_cases h40 : n ≤ 1099511627776
        · obtain ⟨r1, q1, v1⟩ := uintOk_isP o1
          obtain ⟨r2, q2, v2⟩ := uintOk_isP o2
          have h40' : decide ((1099511627776 : Int) < (n : Int)) = false := decide_eq_false (by omega)
          have on : overU (n : Int) = false := fitsN (Nat.lt_of_le_of_lt h40 (by decide))
          obtain ⟨tok, tz⟩ := read_text (n : Int)
          have HPW := Lib.hid (fun (w' : World) (hp : EofIs w' p) (hleaf : LeafIs w') (hk : KaraIs w') (hs : SqrIs w') (hd : DivIs w') => uintPow_walk l1 (zText (n : Int)) l3 n p w' r1 tok r2 q1 (text_smallP on) q2 hp hleaf hk hs hd v1 tz on v2)
          rw [o1] at HS1
          rw [o2] at HS2
          obtain ⟨z1, hz1⟩ : ∃ z1, readZ l1 = z1 := ⟨_, rfl⟩
          obtain ⟨z2, hz2⟩ : ∃ z2, readZ l3 = z2 := ⟨_, rfl⟩
          rw [hz1] at HS1 HPW v1
          rw [hz2] at HS2 HPW v2
          have HSP := Lib.hid (fun (w' : World) (v u t : Value) (h1 : IsNum w' v z1) (h2 : IsNum w' u (n : Int)) (h3 : IsNum w' t z2) => specPow_walk v u t z1 z2 n w' h1 h2 h3 v1 on v2)
          have HOF := Lib.hid (fun (w' : World) => ofUintP_walk n w' hn)
          have HTX := Lib.hid (fun (w' : World) (v : Value) (h : IsNum w' v (n : Int)) => numTextP_walk v (n : Int) w' h (Nat.le_trans (len_fit on) (by decide)))
          have HASK := Lib.hid (fun (w' : World) (v : Value) (h : IsNum w' v ((powRef z1 n z2).getD 0)) => askPow_walk (powRef z1 n z2) v w' (fun z hz => powRef_fits v1 v2 hz) h)
          obtain ⟨R, hR⟩ : ∃ R, powRef z1 n z2 = R := ⟨_, rfl⟩
          rw [hR] at HPW HASK HSP
          unfold DoNum at HSP
          obtain ⟨T, hT⟩ : ∃ T, outT R = T := ⟨_, rfl⟩
          obtain ⟨rb, hrb⟩ : ∃ rb, R.isSome = rb := ⟨_, rfl⟩
          obtain ⟨zv, hzv⟩ : ∃ zv, R.getD 0 = zv := ⟨_, rfl⟩
          obtain ⟨tn, htn⟩ : ∃ tn, zText (n : Int) = tn := ⟨_, rfl⟩
          rw [hT, hrb, htn] at HPW
          rw [hrb, hzv] at HSP
          rw [hT, hrb, hzv] at HASK
          rw [htn] at HTX
          have hn0 : (0 : Int) ≤ (n : Int) := by omega
          clear hp hleaf hkara hdiv hsqr hz1 hz2 o1 o2 r1 r2 q1 q2 v1 v2 hl1 hl3 hR hT hrb hzv htn tok tz on hn h40
          go_enter Tryz.func3, Tryz.ntmps3
          go_wp2_with fail
          refine (HS1.out _).mono ?_
          rintro e w1 ⟨b1, A1, n1, c1, rfl, hn1, hb1⟩
          have hn1 := hn1 (by first | rfl | trivial)
          have HN1 := Lib.hid (NumB.new hn1)
          have HB1 := Lib.hid (bt hb1 (below_a1 w1 (.cells #[.bool b1, .slice A1 n1 c1] 25)))
          clear hn1 hb1
          go_upto_region 4 with fail
          obtain ⟨wA, hwA⟩ : ∃ wA, w1.alloc (.cells #[.bool b1, .slice A1 n1 c1] 25) = wA := ⟨_, rfl⟩
          obtain ⟨g1, hg1⟩ : ∃ g1, w1.heap.size = g1 := ⟨_, rfl⟩
          rw [hwA] at HN1 HB1 ⊢
          rw [hg1] at HN1 ⊢
          clear hwA hg1
          go_wp2_with fail
          refine (HS2.out _).mono ?_
          rintro e w2 ⟨b2, A2, n2, c2, rfl, hn2, hb2⟩
          have hn2 := hn2 (by first | rfl | trivial)
          have HN2 := Lib.hid (NumB.new hn2)
          have HN1' := Lib.hid ((HN1.out.below hb2).below (below_a1 w2 (.cells #[.bool b2, .slice A2 n2 c2] 25)))
          have HB2 := Lib.hid (bt (bt HB1.out hb2) (below_a1 w2 (.cells #[.bool b2, .slice A2 n2 c2] 25)))
          clear hn2 hb2 HN1 HB1
          go_upto_region 5 with fail
          obtain ⟨wB, hwB⟩ : ∃ wB, w2.alloc (.cells #[.bool b2, .slice A2 n2 c2] 25) = wB := ⟨_, rfl⟩
          obtain ⟨g2, hg2⟩ : ∃ g2, w2.heap.size = g2 := ⟨_, rfl⟩
          rw [hwB] at HN2 HN1' HB2 ⊢
          rw [hg2] at HN2 ⊢
          clear hwB hg2
          go_upto_region 7 with fail
          go_wp2_with fail
          refine (HOF.out _).mono ?_
          rintro e w3 ⟨v3, rfl, hv3, hb3⟩
          obtain ⟨b3, A3, n3, c3, rfl, hv3⟩ := hv3.parts
          have HN3 := Lib.hid (NumB.new hv3)
          have hb3' := bt hb3 (below_a1 w3 (.cells #[.bool b3, .slice A3 n3 c3] 25))
          have HN1 := Lib.hid (HN1'.out.below hb3')
          have HN2' := Lib.hid (HN2.out.below hb3')
          have HB3 := Lib.hid (bt HB2.out hb3')
          clear hv3 hb3 hb3' HN1' HN2 HB2
          go_upto_region 8 with fail
          obtain ⟨wC, hwC⟩ : ∃ wC, w3.alloc (.cells #[.bool b3, .slice A3 n3 c3] 25) = wC := ⟨_, rfl⟩
          obtain ⟨g3, hg3⟩ : ∃ g3, w3.heap.size = g3 := ⟨_, rfl⟩
          rw [hwC] at HN1 HN2' HN3 HB3 ⊢
          rw [hg3] at HN3 ⊢
          clear hwC hg3
          obtain ⟨s1, X1, y1, e1, k1, i1⟩ := HN1.out
          obtain ⟨s2, X2, y2, e2, k2, i2⟩ := HN2'.out
          obtain ⟨s3, X3, y3, e3, k3, i3⟩ := HN3.out
          have c10 := num_cell0 k1
          have c11 := num_cell1 k1
          have c20 := num_cell0 k2
          have c21 := num_cell1 k2
          have c30 := num_cell0 k3
          have c31 := num_cell1 k3
          have I1 := Lib.hid i1
          have I2 := Lib.hid i2
          have I3 := Lib.hid i3
          clear k1 k2 k3 i1 i2 i3 HN1 HN2'
          go_wp2_with fail
          refine (HSP.out _ _ _ _ I1.out I3.out I2.out).mono ?_
          rintro e w4 ⟨v4, rfl, hv4, hb4⟩
          obtain ⟨b4, A4, n4, c4, rfl, hv4⟩ := hv4.parts
          have HN4 := Lib.hid (NumB.new hv4)
          have hb4' := bt hb4 (below_a1 w4 (.cells #[.bool b4, .slice A4 n4 c4] 25))
          have HN3' := Lib.hid (HN3.out.below hb4')
          have HB4 := Lib.hid (bt HB3.out hb4')
          clear hv4 hb4 hb4' HN3 HB3 c10 c11 c20 c21 c30 c31
          go_upto_region 9 with fail
          obtain ⟨wD, hwD⟩ : ∃ wD, w4.alloc (.cells #[.bool b4, .slice A4 n4 c4] 25) = wD := ⟨_, rfl⟩
          obtain ⟨g4, hg4⟩ : ∃ g4, w4.heap.size = g4 := ⟨_, rfl⟩
          rw [hwD] at HN4 HN3' HB4 ⊢
          rw [hg4] at HN4 ⊢
          clear hwD hg4
          obtain ⟨s5, X5, y5, e5, k5, i5⟩ := HN3'.out
          have c50 := num_cell0 k5
          have c51 := num_cell1 k5
          have I5 := Lib.hid i5
          clear k5 i5
          go_wp2_with fail
          refine (HTX.out _ _ I5.out).mono ?_
          rintro e w5 ⟨rfl, hb5⟩
          have HB5 := Lib.hid (bt HB4.out hb5)
          have HN5 := Lib.hid (HN4.out.below hb5)
          clear hb5 HB4 HN4 c50 c51
          go_wp2_with fail
          refine (HPW.out _ (HP.out.below HB5.out) (HLF.out.below HB5.out) (HKA.out.below HB5.out) (HSQ.out.below HB5.out) (HDI.out.below HB5.out HDI.out.lt)).mono ?_
          rintro e w6 ⟨rfl, hb6⟩
          have HB6 := Lib.hid (bt HB5.out hb6)
          have HN6 := Lib.hid (HN5.out.below hb6)
          clear hb6 HB5 HN5
          go_wp2_with fail
          refine (HAW.out _ (HP.out.below HB6.out) (HLF.out.below HB6.out)).mono ?_
          rintro e w7 ⟨rfl, hb7⟩
          have HB7 := Lib.hid (bt HB6.out hb7)
          obtain ⟨s8, X8, y8, e8, k8, i8⟩ := HN6.out.below hb7
          have c80 := num_cell0 k8
          have c81 := num_cell1 k8
          have I8 := Lib.hid i8
          clear hb7 HB6 HN6 k8 i8
          go_wp2_with fail
          refine (HASK.out _ _ I8.out).mono ?_
          rintro e w8 ⟨rfl, hb8⟩
          have HB8 := Lib.hid (bt HB7.out hb8)
          clear hb8
          go_wp2_with fail
          go_ret
          exact ⟨rfl, HB8.out⟩
        · have h40' : decide ((1099511627776 : Int) < (n : Int)) = true := decide_eq_true (by omega)
          rw [o1] at HS1
          rw [o2] at HS2
          clear hp hleaf hkara hdiv hsqr hn h40
          go_enter Tryz.func3, Tryz.ntmps3
          go_wp2_with fail
          refine (HS1.out _).mono ?_
          rintro e w1 ⟨b1, A1, n1, c1, rfl, hn1, hb1⟩
          clear hn1
          go_wp2_with fail
          refine (HS2.out _).mono ?_
          rintro e w2 ⟨b2, A2, n2, c2, rfl, hn2, hb2⟩
          have HB := Lib.hid (bt (bt (bt hb1 (below_a1 _ _)) hb2) (below_a1 w2 (.cells #[.bool b2, .slice A2 n2 c2] 25)))
          clear hn2
          go_wp2_with fail
          refine (HAW.out _ (HP.out.below HB.out) (HLF.out.below HB.out)).mono ?_
          rintro e w3 ⟨rfl, hb3⟩
          go_wp2_with fail
          go_ret
          exact ⟨rfl, bt HB.out hb3⟩
      · by_cases o1 : uintOk l1 = true
        · have o2 : uintOk l3 = false := by
            cases h : uintOk l3 with
            | false => rfl
            | true => exact absurd ⟨o1, h⟩ ho
          rw [o1] at HS1
          rw [o2] at HS2
          clear ho hp hleaf hkara hdiv hsqr hn
          go_enter Tryz.func3, Tryz.ntmps3
          go_wp2_with fail
          refine (HS1.out _).mono ?_
          rintro e w1 ⟨b1, A1, n1, c1, rfl, hn1, hb1⟩
          clear hn1
          go_wp2_with fail
          refine (HS2.out _).mono ?_
          rintro e w2 ⟨b2, A2, n2, c2, rfl, hn2, hb2⟩
          have HB := Lib.hid (bt (bt (bt hb1 (below_a1 _ _)) hb2) (below_a1 w2 (.cells #[.bool b2, .slice A2 n2 c2] 25)))
          clear hn2
          go_wp2_with fail
          refine (HAW.out _ (HP.out.below HB.out) (HLF.out.below HB.out)).mono ?_
          rintro e w3 ⟨rfl, hb3⟩
          go_wp2_with fail
          go_ret
          exact ⟨rfl, bt HB.out hb3⟩
        · have o1 : uintOk l1 = false := by simpa using o1
          rw [o1] at HS1
          obtain ⟨o, ho2⟩ : ∃ o, uintOk l3 = o := ⟨_, rfl⟩
          rw [ho2] at HS2
          clear ho hp hleaf hkara hdiv hsqr hn
          go_enter Tryz.func3, Tryz.ntmps3
          go_wp2_with fail
          refine (HS1.out _).mono ?_
          rintro e w1 ⟨b1, A1, n1, c1, rfl, hn1, hb1⟩
          clear hn1
          go_wp2_with fail
          refine (HS2.out _).mono ?_
          rintro e w2 ⟨b2, A2, n2, c2, rfl, hn2, hb2⟩
          have HB := Lib.hid (bt (bt (bt hb1 (below_a1 _ _)) hb2) (below_a1 w2 (.cells #[.bool b2, .slice A2 n2 c2] 25)))
          clear hn2
          go_wp2_with fail
          refine (HAW.out _ (HP.out.below HB.out) (HLF.out.below HB.out)).mono ?_
          rintro e w3 ⟨rfl, hb3⟩
          go_wp2_with fail
          go_ret
          exact ⟨rfl, bt HB.out hb3⟩
    · have h1' : decide ((2147483647 : Int) < l1.length) = false := decide_eq_false (by omega)
      have h2' : (2147483647 : Int) < l3.length := by omega
      clear hn
      go_enter Tryz.func3, Tryz.ntmps3
      go_wp2_with fail
      go_ret
      exact ⟨rfl, Below.refl _ _⟩
  · have h1' : (2147483647 : Int) < l1.length := by omega
    clear hn
    go_enter Tryz.func3, Tryz.ntmps3
    go_wp2_with fail
    go_ret
    exact ⟨rfl, Below.refl _ _⟩
end Go.Proofs.YtapfolgiafnllaaGreatDoor
