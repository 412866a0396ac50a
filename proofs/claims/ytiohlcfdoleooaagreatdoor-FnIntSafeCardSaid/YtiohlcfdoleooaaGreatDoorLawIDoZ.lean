/-
  The walk of laws.FnIntDo.
-/
import Derived.Test.YtiohlcfdoleooaaGreatDoorIntDoGZ
import Derived.Test.YtiohlcfdoleooaaGreatDoorBn25Z
import Derived.Test.YtiohlcfdoleooaaGreatDoorBn17Z
import Derived.Test.YtiohlcfdoleooaaGreatDoorSpecDoIZ
import Derived.Test.YtiohlcfdoleooaaGreatDoorBn27Z
namespace Go.Proofs.YtiohlcfdoleooaaGreatDoor
open Go.RowKit

/-- What a text that spec.Int takes is. -/
theorem intOk_isD {l : List UInt8} (h : intOk l = true) : readOk l = true ∧ l.length ≤ 1000 ∧ overI (readZ l) = false ∧ (readZ l).natAbs < 2 ^ 256 := by
  unfold intOk at h
  simp only [Bool.and_eq_true, decide_eq_true_eq] at h
  obtain ⟨h1, h2, h3⟩ := h
  refine ⟨h2, by omega, ?_, h3⟩
  rw [overI_fits, decide_eq_true h3]
  rfl

/-- What IntDo hands back is what the reference has, where it fits. -/
theorem toldRes_walk (o : Nat) (x y : Int) (v : Value) (w : World) (hx : x.natAbs < 2 ^ 256) (hy : y.natAbs < 2 ^ 256) (hv : IsNum w v ((refZ o x y).getD 0)) :
    Calls Tryz.prog 37 #[.string (S (outT (iRes o x y))), .bool (iRes o x y).isSome, v, .bool (refZ o x y).isSome] w fun e w' => e = .returned (.bool true) ∧ Below w.heap.size w w' := by
  cases hz : refZ o x y with
  | none =>
    rw [hz] at hv
    rw [iRes_none hz]
    exact told_walk _ false 0 v false w hv (by rw [Int.natAbs_zero, toD_zero]; decide) rfl (fun h => by cases h)
  | some z =>
    rw [hz] at hv
    have hl := refZ_len hx hy hz
    have hf := overI_fits z
    cases ho : overI z with
    | true =>
      rw [iRes_over hz ho]
      rw [ho] at hf
      have hok : false = (true && decide (z.natAbs < 2 ^ 256)) := by
        cases h2 : decide (z.natAbs < 2 ^ 256) <;> rw [h2] at hf <;> first | rfl | cases hf
      exact told_walk _ false z v true w hv hl hok (fun h => by cases h)
    | false =>
      rw [iRes_some hz ho]
      rw [ho] at hf
      have hok : true = (true && decide (z.natAbs < 2 ^ 256)) := by
        cases h2 : decide (z.natAbs < 2 ^ 256) <;> rw [h2] at hf <;> first | rfl | cases hf
      exact told_walk _ true z v true w hv hl hok (fun _ => rfl)

set_option maxRecDepth 100000 in
set_option maxHeartbeats 4000000 in
theorem fnIntDo_walk (op : Nat) (l1 l2 : List UInt8) (p e1 e2 : Addr) (w : World) (hop : op < 256) (hl1 : l1.length ≤ 140737488355328) (hl2 : l2.length ≤ 140737488355328) (hp : EofIs w p) (hleaf : LeafIs w) (hkara : KaraIs w) (hdiv : DivIs w) (herr : ErrsAre w e1 e2) :
    Calls Tryz.prog 9 #[.int .u8 (op : Int), .string (S l1), .string (S l2)] w fun e w' => e = .returned (.bool true) ∧ Below w.heap.size w w' := by
  have HAW := Lib.hid (fun (w' : World) (h1 : EofIs w' p) (h2 : LeafIs w') => intAwake_walk p w' h1 h2)
  have HP := Lib.hid hp
  have HLF := Lib.hid hleaf
  have HKA := Lib.hid hkara
  have HDI := Lib.hid hdiv
  have HER := Lib.hid herr
  by_cases h1 : l1.length ≤ 2147483647
  · by_cases h2 : l2.length ≤ 2147483647
    · have h1' : decide ((2147483647 : Int) < l1.length) = false := decide_eq_false (by omega)
      have h2' : decide ((2147483647 : Int) < l2.length) = false := decide_eq_false (by omega)
      have HS1 := Lib.hid (fun w => specInt_walk l1 w hl1)
      have HS2 := Lib.hid (fun w => specInt_walk l2 w hl2)
      by_cases ho : intOk l1 = true ∧ intOk l2 = true
      · obtain ⟨o1, o2⟩ := ho
        obtain ⟨r1, q1, v1, d1⟩ := intOk_isD o1
        obtain ⟨r2, q2, v2, d2⟩ := intOk_isD o2
        obtain ⟨o, ho⟩ : ∃ o, op % 7 = o := ⟨_, rfl⟩
        have ho6 : o ≤ 6 := by omega
        have hoi : (op : Int) % 7 = (o : Int) := by omega
        have hop0 : (0 : Int) ≤ (op : Int) := by omega
        have hop1 : (op : Int) < 256 := by omega
        have HDO := Lib.hid (fun (w' : World) (hp : EofIs w' p) (hleaf : LeafIs w') (hk : KaraIs w') (hd : DivIs w') (he : ErrsAre w' e1 e2) => intDoG_walk o l1 l2 p e1 e2 w' r1 r2 q1 q2 hp hleaf hk hd he ho6 v1 v2)
        rw [o1] at HS1
        rw [o2] at HS2
        obtain ⟨z1, hz1⟩ : ∃ z1, readZ l1 = z1 := ⟨_, rfl⟩
        obtain ⟨z2, hz2⟩ : ∃ z2, readZ l2 = z2 := ⟨_, rfl⟩
        rw [hz1] at HS1 HDO v1 d1
        rw [hz2] at HS2 HDO v2 d2
        have HSD := Lib.hid (fun (w' : World) (v u : Value) (h1 : IsNum w' v z1) (h2 : IsNum w' u z2) => specDoAll_walk o v u z1 z2 w' ho6 h1 h2 (Nat.le_trans (toD_length_le (by decide) 100 _ (Nat.lt_of_lt_of_le d1 (by decide))) (by decide)) (Nat.le_trans (toD_length_le (by decide) 100 _ (Nat.lt_of_lt_of_le d2 (by decide))) (by decide)))
        have HASK := Lib.hid (fun (w' : World) (v : Value) (h : IsNum w' v ((refZ o z1 z2).getD 0)) => toldRes_walk o z1 z2 v w' d1 d2 h)
        obtain ⟨R, hR⟩ : ∃ R, iRes o z1 z2 = R := ⟨_, rfl⟩
        obtain ⟨Z, hZ⟩ : ∃ Z, refZ o z1 z2 = Z := ⟨_, rfl⟩
        rw [hR] at HDO HASK
        rw [hZ] at HSD HASK
        unfold DoNum at HSD
        obtain ⟨T, hT⟩ : ∃ T, outT R = T := ⟨_, rfl⟩
        obtain ⟨rb, hrb⟩ : ∃ rb, R.isSome = rb := ⟨_, rfl⟩
        obtain ⟨zb, hzb⟩ : ∃ zb, Z.isSome = zb := ⟨_, rfl⟩
        obtain ⟨zv, hzv⟩ : ∃ zv, Z.getD 0 = zv := ⟨_, rfl⟩
        rw [hT, hrb] at HDO
        rw [hzb, hzv] at HSD
        rw [hT, hrb, hzb, hzv] at HASK
        clear hp hleaf hkara hdiv herr hz1 hz2 o1 o2 r1 r2 q1 q2 v1 v2 hl1 hl2 d1 d2 hR hZ hT hrb hzb hzv ho
        go_enter Tryz.func9, Tryz.ntmps9
        go_wp2_with fail
        refine (HS1.out _).mono ?_
        rintro e w1 ⟨b1, A1, n1, c1, rfl, hn1, hb1⟩
        have hn1 := hn1 rfl
        have HN1 := Lib.hid hn1
        clear hn1
        go_wp2_with fail
        refine (HS2.out _).mono ?_
        rintro e w2 ⟨b2, A2, n2, c2, rfl, hn2, hb2⟩
        have hn2 := hn2 rfl
        have k5 := (hb2.block w1.heap.size (by rw [heap_size_alloc]; omega)).trans (heap_here w1 (.cells #[.bool b1, .slice A1 n1 c1] 24))
        have hbw := bt (bt hb1 (below_a1 w1 (.cells #[.bool b1, .slice A1 n1 c1] 24))) hb2
        have hN1 := HN1.out.below (bt (below_a1 w1 (.cells #[.bool b1, .slice A1 n1 c1] 24)) hb2)
        obtain ⟨wB, hwB⟩ : ∃ wB, w2.alloc (.cells #[.bool b2, .slice A2 n2 c2] 24) = wB := ⟨_, rfl⟩
        have k5B : wB.heap[w1.heap.size]? = some (.cells #[.bool b1, .slice A1 n1 c1] 24 (0, 0)) := by rw [← hwB]; exact heap_old k5
        have k7B : wB.heap[w2.heap.size]? = some (.cells #[.bool b2, .slice A2 n2 c2] 24 (0, 0)) := by rw [← hwB]; exact heap_here _ _
        have hbB : Below w.heap.size w wB := by rw [← hwB]; exact bt hbw (below_a1 _ _)
        have hN1B : IsNum wB (.agg #[.bool b1, .slice A1 n1 c1]) z1 := by rw [← hwB]; exact hN1.below (below_a1 _ _)
        have hN2B : IsNum wB (.agg #[.bool b2, .slice A2 n2 c2]) z2 := by rw [← hwB]; exact hn2.below (below_a1 _ _)
        have c50 := num_cell0 k5B
        have c51 := num_cell1 k5B
        have c70 := num_cell0 k7B
        have c71 := num_cell1 k7B
        have HWB := Lib.hid hwB
        have HBB := Lib.hid hbB
        have HN1 := Lib.hid hN1B
        have HN2 := Lib.hid hN2B
        clear k5 hbw hN1 hwB k5B k7B hbB hN1B hN2B hn2 hb1 hb2
        go_upto_region 8 with fail
        rw [HWB.out]
        try rw [hoi]
        clear hoi
        go_wp2_with fail
        refine (HSD.out _ _ _ HN1.out HN2.out).mono ?_
        rintro e w3 ⟨v3, rfl, hn3, hb3⟩
        obtain ⟨A3, c3, rfl, hc3, hcm3, hr3⟩ := hn3.open
        obtain ⟨b3, hb3e⟩ : ∃ b, decide (zv < 0) = b := ⟨_, rfl⟩
        obtain ⟨n3, hn3e⟩ : ∃ n, (toD 10 zv.natAbs).length = n := ⟨_, rfl⟩
        rw [hb3e, hn3e] at hn3 ⊢
        have HN3 := Lib.hid (hn3.below (below_a1 w3 (.cells #[.bool b3, .slice A3 n3 c3] 24)))
        have HKZ := Lib.hid (heap_here w3 (.cells #[.bool b3, .slice A3 n3 c3] 24))
        have HBZ := Lib.hid (bt (bt HBB.out hb3) (below_a1 w3 (.cells #[.bool b3, .slice A3 n3 c3] 24)))
        clear hn3 hb3 hr3 hb3e hn3e hc3 c50 c51 c70 c71
        go_wp2_with fail
        refine (HDO.out _ (HP.out.below HBZ.out) (HLF.out.below HBZ.out) (HKA.out.below HBZ.out) (HDI.out.below HBZ.out HDI.out.lt) (HER.out.below HBZ.out)).mono ?_
        rintro e w5 ⟨rfl, hb5⟩
        have HB5 := Lib.hid hb5
        clear hb5
        go_wp2_with fail
        refine (HAW.out _ (HP.out.below (bt HBZ.out HB5.out)) (HLF.out.below (bt HBZ.out HB5.out))).mono ?_
        rintro e w6 ⟨rfl, hb6⟩
        have hb56 := bt HB5.out hb6
        have kz := (hb56.block _ (iter_lt HKZ.out)).trans HKZ.out
        have d0 := num_cell0 kz
        have d1 := num_cell1 kz
        have HB6 := Lib.hid hb56
        clear hb6 hb56 kz
        go_wp2_with fail
        refine (HASK.out _ _ (HN3.out.below HB6.out)).mono ?_
        rintro e w7 ⟨rfl, hb7⟩
        have HB7 := Lib.hid (bt (bt HBZ.out HB6.out) hb7)
        clear hb7
        go_wp2_with fail
        go_ret
        exact ⟨rfl, HB7.out⟩
      · by_cases o1 : intOk l1 = true
        · have o2 : intOk l2 = false := by
            cases h : intOk l2 with
            | false => rfl
            | true => exact absurd ⟨o1, h⟩ ho
          rw [o1] at HS1
          rw [o2] at HS2
          clear ho hp hleaf
          go_enter Tryz.func9, Tryz.ntmps9
          go_wp2_with fail
          refine (HS1.out _).mono ?_
          rintro e w1 ⟨b1, A1, n1, c1, rfl, hn1, hb1⟩
          clear hn1
          go_wp2_with fail
          refine (HS2.out _).mono ?_
          rintro e w2 ⟨b2, A2, n2, c2, rfl, hn2, hb2⟩
          have HB := Lib.hid (bt (bt (bt hb1 (below_a1 _ _)) hb2) (below_a1 w2 (.cells #[.bool b2, .slice A2 n2 c2] 24)))
          clear hn2
          go_wp2_with fail
          refine (HAW.out _ (HP.out.below HB.out) (HLF.out.below HB.out)).mono ?_
          rintro e w3 ⟨rfl, hb3⟩
          go_wp2_with fail
          go_ret
          exact ⟨rfl, bt HB.out hb3⟩
        · have o1 : intOk l1 = false := by simpa using o1
          rw [o1] at HS1
          obtain ⟨o, ho2⟩ : ∃ o, intOk l2 = o := ⟨_, rfl⟩
          rw [ho2] at HS2
          clear ho hp hleaf
          go_enter Tryz.func9, Tryz.ntmps9
          go_wp2_with fail
          refine (HS1.out _).mono ?_
          rintro e w1 ⟨b1, A1, n1, c1, rfl, hn1, hb1⟩
          clear hn1
          go_wp2_with fail
          refine (HS2.out _).mono ?_
          rintro e w2 ⟨b2, A2, n2, c2, rfl, hn2, hb2⟩
          have HB := Lib.hid (bt (bt (bt hb1 (below_a1 _ _)) hb2) (below_a1 w2 (.cells #[.bool b2, .slice A2 n2 c2] 24)))
          clear hn2
          go_wp2_with fail
          refine (HAW.out _ (HP.out.below HB.out) (HLF.out.below HB.out)).mono ?_
          rintro e w3 ⟨rfl, hb3⟩
          go_wp2_with fail
          go_ret
          exact ⟨rfl, bt HB.out hb3⟩
    · have h1' : decide ((2147483647 : Int) < l1.length) = false := decide_eq_false (by omega)
      have h2' : (2147483647 : Int) < l2.length := by omega
      go_enter Tryz.func9, Tryz.ntmps9
      go_wp2_with fail
      go_ret
      exact ⟨rfl, Below.refl _ _⟩
  · have h1' : (2147483647 : Int) < l1.length := by omega
    go_enter Tryz.func9, Tryz.ntmps9
    go_wp2_with fail
    go_ret
    exact ⟨rfl, Below.refl _ _⟩
end Go.Proofs.YtiohlcfdoleooaaGreatDoor
