/-
  The walk of laws.FnIntTurned.
-/
import Derived.Test.YthipbglnaalhmaaGreatDoorIntTurned
import Derived.Test.YthipbglnaalhmaaGreatDoorIntAwake
import Derived.Test.YthipbglnaalhmaaGreatDoorSpecUint
import Derived.Test.YthipbglnaalhmaaGreatDoorSpecSub
namespace Go.Proofs.YthipbglnaalhmaaGreatDoor
open Go.RowKit

/-- What a text that spec.Int takes is. -/
theorem intOk_is {l : List UInt8} (h : intOk l = true) : readOk l = true ∧ l.length ≤ 1000 ∧ overI (readZ l) = false ∧ (toD 10 (readZ l).natAbs).length ≤ 1000000 := by
  unfold intOk at h
  simp only [Bool.and_eq_true, decide_eq_true_eq] at h
  obtain ⟨h1, h2, h3⟩ := h
  refine ⟨h2, by omega, ?_, ?_⟩
  · rw [overI_fits, decide_eq_true h3]; rfl
  · exact Nat.le_trans (toD_length_le (by decide) 100 _ (Nat.lt_of_lt_of_le h3 (by decide))) (by decide)
theorem textZ_walk (v : Value) (z : Int) (w : World) (hv : IsNum w v z) (hl : (toD 10 z.natAbs).length ≤ 1000000) :
    Calls Tryz.prog 15 #[v] w fun e w' => e = .returned (.string (S (zText z))) ∧ Below w.heap.size w w' :=
  text_walk v (decide (z < 0)) (toD 10 z.natAbs) w hv (toD_lt (by decide) _) hl
theorem s2_drew {w0 w1 : World} {a b : Addr} {u v : Value} (h : w1.cell? a = some u ∧ w1.cell? b = some v ∧ Below w0.heap.size w0 w1) : w1.drew.cell? a = some u ∧ w1.drew.cell? b = some v ∧ Below w0.heap.size w0 w1.drew := ⟨h.1, h.2.1, h.2.2.drew⟩

set_option maxRecDepth 100000 in
set_option maxHeartbeats 4000000 in
theorem fnIntTurned_walk (l : List UInt8) (p : Addr) (w : World) (hl : l.length ≤ 140737488355328) (hp : EofIs w p) (hleaf : LeafIs w) :
    Calls Tryz.prog 8 #[.string (S l)] w fun e w' => e = .returned (.bool true) ∧ Below w.heap.size w w' := by
  have HAW := Lib.hid (fun (w' : World) (h1 : EofIs w' p) (h2 : LeafIs w') => intAwake_walk p w' h1 h2)
  have HP := Lib.hid hp
  have HLF := Lib.hid hleaf
  have hs := specInt_walk l w hl
  by_cases h0 : l.length ≤ 2147483647
  · have h0' : ¬ (2147483647 : Int) < l.length := by omega
    cases hok : intOk l with
    | false =>
      rw [hok] at hs
      have HS := Lib.hid hs
      clear hs hp hleaf
      go_enter Tryz.func8, Tryz.ntmps8
      go_wp2_with fail
      refine HS.out.mono ?_
      rintro e w1 ⟨b, A, n, c, rfl, _, hb⟩
      have HB := Lib.hid (bt hb (below_a1 w1 (.cells #[.bool b, .slice A n c] 29)))
      clear hb
      go_wp2_with fail
      refine (HAW.out _ (HP.out.below HB.out) (HLF.out.below HB.out)).mono ?_
      rintro e w2 ⟨rfl, hb2⟩
      go_wp2_with fail
      go_ret
      exact ⟨rfl, bt HB.out hb2⟩
    | true =>
      obtain ⟨r1, q1, v1, d1⟩ := intOk_is hok
      have htu := fun (w' : World) (h1 : EofIs w' p) (h2 : LeafIs w') => intTurned_walk l p w' r1 q1 h1 h2 v1
      rw [hok] at hs
      obtain ⟨z, hz⟩ : ∃ z, readZ l = z := ⟨_, rfl⟩
      rw [hz] at hs htu v1 d1
      have hmi := fun (w' : World) (v : Value) (h : IsNum w' v z) => minus_walk v z w' h
      have hab := fun (w' : World) (v : Value) (h : IsNum w' v z) => abs_walk v z w' h
      have ht1 := fun (w' : World) (v : Value) (h : IsNum w' v (-z)) => textZ_walk v (-z) w' h (by rw [Int.natAbs_neg]; exact d1)
      have ht2 := fun (w' : World) (v : Value) (h : IsNum w' v (z.natAbs : Int)) => textZ_walk v (z.natAbs : Int) w' h (by rw [Int.natAbs_natCast]; exact d1)
      obtain ⟨T1, hT1⟩ : ∃ T1, zText (-z) = T1 := ⟨_, rfl⟩
      obtain ⟨T2, hT2⟩ : ∃ T2, zText (z.natAbs : Int) = T2 := ⟨_, rfl⟩
      rw [hT1, hT2] at htu
      rw [hT1] at ht1
      rw [hT2] at ht2
      have HTU := Lib.hid htu
      have HMI := Lib.hid hmi
      have HAB := Lib.hid hab
      have HT1 := Lib.hid ht1
      have HT2 := Lib.hid ht2
      have HS := Lib.hid hs
      clear hs htu hmi hab ht1 ht2 hp hleaf hok r1 q1 v1 d1 hz hT1 hT2
      go_enter Tryz.func8, Tryz.ntmps8
      go_wp2_with fail
      refine HS.out.mono ?_
      rintro e w1 ⟨b, A, n, c, rfl, hn, hb⟩
      have hn := hn rfl
      have HN1 := Lib.hid (hn.below (below_a1 w1 (.cells #[.bool b, .slice A n c] 29)))
      have HB1 := Lib.hid (bt hb (below_a1 w1 (.cells #[.bool b, .slice A n c] 29)))
      have HK1 := Lib.hid (heap_here w1 (.cells #[.bool b, .slice A n c] 29))
      clear hn hb
      go_wp2_with fail
      refine (HTU.out _ (HP.out.below HB1.out) (HLF.out.below HB1.out)).mono ?_
      rintro e w2 ⟨rfl, hb2⟩
      have HB2 := Lib.hid hb2
      clear hb2
      go_wp2_with fail
      refine (HAW.out _ (HP.out.below (bt HB1.out HB2.out)) (HLF.out.below (bt HB1.out HB2.out))).mono ?_
      rintro e w3 ⟨rfl, hb3⟩
      have hb13 := bt HB2.out hb3
      have hk3 := (hb13.block w1.heap.size (by rw [heap_size_alloc]; omega)).trans HK1.out
      have c0 := num_cell0 hk3
      have c1 := num_cell1 hk3
      have HN3 := Lib.hid (HN1.out.below hb13)
      have HB3 := Lib.hid (bt HB1.out hb13)
      have HK3 := Lib.hid hk3
      clear hb3 hb13 hk3
      go_wp2_with fail
      refine (HMI.out _ _ HN3.out).mono ?_
      rintro e w4 ⟨v4, rfl, hv4, hb4⟩
      have HV4 := Lib.hid hv4
      have HB4 := Lib.hid hb4
      clear hv4 hb4
      go_wp2_with fail
      refine (HT1.out _ _ HV4.out).mono ?_
      rintro e w5 ⟨rfl, hb5⟩
      have hb35 := bt HB4.out hb5
      have hk5 := (hb35.block w1.heap.size (iter_lt HK3.out)).trans HK3.out
      have c0 := num_cell0 hk5
      have c1 := num_cell1 hk5
      have HN5 := Lib.hid (HN3.out.below hb35)
      have HB5 := Lib.hid (bt HB3.out hb35)
      clear hb5 hb35 hk5
      go_wp2_with fail
      refine (HAB.out _ _ HN5.out).mono ?_
      rintro e w6 ⟨v6, rfl, hv6, hb6⟩
      have HV6 := Lib.hid hv6
      have HB6 := Lib.hid (bt HB5.out hb6)
      clear hv6 hb6
      go_wp2_with fail
      refine (HT2.out _ _ HV6.out).mono ?_
      rintro e w7 ⟨rfl, hb7⟩
      go_wp2_with fail
      go_ret
      exact ⟨rfl, bt HB6.out hb7⟩
  · have h0' : (2147483647 : Int) < l.length := by omega
    go_enter Tryz.func8, Tryz.ntmps8
    go_wp2_with fail
    go_ret
    exact ⟨rfl, Below.refl _ _⟩
end Go.Proofs.YthipbglnaalhmaaGreatDoor
