/-
  The walk of laws.FnUintAbout.
-/
import Derived.Test.YthipbglnaalhmaaGreatDoorUintAbout
import Derived.Test.YthipbglnaalhmaaGreatDoorUintAwake
import Derived.Test.YthipbglnaalhmaaGreatDoorSpecUint
import Derived.Test.YthipbglnaalhmaaGreatDoorSpecUns
namespace Go.Proofs.YthipbglnaalhmaaGreatDoor
open Go.RowKit

/-- What a text that spec.Uint takes is. -/
theorem uintOk_isA {l : List UInt8} (h : uintOk l = true) : readOk l = true ∧ l.length ≤ 1000 ∧ overU (readZ l) = false ∧ (toD 10 (readZ l).natAbs).length ≤ 1000000 := by
  unfold uintOk intOk at h
  simp only [Bool.and_eq_true, decide_eq_true_eq] at h
  obtain ⟨⟨h1, h2, h3⟩, h4⟩ := h
  refine ⟨h2, by omega, ?_, ?_⟩
  · rw [overU_fits, decide_eq_true h3]
    simpa using h4
  · exact Nat.le_trans (toD_length_le (by decide) 100 _ (Nat.lt_of_lt_of_le h3 (by decide))) (by decide)
theorem uns_low {z : Int} (h : ¬ z < 0) : unsOk z = decide (z < 18446744073709551616) ∧ unsZ z = lowZ z := by
  have h1 : unsOk z = decide (z < 18446744073709551616) := by unfold unsOk; rw [decide_eq_true (by omega : 0 ≤ z)]; rfl
  refine ⟨h1, ?_⟩
  unfold unsZ lowZ
  rw [h1]
  by_cases h2 : z < 18446744073709551616
  · rw [if_pos (decide_eq_true h2), if_pos h2]
  · rw [if_neg (by simp [h2]), if_neg h2]

set_option maxRecDepth 100000 in
set_option maxHeartbeats 4000000 in
theorem fnUintAbout_walk (l : List UInt8) (p : Addr) (w : World) (hl : l.length ≤ 140737488355328) (hp : EofIs w p) (hleaf : LeafIs w) :
    Calls Tryz.prog 6 #[.string (S l)] w fun e w' => e = .returned (.bool true) ∧ Below w.heap.size w w' := by
  have HAW := Lib.hid (fun (w' : World) (h1 : EofIs w' p) (h2 : LeafIs w') => uintAwake_walk p w' h1 h2)
  have HP := Lib.hid hp
  have HLF := Lib.hid hleaf
  have hs := specUint_walk l w hl
  by_cases h0 : l.length ≤ 2147483647
  · have h0' : ¬ (2147483647 : Int) < l.length := by omega
    cases hok : uintOk l with
    | false =>
      rw [hok] at hs
      have HS := Lib.hid hs
      clear hs hp hleaf
      go_enter Tryz.func6, Tryz.ntmps6
      go_wp2_with fail
      refine HS.out.mono ?_
      rintro e w1 ⟨b, A, n, c, rfl, _, hb⟩
      have HB := Lib.hid (bt hb (below_a1 w1 (.cells #[.bool b, .slice A n c] 29)))
      clear hb
      go_wp2_with fail
      refine (HAW.out _ (HP.out.below HB.out) (HLF.out.below HB.out)).mono ?_
      rintro e w2 ⟨rfl, hb2⟩
      go_wp2_with fail
      go_ret
      exact ⟨rfl, bt HB.out hb2⟩
    | true =>
      obtain ⟨r1, q1, v1, d1⟩ := uintOk_isA hok
      have hab := fun (w' : World) (h1 : EofIs w' p) => uintAbout_walk l p w' r1 q1 h1 v1
      rw [hok] at hs
      obtain ⟨z, hz⟩ : ∃ z, readZ l = z := ⟨_, rfl⟩
      rw [hz] at hs hab v1 d1
      obtain ⟨hu1, hu2⟩ := uns_low (overU_pos v1)
      have hun := fun (w' : World) (v : Value) (h : IsNum w' v z) => unsigned64_walk v z w' h d1
      have hze := fun (w' : World) (v : Value) (h : IsNum w' v z) => zero_walk v z w' h
      rw [hu1, hu2] at hun
      obtain ⟨N1, hN1⟩ : ∃ N1, lowZ z = N1 := ⟨_, rfl⟩
      obtain ⟨o1, ho1⟩ : ∃ o1, decide (z < 18446744073709551616) = o1 := ⟨_, rfl⟩
      obtain ⟨b1, hb1⟩ : ∃ b1, decide (z = 0) = b1 := ⟨_, rfl⟩
      rw [hN1, ho1] at hun hab
      rw [hb1] at hab hze
      have HUN := Lib.hid hun
      have HAB := Lib.hid hab
      have HZE := Lib.hid hze
      have HS := Lib.hid hs
      clear hs hab hun hze hp hleaf hok r1 q1 v1 d1 hz hu1 hu2 hN1 ho1 hb1
      go_enter Tryz.func6, Tryz.ntmps6
      go_wp2_with fail
      refine HS.out.mono ?_
      rintro e w1 ⟨b, A, n, c, rfl, hn, hb⟩
      have hn := hn rfl
      have HN1 := Lib.hid (hn.below (below_a1 w1 (.cells #[.bool b, .slice A n c] 29)))
      have HB1 := Lib.hid (bt hb (below_a1 w1 (.cells #[.bool b, .slice A n c] 29)))
      have HK1 := Lib.hid (heap_here w1 (.cells #[.bool b, .slice A n c] 29))
      clear hn hb
      go_wp2_with fail
      refine (HUN.out _ _ HN1.out).mono ?_
      rintro e w2 ⟨rfl, hb2⟩
      have HB2 := Lib.hid hb2
      clear hb2
      go_wp2_with fail
      refine (HAB.out _ (HP.out.below (bt HB1.out HB2.out))).mono ?_
      rintro e w3 ⟨rfl, hb3⟩
      have HB3 := Lib.hid (bt HB2.out hb3)
      clear hb3
      go_wp2_with fail
      refine (HAW.out _ (HP.out.below (bt HB1.out HB3.out)) (HLF.out.below (bt HB1.out HB3.out))).mono ?_
      rintro e w4 ⟨rfl, hb4⟩
      have hb14 := bt HB3.out hb4
      have hk4 := (hb14.block w1.heap.size (by rw [heap_size_alloc]; omega)).trans HK1.out
      have c0 := num_cell0 hk4
      have c1 := num_cell1 hk4
      have HN4 := Lib.hid (HN1.out.below hb14)
      have HB4 := Lib.hid (bt HB1.out hb14)
      clear hb4 hb14 hk4
      go_wp2_with fail
      refine (HZE.out _ _ HN4.out).mono ?_
      rintro e w5 ⟨rfl, hb5⟩
      go_wp2_with fail
      go_ret
      exact ⟨rfl, bt HB4.out hb5⟩
  · have h0' : (2147483647 : Int) < l.length := by omega
    go_enter Tryz.func6, Tryz.ntmps6
    go_wp2_with fail
    go_ret
    exact ⟨rfl, Below.refl _ _⟩
end Go.Proofs.YthipbglnaalhmaaGreatDoor
