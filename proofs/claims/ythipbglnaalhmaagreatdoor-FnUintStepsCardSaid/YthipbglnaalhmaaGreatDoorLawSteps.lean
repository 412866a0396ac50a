/-
  The walk of laws.FnUintSteps.
-/
import Derived.Test.YthipbglnaalhmaaGreatDoorUintSteps
import Derived.Test.YthipbglnaalhmaaGreatDoorUintAwake
import Derived.Test.YthipbglnaalhmaaGreatDoorTold
import Derived.Test.YthipbglnaalhmaaGreatDoorSpecUint
import Derived.Test.YthipbglnaalhmaaGreatDoorSpecSub
namespace Go.Proofs.YthipbglnaalhmaaGreatDoor
open Go.RowKit

/-- What a text that spec.Uint takes is. -/
theorem uintOk_is {l : List UInt8} (h : uintOk l = true) : readOk l = true ∧ l.length ≤ 1000 ∧ overU (readZ l) = false ∧ (toD 10 (readZ l).natAbs).length ≤ 100 := by
  unfold uintOk intOk at h
  simp only [Bool.and_eq_true, decide_eq_true_eq] at h
  obtain ⟨⟨h1, h2, h3⟩, h4⟩ := h
  refine ⟨h2, by omega, ?_, ?_⟩
  · rw [overU_fits, decide_eq_true h3]
    simpa using h4
  · exact toD_length_le (by decide) 100 _ (Nat.lt_of_lt_of_le h3 (by decide))
theorem len_near {z x : Int} (h : (toD 10 z.natAbs).length ≤ 100) (hx : x.natAbs ≤ z.natAbs + 1) : (toD 10 x.natAbs).length ≤ 1000000 := by
  have h1 := toD_lt_pow (b := 10) (by decide) z.natAbs
  have h2 : (10 : Nat) ^ (toD 10 z.natAbs).length ≤ 10 ^ 100 := Nat.pow_le_pow_right (by decide) h
  refine Nat.le_trans (toD_length_le (by decide) 101 _ (Nat.lt_of_le_of_lt hx (Nat.lt_of_lt_of_le (m := 10 ^ 100 + 1) (by omega) (by decide)))) (by decide)
theorem asked_outU (z : Int) (v : Value) (w : World) (hv : IsNum w v z) (hl : (toD 10 z.natAbs).length ≤ 1000000) :
    Calls Tryz.prog 17 #[.string (S (outU z)), .bool (!overU z), v, .bool true] w fun e w' => e = .returned (.bool true) ∧ Below w.heap.size w w' := by
  refine asked_walk _ _ z v w hv hl ?_ ?_
  · rw [overU_fits]
    cases decide (z < 0) <;> cases decide (z.natAbs < 2 ^ 256) <;> rfl
  · intro h
    unfold outU
    rw [if_neg (by intro h2; rw [h2] at h; exact absurd h (by decide))]
theorem st_drew {w0 w1 : World} {a b : Addr} {u v : Value} (h : w1.cell? a = some u ∧ w1.cell? b = some v ∧ Below w0.heap.size w0 w1) : w1.drew.cell? a = some u ∧ w1.drew.cell? b = some v ∧ Below w0.heap.size w0 w1.drew := ⟨h.1, h.2.1, h.2.2.drew⟩
theorem st_grow {w0 w1 w2 : World} {a b : Addr} {u v : Value} (h : w1.cell? a = some u ∧ w1.cell? b = some v ∧ Below w0.heap.size w0 w1) (k : Below w1.heap.size w1 w2) : w2.cell? a = some u ∧ w2.cell? b = some v ∧ Below w0.heap.size w0 w2 :=
  ⟨(k.cell (by exact World.block_lt_of_cell? w1 _ h.1)).trans h.1, (k.cell (by exact World.block_lt_of_cell? w1 _ h.2.1)).trans h.2.1, bt h.2.2 k⟩

set_option maxRecDepth 100000 in
set_option maxHeartbeats 4000000 in
theorem fnUintSteps_walk (l : List UInt8) (p : Addr) (w : World) (hl : l.length ≤ 140737488355328) (hp : EofIs w p) (hleaf : LeafIs w) :
    Calls Tryz.prog 5 #[.string (S l)] w fun e w' => e = .returned (.bool true) ∧ Below w.heap.size w w' := by
  have HAW := Lib.hid (fun (w' : World) (h1 : EofIs w' p) (h2 : LeafIs w') => uintAwake_walk p w' h1 h2)
  have HP := Lib.hid hp
  have HLF := Lib.hid hleaf
  have hs := specUint_walk l w hl
  by_cases h0 : l.length ≤ 2147483647
  · have h0' : ¬ (2147483647 : Int) < l.length := by omega
    cases hok : uintOk l with
    | false =>
      rw [hok] at hs
      have HS := Lib.hid hs
      clear hs hp hleaf
      go_enter Tryz.func5, Tryz.ntmps5
      go_wp2_with fail
      refine HS.out.mono ?_
      rintro e w1 ⟨b, A, n, c, rfl, _, hb⟩
      have HB := Lib.hid (bt hb (below_a1 w1 (.cells #[.bool b, .slice A n c] 29)))
      clear hb
      go_wp2_with fail
      refine (HAW.out _ (HP.out.below HB.out) (HLF.out.below HB.out)).mono ?_
      rintro e w2 ⟨rfl, hb2⟩
      go_wp2_with fail
      go_ret
      exact ⟨rfl, bt HB.out hb2⟩
    | true =>
      obtain ⟨r1, q1, v1, d1⟩ := uintOk_is hok
      have hst := fun (w' : World) (h1 : EofIs w' p) (h2 : LeafIs w') => uintSteps_walk l p w' r1 q1 h1 h2 v1
      rw [hok] at hs
      obtain ⟨z, hz⟩ : ∃ z, readZ l = z := ⟨_, rfl⟩
      rw [hz] at hs hst v1 d1
      have HA1 := Lib.hid (fun (w' : World) (v : Value) (h : IsNum w' v (z + 1)) => asked_outU (z + 1) v w' h (len_near d1 (by omega)))
      have HA2 := Lib.hid (fun (w' : World) (v : Value) (h : IsNum w' v (z - 1)) => asked_outU (z - 1) v w' h (len_near d1 (by omega)))
      have h1d : (toD 10 (1 : Int).natAbs).length ≤ 1000 := Nat.le_trans (toD_length_le (by decide) 1 _ (by decide)) (by decide)
      have HAD := Lib.hid (fun (w' : World) (v u : Value) (h1 : IsNum w' v z) (h2 : IsNum w' u 1) => add_walk v u z 1 w' h1 h2 (by omega) h1d)
      have HSB := Lib.hid (fun (w' : World) (v u : Value) (h1 : IsNum w' v z) (h2 : IsNum w' u 1) => sub_walk v u z 1 w' h1 h2 (by omega) h1d)
      obtain ⟨T1, hT1⟩ : ∃ T1, outU (z + 1) = T1 := ⟨_, rfl⟩
      obtain ⟨T2, hT2⟩ : ∃ T2, outU (z - 1) = T2 := ⟨_, rfl⟩
      obtain ⟨o1, ho1⟩ : ∃ o1, (!overU (z + 1)) = o1 := ⟨_, rfl⟩
      obtain ⟨o2, ho2⟩ : ∃ o2, (!overU (z - 1)) = o2 := ⟨_, rfl⟩
      rw [hT1, ho1] at HA1 hst
      rw [hT2, ho2] at HA2 hst
      have HST := Lib.hid hst
      have HS := Lib.hid hs
      clear hs hst hp hleaf hok r1 q1 v1 d1 hz hT1 hT2 ho1 ho2 h1d
      go_enter Tryz.func5, Tryz.ntmps5
      go_wp2_with fail
      refine HS.out.mono ?_
      rintro e w1 ⟨b, A, n, c, rfl, hn, hb⟩
      have hn := hn rfl
      have HN1 := Lib.hid hn
      have HB1 := Lib.hid (bt hb (below_a1 w1 (.cells #[.bool b, .slice A n c] 29)))
      have HK1 := Lib.hid (heap_here w1 (.cells #[.bool b, .slice A n c] 29))
      clear hn hb
      go_wp2_with fail
      refine (HST.out _ (HP.out.below HB1.out) (HLF.out.below HB1.out)).mono ?_
      rintro e w2 ⟨rfl, hb2⟩
      have HB2 := Lib.hid (bt HB1.out hb2)
      have HN2 := Lib.hid ((HN1.out.below (below_a1 _ _)).below hb2)
      have hk2 := (hb2.block w1.heap.size (by rw [heap_size_alloc]; omega)).trans HK1.out
      have hkept : w2.cell? ⟨w1.heap.size, 0, none⟩ = some (.bool b) ∧ w2.cell? ⟨w1.heap.size, 1, none⟩ = some (.slice A n c) ∧ Below w2.heap.size w2 w2 := ⟨num_cell0 hk2, num_cell1 hk2, Below.refl _ _⟩
      clear hb2 hk2
      go_upto_region 7 with fail
      go_region_held3 (fun w' => w'.cell? ⟨w1.heap.size, 0, none⟩ = some (.bool b) ∧ w'.cell? ⟨w1.heap.size, 1, none⟩ = some (.slice A n c) ∧ Below w2.heap.size w2 w')
        (first | exact st_drew hkept | exact st_grow (by assumption) hgr | assumption)
        (first
          | (go_at_call 13; (with_reducible refine (HAW.out _ (HP.out.below (bt HB2.out (by go_split_ands; assumption))) (HLF.out.below (bt HB2.out (by go_split_ands; assumption)))).mono ?_); rintro e w3 ⟨rfl, hgr⟩)
          | (go_at_call 22; (with_reducible refine (of_walk 1 _ (by decide)).mono ?_); rintro e w7 ⟨v7, rfl, hv7, hgr⟩; have HV7 := Lib.hid hv7; clear hv7)
          | (go_at_call 21; (with_reducible refine (HAD.out _ _ _ (HN2.out.below (by go_split_ands; assumption)) HV7.out).mono ?_); rintro e w8 ⟨v8, rfl, hv8, hgr⟩; have HV8 := Lib.hid hv8; clear hv8)
          | (go_at_call 23; (with_reducible refine (HSB.out _ _ _ (HN2.out.below (by go_split_ands; assumption)) HV7.out).mono ?_); rintro e w8 ⟨v8, rfl, hv8, hgr⟩; have HV8 := Lib.hid hv8; clear hv8)
          | (go_at_call 17; (with_reducible refine (HA1.out _ v8 HV8.out).mono ?_); rintro e w9 ⟨rfl, hgr⟩)
          | (go_at_call 17; (with_reducible refine (HA2.out _ v8 HV8.out).mono ?_); rintro e w9 ⟨rfl, hgr⟩))
      all_goals
        have hB := (‹_ ∧ _ ∧ Below w2.heap.size w2 w9›).2.2
        go_wp2_with fail
        go_ret
        exact ⟨rfl, bt HB2.out hB⟩
  · have h0' : (2147483647 : Int) < l.length := by omega
    go_enter Tryz.func5, Tryz.ntmps5
    go_wp2_with fail
    go_ret
    exact ⟨rfl, Below.refl _ _⟩
end Go.Proofs.YthipbglnaalhmaaGreatDoor
