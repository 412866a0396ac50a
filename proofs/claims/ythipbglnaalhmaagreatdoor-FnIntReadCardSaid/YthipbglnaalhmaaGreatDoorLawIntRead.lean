/-
  The walk of laws.FnIntRead.
-/
import Derived.Test.YthipbglnaalhmaaGreatDoorIntAwake
import Derived.Test.YthipbglnaalhmaaGreatDoorTold
namespace Go.Proofs.YthipbglnaalhmaaGreatDoor
open Go.RowKit

theorem read_lenI (l : List UInt8) : (readDs l).length ≤ l.length := by
  unfold readDs
  split
  · unfold digitsRes
    split
    · have h1 := trimN_length (digsOf (readBody l))
      have h2 : (digsOf (readBody l)).length = (readBody l).length := by simp [digsOf]
      have h3 : (readBody l).length ≤ l.length := by unfold readBody; split <;> simp
      omega
    · simp
  · simp

set_option maxRecDepth 100000 in
set_option maxHeartbeats 4000000 in
theorem fnIntRead_walk (l : List UInt8) (p : Addr) (w : World) (hl : l.length ≤ 140737488355328) (hp : EofIs w p) (hleaf : LeafIs w) :
    Calls Tryz.prog 7 #[.string (S l)] w fun e w' => e = .returned (.bool true) ∧ Below w.heap.size w w' := by
  have HAW := Lib.hid (fun (w' : World) (h1 : EofIs w' p) (h2 : LeafIs w') => intAwake_walk p w' h1 h2)
  by_cases h0 : l.length ≤ 2147483647
  · have h0' : ¬ (2147483647 : Int) < l.length := by omega
    cases hok : readOk l with
    | false =>
      have HP := Lib.hid hp
      have HLF := Lib.hid hleaf
      clear hp hleaf
      go_enter Tryz.func7, Tryz.ntmps7
      go_wp2_with fail
      refine (read_walk l _ hl).mono ?_
      rw [hok]
      rintro e w1 ⟨v, rfl, ⟨A, c, rfl, hc1, hc2, hrd⟩, hb⟩
      go_wp2_with fail
      refine (HAW.out _ (HP.out.below (bt hb (below_a1 _ _))) (HLF.out.below (bt hb (below_a1 _ _)))).mono ?_
      rintro e w2 ⟨rfl, hb2⟩
      go_wp2_with fail
      go_ret
      exact ⟨rfl, bt (bt hb (below_a1 _ _)) hb2⟩
    | true =>
      by_cases h90 : l.length ≤ 90
      · have h90' : decide ((90 : Int) < l.length) = false := decide_eq_false (by omega)
        obtain ⟨hn1, hn2⟩ := read_num hok
        have hr := read_walk l w hl
        rw [hok, hn1, hn2] at hr
        have hrd := fun (w' : World) (h1 : EofIs w' p) (h2 : LeafIs w') => intRead_walk l p w' hok (by omega) h1 h2
        have hov := overI_fits (readZ l)
        have hdl : (toD 10 (readZ l).natAbs).length ≤ 1000000 := by
          have h1 := read_lenI l
          rw [hn2] at h1
          omega
        have hro : (!overI (readZ l)) = true → readOutI l = zText (readZ l) := fun h => by
          unfold readOutI
          rw [if_neg (by intro h2; rw [h2] at h; exact absurd h (by decide))]
        obtain ⟨z, hz⟩ : ∃ z, readZ l = z := ⟨_, rfl⟩
        obtain ⟨o, ho⟩ : ∃ o, (!overI z) = o := ⟨_, rfl⟩
        obtain ⟨T, hT⟩ : ∃ T, readOutI l = T := ⟨_, rfl⟩
        rw [hz] at hr hrd hov hdl hro
        rw [ho, hT] at hrd hro
        have hoo : o = (true && decide (z.natAbs < 2 ^ 256)) := by rw [← ho, hov]; cases decide (z.natAbs < 2 ^ 256) <;> rfl
        have HAS := Lib.hid (fun (w' : World) (v : Value) (h1 : IsNum w' v z) => told_walk T o z v true w' h1 hdl hoo hro)
        have HRD := Lib.hid hrd
        have HR := Lib.hid hr
        have HP := Lib.hid hp
        have HLF := Lib.hid hleaf
        clear hr hrd hov hdl hro hoo hp hleaf hn1 hn2 hz ho hT hok
        go_enter Tryz.func7, Tryz.ntmps7
        go_wp2_with fail
        refine HR.out.mono ?_
        rintro e w1 ⟨v, rfl, ⟨A, c, rfl, hc1, hc2, hrd⟩, hb⟩
        have HNUM : Hid (IsNum w1 (.agg #[.bool (decide (z < 0)), .slice A (toD 10 z.natAbs).length c]) z) := Lib.hid ⟨A, c, rfl, hc1, hc2, hrd⟩
        have HB1 := Lib.hid (bt hb (below_a1 w1 (.cells #[.bool (decide (z < 0)), .slice A (toD 10 z.natAbs).length c] 29)))
        obtain ⟨b, hbb⟩ : ∃ b, decide (z < 0) = b := ⟨_, rfl⟩
        obtain ⟨k, hkk⟩ : ∃ k, (toD 10 z.natAbs).length = k := ⟨_, rfl⟩
        rw [hbb, hkk] at HNUM HB1
        rw [hbb, hkk]
        have hk := heap_here w1 (.cells #[.bool b, .slice A k c] 29)
        have HK := Lib.hid hk
        clear hb hc1 hc2 hrd hbb hkk hk
        go_wp2_with fail
        refine (HRD.out _ (HP.out.below HB1.out) (HLF.out.below HB1.out)).mono ?_
        rintro e w2 ⟨rfl, hb2⟩
        have HB2 := Lib.hid hb2
        clear hb2
        go_wp2_with fail
        refine (HAW.out _ (HP.out.below (bt HB1.out HB2.out)) (HLF.out.below (bt HB1.out HB2.out))).mono ?_
        rintro e w3 ⟨rfl, hb3⟩
        have hb13 := bt HB2.out hb3
        have hk3 := (hb13.block w1.heap.size (by rw [heap_size_alloc]; omega)).trans HK.out
        have c0 := num_cell0 hk3
        have c1 := num_cell1 hk3
        have HB3 := Lib.hid (bt HB1.out hb13)
        have HN3 := Lib.hid ((HNUM.out.below (below_a1 _ _)).below hb13)
        clear hb3 hb13 hk3
        go_wp2_with fail
        refine (HAS.out _ _ HN3.out).mono ?_
        rintro e w4 ⟨rfl, hb4⟩
        have HB4 := Lib.hid (bt HB3.out hb4)
        clear hb4 c0 c1
        go_wp2_with fail
        go_ret
        exact ⟨rfl, HB4.out⟩
      · have h90' : decide ((90 : Int) < l.length) = true := decide_eq_true (by omega)
        have HP := Lib.hid hp
        have HLF := Lib.hid hleaf
        clear hp hleaf
        go_enter Tryz.func7, Tryz.ntmps7
        go_wp2_with fail
        refine (read_walk l _ hl).mono ?_
        rw [hok]
        rintro e w1 ⟨v, rfl, ⟨A, c, rfl, hc1, hc2, hrd⟩, hb⟩
        go_wp2_with fail
        refine (HAW.out _ (HP.out.below (bt hb (below_a1 _ _))) (HLF.out.below (bt hb (below_a1 _ _)))).mono ?_
        rintro e w2 ⟨rfl, hb2⟩
        go_wp2_with fail
        go_ret
        exact ⟨rfl, bt (bt hb (below_a1 _ _)) hb2⟩
  · have h0' : (2147483647 : Int) < l.length := by omega
    go_enter Tryz.func7, Tryz.ntmps7
    go_wp2_with fail
    go_ret
    exact ⟨rfl, Below.refl _ _⟩
end Go.Proofs.YthipbglnaalhmaaGreatDoor
