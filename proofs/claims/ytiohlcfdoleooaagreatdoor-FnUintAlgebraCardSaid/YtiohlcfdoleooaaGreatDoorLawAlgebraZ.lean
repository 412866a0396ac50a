/-
  The walk of laws.FnUintAlgebra.
-/
import Derived.Test.YtiohlcfdoleooaaGreatDoorAlgPureZ
import Derived.Test.YtiohlcfdoleooaaGreatDoorBn17Z
namespace Go.Proofs.YtiohlcfdoleooaaGreatDoor
open Go.RowKit

/-- What a text that spec.Uint takes is. -/
theorem uintOk_isG {l : List UInt8} (h : uintOk l = true) : overU (readZ l) = false ∧ outT (some (readZ l)) = l := by
  unfold uintOk intOk at h
  simp only [Bool.and_eq_true, decide_eq_true_eq] at h
  obtain ⟨⟨_, h2, h3⟩, h4⟩ := h
  refine ⟨?_, text_read h2⟩
  rw [overU_fits, decide_eq_true h3]
  simpa using h4

set_option maxRecDepth 100000 in
set_option maxHeartbeats 1000000 in
theorem alike_walk (X Y : List UInt8) (w : World) (h : Alike X Y) : Calls Tryz.prog 21 #[.string (S X), .string (S Y)] w fun e w' => e = .returned (.bool true) ∧ w' = w := by
  cases hX : X.isEmpty with
  | true =>
    clear h
    go_enter Tryz.func21, Tryz.ntmps21
    go_wp2_with fail
    go_ret
    exact ⟨rfl, rfl⟩
  | false =>
    cases hY : Y.isEmpty with
    | true =>
      clear h
      go_enter Tryz.func21, Tryz.ntmps21
      go_wp2_with fail
      go_ret
      exact ⟨rfl, rfl⟩
    | false =>
      have he : X = Y := by
        rcases h with h | h | h
        · rw [h] at hX; cases hX
        · rw [h] at hY; cases hY
        · exact h
      subst he
      clear h hY
      go_enter Tryz.func21, Tryz.ntmps21
      go_wp2_with fail
      go_ret
      exact ⟨rfl, rfl⟩
set_option maxRecDepth 100000 in
set_option maxHeartbeats 4000000 in
theorem fnUintAlgebra_walk (l1 l2 l3 : List UInt8) (p : Addr) (w : World) (hl1 : l1.length ≤ 140737488355328) (hl2 : l2.length ≤ 140737488355328) (hl3 : l3.length ≤ 140737488355328) (hp : EofIs w p) (hleaf : LeafIs w) (hkara : KaraIs w) (hdiv : DivIs w) :
    Calls Tryz.prog 4 #[.string (S l1), .string (S l2), .string (S l3)] w fun e w' => e = .returned (.bool true) ∧ Below w.heap.size w w' := by
  have HAW : Hid (∀ w', Below w.heap.size w w' → Calls Tryz.prog 15 #[] w' fun e w2 => e = .returned (.bool true) ∧ Below w.heap.size w w2) := Lib.hid fun w' hb => (uintAwake_walk p w' (hp.below hb) (hleaf.below hb)).mono (by rintro e w2 ⟨rfl, h⟩; exact ⟨rfl, bt hb h⟩)
  have HAL : Hid (∀ X Y w', Alike X Y → Below w.heap.size w w' → Calls Tryz.prog 21 #[.string (S X), .string (S Y)] w' fun e w2 => e = .returned (.bool true) ∧ Below w.heap.size w w2) := Lib.hid fun X Y w' h hb => (alike_walk X Y w' h).mono (by rintro e w2 ⟨rfl, h2⟩; subst h2; exact ⟨rfl, hb⟩)
  have HD : Hid (∀ (op : Nat) (i : Int), (op : Int) = i → ∀ (r1 r2 : Option Int) (T1 T2 T : List UInt8) (w' : World), op ≤ 6 → GoodU r1 → GoodU r2 → outT r1 = T1 → outT r2 = T2 → outT (dn op r1 r2) = T → Below w.heap.size w w' →
      Calls Tryz.prog 22 #[.int .i64 i, .string (S T1), .string (S T2)] w' fun e w2 => e = .returned (.string (S T)) ∧ Below w.heap.size w w2) := by
    refine Lib.hid fun op i hi r1 r2 T1 T2 T w' hop g1 g2 h1 h2 h3 hb => ?_
    subst hi h1 h2 h3
    exact (done_walk op r1 r2 p w' hop g1 g2 (hp.below hb) (hleaf.below hb) (hkara.below hb) (hdiv.below hb hdiv.lt)).mono (by rintro e w2 ⟨rfl, h⟩; exact ⟨rfl, bt hb h⟩)
  have HS1 := Lib.hid (fun w => specUint_walk l1 w hl1)
  have HS2 := Lib.hid (fun w => specUint_walk l2 w hl2)
  have HS3 := Lib.hid (fun w => specUint_walk l3 w hl3)
  clear hp hleaf hkara hdiv hl1 hl2 hl3
  by_cases h1 : l1.length ≤ 2147483647
  · by_cases h2 : l2.length ≤ 2147483647
    · by_cases h3 : l3.length ≤ 2147483647
      · have h1' : decide ((2147483647 : Int) < l1.length) = false := decide_eq_false (by omega)
        have h2' : decide ((2147483647 : Int) < l2.length) = false := decide_eq_false (by omega)
        have h3' : decide ((2147483647 : Int) < l3.length) = false := decide_eq_false (by omega)
        go_enter Tryz.func4, Tryz.ntmps4
        go_wp2_with fail
        go_loopw [8, 9, 10, 32] (fun _ _ _ iv wr => ∃ k : Nat, iv = .int .i64 (k : Int) ∧ k ≤ 3 ∧ ((1 ≤ k → uintOk l1 = true) ∧ (2 ≤ k → uintOk l2 = true) ∧ (3 ≤ k → uintOk l3 = true)) ∧ wr.heap[w.heap.size]? = some (.cells #[.string (S l1), .string (S l2), .string (S l3)] 9 (0, 0)) ∧ Below w.heap.size w wr) (fun _ _ _ iv _ => idxOf 3 iv)
        case atStart => exact ⟨0, rfl, by omega, ⟨by omega, by omega, by omega⟩, heap_here _ _, below_a1 _ _⟩
        case round =>
          obtain ⟨k, rfl, hk, hoks, hkb, hbw⟩ := hrel
          have HKB := Lib.hid hkb
          have HBW := Lib.hid hbw
          have HOK := Lib.hid hoks
          clear hoks
          rcases (show k = 0 ∨ k = 1 ∨ k = 2 ∨ k = 3 by omega) with rfl | rfl | rfl | rfl
          · have c0 := three0 hkb
            have e0 : ((0 : Nat) : Int) = 0 := rfl
            rw [e0]
            clear e0 hkb hbw
            cases ho : uintOk l1 with
            | false =>
              rw [ho] at HS1
              clear ho
              go_wp2_with fail
              refine (HS1.out _).mono ?_
              rintro e w1 ⟨b1, A1, n1, c1, rfl, hn1, hb1⟩
              have HB1 := Lib.hid (bt (bt HBW.out hb1) (below_a1 w1 (.cells #[.bool b1, .slice A1 n1 c1] 24)))
              clear hn1 hb1
              go_wp2_with fail
              refine (HAW.out _ HB1.out).mono ?_
              rintro e w2 ⟨rfl, hb2⟩
              go_wp2_with fail
              go_ret
              exact ⟨rfl, hb2⟩
            | true =>
              have HO := Lib.hid ho
              rw [ho] at HS1
              clear ho
              go_wp2_with fail
              refine (HS1.out _).mono ?_
              rintro e w1 ⟨b1, A1, n1, c1, rfl, hn1, hb1⟩
              have HB0 := Lib.hid (bt hb1 (below_a1 w1 (.cells #[.bool b1, .slice A1 n1 c1] 24)))
              clear hn1 hb1
              go_wp2_with fail
              exact ⟨⟨1, rfl, by omega, ⟨(by first | exact fun _ => HO.out | exact fun _ => trivial), by omega, by omega⟩, (HB0.out.block _ (iter_lt HKB.out)).trans HKB.out, bt HBW.out HB0.out⟩, by simp [idxOf]⟩
          · have c0 := three1 hkb
            have e0 : ((1 : Nat) : Int) = 1 := rfl
            rw [e0]
            clear e0 hkb hbw
            cases ho : uintOk l2 with
            | false =>
              rw [ho] at HS2
              clear ho
              go_wp2_with fail
              refine (HS2.out _).mono ?_
              rintro e w1 ⟨b1, A1, n1, c1, rfl, hn1, hb1⟩
              have HB1 := Lib.hid (bt (bt HBW.out hb1) (below_a1 w1 (.cells #[.bool b1, .slice A1 n1 c1] 24)))
              clear hn1 hb1
              go_wp2_with fail
              refine (HAW.out _ HB1.out).mono ?_
              rintro e w2 ⟨rfl, hb2⟩
              go_wp2_with fail
              go_ret
              exact ⟨rfl, hb2⟩
            | true =>
              have HO := Lib.hid ho
              rw [ho] at HS2
              clear ho
              go_wp2_with fail
              refine (HS2.out _).mono ?_
              rintro e w1 ⟨b1, A1, n1, c1, rfl, hn1, hb1⟩
              have HB0 := Lib.hid (bt hb1 (below_a1 w1 (.cells #[.bool b1, .slice A1 n1 c1] 24)))
              clear hn1 hb1
              go_wp2_with fail
              exact ⟨⟨2, rfl, by omega, ⟨fun _ => HOK.out.1 (by omega), (by first | exact fun _ => HO.out | exact fun _ => trivial), by omega⟩, (HB0.out.block _ (iter_lt HKB.out)).trans HKB.out, bt HBW.out HB0.out⟩, by simp [idxOf]⟩
          · have c0 := three2 hkb
            have e0 : ((2 : Nat) : Int) = 2 := rfl
            rw [e0]
            clear e0 hkb hbw
            cases ho : uintOk l3 with
            | false =>
              rw [ho] at HS3
              clear ho
              go_wp2_with fail
              refine (HS3.out _).mono ?_
              rintro e w1 ⟨b1, A1, n1, c1, rfl, hn1, hb1⟩
              have HB1 := Lib.hid (bt (bt HBW.out hb1) (below_a1 w1 (.cells #[.bool b1, .slice A1 n1 c1] 24)))
              clear hn1 hb1
              go_wp2_with fail
              refine (HAW.out _ HB1.out).mono ?_
              rintro e w2 ⟨rfl, hb2⟩
              go_wp2_with fail
              go_ret
              exact ⟨rfl, hb2⟩
            | true =>
              have HO := Lib.hid ho
              rw [ho] at HS3
              clear ho
              go_wp2_with fail
              refine (HS3.out _).mono ?_
              rintro e w1 ⟨b1, A1, n1, c1, rfl, hn1, hb1⟩
              have HB0 := Lib.hid (bt hb1 (below_a1 w1 (.cells #[.bool b1, .slice A1 n1 c1] 24)))
              clear hn1 hb1
              go_wp2_with fail
              exact ⟨⟨3, rfl, by omega, ⟨fun _ => HOK.out.1 (by omega), fun _ => HOK.out.2.1 (by omega), (by first | exact fun _ => HO.out | exact fun _ => trivial)⟩, (HB0.out.block _ (iter_lt HKB.out)).trans HKB.out, bt HBW.out HB0.out⟩, by simp [idxOf]⟩
          · have o1 := HOK.out.1 (by omega)
            have o2 := HOK.out.2.1 (by omega)
            have o3 := HOK.out.2.2 (by omega)
            obtain ⟨v1, x1⟩ := uintOk_isG o1
            obtain ⟨v2, x2⟩ := uintOk_isG o2
            obtain ⟨v3, x3⟩ := uintOk_isG o3
            obtain ⟨z1, hz1⟩ : ∃ z, readZ l1 = z := ⟨_, rfl⟩
            obtain ⟨z2, hz2⟩ : ∃ z, readZ l2 = z := ⟨_, rfl⟩
            obtain ⟨z3, hz3⟩ : ∃ z, readZ l3 = z := ⟨_, rfl⟩
            rw [hz1] at v1 x1
            rw [hz2] at v2 x2
            rw [hz3] at v3 x3
            have X1 := Lib.hid x1
            have X2 := Lib.hid x2
            have X3 := Lib.hid x3
            have G1 : Hid (GoodU (some z1)) := Lib.hid fun z h => by injection h with h; subst h; exact v1
            have G2 : Hid (GoodU (some z2)) := Lib.hid fun z h => by injection h with h; subst h; exact v2
            have G3 : Hid (GoodU (some z3)) := Lib.hid fun z h => by injection h with h; subst h; exact v3
            obtain ⟨Tab, hTab⟩ : ∃ T, outT (dn 0 (some z1) (some z2)) = T := ⟨_, rfl⟩
            have ETab := Lib.hid hTab
            obtain ⟨Mab, hMab⟩ : ∃ T, outT (dn 2 (some z1) (some z2)) = T := ⟨_, rfl⟩
            have EMab := Lib.hid hMab
            obtain ⟨T1, hT1⟩ : ∃ T, outT (dn 0 (dn 0 (some z1) (some z2)) (some z3)) = T := ⟨_, rfl⟩
            have ET1 := Lib.hid hT1
            obtain ⟨Tbc, hTbc⟩ : ∃ T, outT (dn 0 (some z2) (some z3)) = T := ⟨_, rfl⟩
            have ETbc := Lib.hid hTbc
            obtain ⟨T2, hT2⟩ : ∃ T, outT (dn 0 (some z1) (dn 0 (some z2) (some z3))) = T := ⟨_, rfl⟩
            have ET2 := Lib.hid hT2
            obtain ⟨M1, hM1⟩ : ∃ T, outT (dn 2 (dn 2 (some z1) (some z2)) (some z3)) = T := ⟨_, rfl⟩
            have EM1 := Lib.hid hM1
            obtain ⟨Mbc, hMbc⟩ : ∃ T, outT (dn 2 (some z2) (some z3)) = T := ⟨_, rfl⟩
            have EMbc := Lib.hid hMbc
            obtain ⟨M2, hM2⟩ : ∃ T, outT (dn 2 (some z1) (dn 2 (some z2) (some z3))) = T := ⟨_, rfl⟩
            have EM2 := Lib.hid hM2
            obtain ⟨D1, hD1⟩ : ∃ T, outT (dn 2 (some z1) (dn 0 (some z2) (some z3))) = T := ⟨_, rfl⟩
            have ED1 := Lib.hid hD1
            obtain ⟨Mac, hMac⟩ : ∃ T, outT (dn 2 (some z1) (some z3)) = T := ⟨_, rfl⟩
            have EMac := Lib.hid hMac
            obtain ⟨D2, hD2⟩ : ∃ T, outT (dn 0 (dn 2 (some z1) (some z2)) (dn 2 (some z1) (some z3))) = T := ⟨_, rfl⟩
            have ED2 := Lib.hid hD2
            obtain ⟨Qq, hQq⟩ : ∃ T, outT (dn 3 (some z1) (some z2)) = T := ⟨_, rfl⟩
            have EQq := Lib.hid hQq
            obtain ⟨Qm, hQm⟩ : ∃ T, outT (dn 2 (dn 3 (some z1) (some z2)) (some z2)) = T := ⟨_, rfl⟩
            have EQm := Lib.hid hQm
            obtain ⟨Rr, hRr⟩ : ∃ T, outT (dn 4 (some z1) (some z2)) = T := ⟨_, rfl⟩
            have ERr := Lib.hid hRr
            obtain ⟨S1, hS1⟩ : ∃ T, outT (dn 1 (some z1) (some z2)) = T := ⟨_, rfl⟩
            have ES1 := Lib.hid hS1
            obtain ⟨S2, hS2⟩ : ∃ T, outT (dn 0 (dn 1 (some z1) (some z2)) (some z2)) = T := ⟨_, rfl⟩
            have ES2 := Lib.hid hS2
            obtain ⟨N1, hN1⟩ : ∃ T, outT (dn 5 (some z1) (some z2)) = T := ⟨_, rfl⟩
            have EN1 := Lib.hid hN1
            obtain ⟨N2, hN2⟩ : ∃ T, outT (dn 6 (some z1) (some z2)) = T := ⟨_, rfl⟩
            have EN2 := Lib.hid hN2
            have A1 := Lib.hid (alg_assoc_add z1 z2 z3)
            have A2 := Lib.hid (alg_assoc_mul z1 z2 z3)
            have A3 := Lib.hid (alg_distrib z1 z2 z3)
            have A4 := Lib.hid (alg_sub z1 z2 v1)
            rw [hT1, hT2] at A1
            rw [hM1, hM2] at A2
            rw [hD1, hD2] at A3
            rw [hS2, x1] at A4
            have Eba : Hid (outT (dn 0 (some z2) (some z1)) = Tab) := Lib.hid (by rw [alg_comm_add]; exact hTab)
            have Fba : Hid (outT (dn 2 (some z2) (some z1)) = Mab) := Lib.hid (by rw [alg_comm_mul]; exact hMab)
            have Emo : Hid (outT (dn 0 (dn 5 (some z1) (some z2)) (dn 6 (some z1) (some z2))) = Tab) := Lib.hid (by rw [alg_most z1 z2 v1 v2]; exact hTab)
            have EQ : Hid (z2 ≠ 0 → outT (dn 0 (dn 2 (dn 3 (some z1) (some z2)) (some z2)) (dn 4 (some z1) (some z2))) = l1) := Lib.hid fun h => by rw [alg_quo z1 z2 v1 v2 h]; exact x1
            have hb0 : l2 = [48] ↔ z2 = 0 := by
              constructor
              · intro h; rw [← hz2, h]; decide
              · intro h; rw [← x2, h]; show zText 0 = [48]; unfold zText numText; rw [Int.natAbs_zero, toD_zero]; rfl
            have HB0 := Lib.hid hb0
            have e0 : ((3 : Nat) : Int) = 3 := rfl
            rw [e0]
            clear e0 o1 o2 o3 v1 v2 v3 x1 x2 x3 hz1 hz2 hz3 hb0 hkb hbw HS1 HS2 HS3 HOK HKB hTab hMab hT1 hTbc hT2 hM1 hMbc hM2 hD1 hMac hD2 hQq hQm hRr hS1 hS2 hN1 hN2
            by_cases h48 : l2 = [48]
            · have hq : (l2 == [48]) = true := beq_iff_eq.2 h48
              have HQ := Lib.hid hq
              clear h48
              go_wp2_with fail
              refine (HAW.out _ HBW.out).mono ?_
              rintro e u1 ⟨rfl, hc1⟩
              have HC1 := Lib.hid hc1
              clear hc1
              go_wp2_with fail
              refine (HD.out 0 0 rfl (some z1) (some z2) _ _ _ _ (by decide) G1.out G2.out X1.out X2.out ETab.out HC1.out).mono ?_
              rintro e u2 ⟨rfl, hc2⟩
              have HC2 := Lib.hid hc2
              clear hc2
              go_wp2_with fail
              refine (HD.out 0 0 rfl (some z2) (some z1) _ _ _ _ (by decide) G2.out G1.out X2.out X1.out Eba.out HC2.out).mono ?_
              rintro e u3 ⟨rfl, hc3⟩
              have HC3 := Lib.hid hc3
              clear hc3
              go_wp2_with fail
              refine (HD.out 2 2 rfl (some z1) (some z2) _ _ _ _ (by decide) G1.out G2.out X1.out X2.out EMab.out HC3.out).mono ?_
              rintro e u4 ⟨rfl, hc4⟩
              have HC4 := Lib.hid hc4
              clear hc4
              go_wp2_with fail
              refine (HD.out 2 2 rfl (some z2) (some z1) _ _ _ _ (by decide) G2.out G1.out X2.out X1.out Fba.out HC4.out).mono ?_
              rintro e u5 ⟨rfl, hc5⟩
              have HC5 := Lib.hid hc5
              clear hc5
              go_wp2_with fail
              refine (HD.out 0 0 rfl (some z1) (some z2) _ _ _ _ (by decide) G1.out G2.out X1.out X2.out ETab.out HC5.out).mono ?_
              rintro e u6 ⟨rfl, hc6⟩
              have HC6 := Lib.hid hc6
              clear hc6
              go_wp2_with fail
              refine (HD.out 0 0 rfl (dn 0 (some z1) (some z2)) (some z3) _ _ _ _ (by decide) (goodU_dn _ _ _) G3.out ETab.out X3.out ET1.out HC6.out).mono ?_
              rintro e u7 ⟨rfl, hc7⟩
              have HC7 := Lib.hid hc7
              clear hc7
              go_wp2_with fail
              refine (HD.out 0 0 rfl (some z2) (some z3) _ _ _ _ (by decide) G2.out G3.out X2.out X3.out ETbc.out HC7.out).mono ?_
              rintro e u8 ⟨rfl, hc8⟩
              have HC8 := Lib.hid hc8
              clear hc8
              go_wp2_with fail
              refine (HD.out 0 0 rfl (some z1) (dn 0 (some z2) (some z3)) _ _ _ _ (by decide) G1.out (goodU_dn _ _ _) X1.out ETbc.out ET2.out HC8.out).mono ?_
              rintro e u9 ⟨rfl, hc9⟩
              have HC9 := Lib.hid hc9
              clear hc9
              go_wp2_with fail
              refine (HAL.out _ _ _ A1.out HC9.out).mono ?_
              rintro e u10 ⟨rfl, hc10⟩
              have HC10 := Lib.hid hc10
              clear hc10
              go_wp2_with fail
              refine (HD.out 2 2 rfl (some z1) (some z2) _ _ _ _ (by decide) G1.out G2.out X1.out X2.out EMab.out HC10.out).mono ?_
              rintro e u11 ⟨rfl, hc11⟩
              have HC11 := Lib.hid hc11
              clear hc11
              go_wp2_with fail
              refine (HD.out 2 2 rfl (dn 2 (some z1) (some z2)) (some z3) _ _ _ _ (by decide) (goodU_dn _ _ _) G3.out EMab.out X3.out EM1.out HC11.out).mono ?_
              rintro e u12 ⟨rfl, hc12⟩
              have HC12 := Lib.hid hc12
              clear hc12
              go_wp2_with fail
              refine (HD.out 2 2 rfl (some z2) (some z3) _ _ _ _ (by decide) G2.out G3.out X2.out X3.out EMbc.out HC12.out).mono ?_
              rintro e u13 ⟨rfl, hc13⟩
              have HC13 := Lib.hid hc13
              clear hc13
              go_wp2_with fail
              refine (HD.out 2 2 rfl (some z1) (dn 2 (some z2) (some z3)) _ _ _ _ (by decide) G1.out (goodU_dn _ _ _) X1.out EMbc.out EM2.out HC13.out).mono ?_
              rintro e u14 ⟨rfl, hc14⟩
              have HC14 := Lib.hid hc14
              clear hc14
              go_wp2_with fail
              refine (HAL.out _ _ _ A2.out HC14.out).mono ?_
              rintro e u15 ⟨rfl, hc15⟩
              have HC15 := Lib.hid hc15
              clear hc15
              go_wp2_with fail
              refine (HD.out 0 0 rfl (some z2) (some z3) _ _ _ _ (by decide) G2.out G3.out X2.out X3.out ETbc.out HC15.out).mono ?_
              rintro e u16 ⟨rfl, hc16⟩
              have HC16 := Lib.hid hc16
              clear hc16
              go_wp2_with fail
              refine (HD.out 2 2 rfl (some z1) (dn 0 (some z2) (some z3)) _ _ _ _ (by decide) G1.out (goodU_dn _ _ _) X1.out ETbc.out ED1.out HC16.out).mono ?_
              rintro e u17 ⟨rfl, hc17⟩
              have HC17 := Lib.hid hc17
              clear hc17
              go_wp2_with fail
              refine (HD.out 2 2 rfl (some z1) (some z2) _ _ _ _ (by decide) G1.out G2.out X1.out X2.out EMab.out HC17.out).mono ?_
              rintro e u18 ⟨rfl, hc18⟩
              have HC18 := Lib.hid hc18
              clear hc18
              go_wp2_with fail
              refine (HD.out 2 2 rfl (some z1) (some z3) _ _ _ _ (by decide) G1.out G3.out X1.out X3.out EMac.out HC18.out).mono ?_
              rintro e u19 ⟨rfl, hc19⟩
              have HC19 := Lib.hid hc19
              clear hc19
              go_wp2_with fail
              refine (HD.out 0 0 rfl (dn 2 (some z1) (some z2)) (dn 2 (some z1) (some z3)) _ _ _ _ (by decide) (goodU_dn _ _ _) (goodU_dn _ _ _) EMab.out EMac.out ED2.out HC19.out).mono ?_
              rintro e u20 ⟨rfl, hc20⟩
              have HC20 := Lib.hid hc20
              clear hc20
              go_wp2_with fail
              refine (HAL.out _ _ _ A3.out HC20.out).mono ?_
              rintro e u21 ⟨rfl, hc21⟩
              have HC21 := Lib.hid hc21
              clear hc21
              go_wp2_with fail
              refine (HD.out 1 1 rfl (some z1) (some z2) _ _ _ _ (by decide) G1.out G2.out X1.out X2.out ES1.out HC21.out).mono ?_
              rintro e u22 ⟨rfl, hc22⟩
              have HC22 := Lib.hid hc22
              clear hc22
              go_wp2_with fail
              refine (HD.out 0 0 rfl (dn 1 (some z1) (some z2)) (some z2) _ _ _ _ (by decide) (goodU_dn _ _ _) G2.out ES1.out X2.out ES2.out HC22.out).mono ?_
              rintro e u23 ⟨rfl, hc23⟩
              have HC23 := Lib.hid hc23
              clear hc23
              go_wp2_with fail
              refine (HAL.out _ _ _ A4.out HC23.out).mono ?_
              rintro e u24 ⟨rfl, hc24⟩
              have HC24 := Lib.hid hc24
              clear hc24
              go_wp2_with fail
              refine (HD.out 5 5 rfl (some z1) (some z2) _ _ _ _ (by decide) G1.out G2.out X1.out X2.out EN1.out HC24.out).mono ?_
              rintro e u25 ⟨rfl, hc25⟩
              have HC25 := Lib.hid hc25
              clear hc25
              go_wp2_with fail
              refine (HD.out 6 6 rfl (some z1) (some z2) _ _ _ _ (by decide) G1.out G2.out X1.out X2.out EN2.out HC25.out).mono ?_
              rintro e u26 ⟨rfl, hc26⟩
              have HC26 := Lib.hid hc26
              clear hc26
              go_wp2_with fail
              refine (HD.out 0 0 rfl (dn 5 (some z1) (some z2)) (dn 6 (some z1) (some z2)) _ _ _ _ (by decide) (goodU_dn _ _ _) (goodU_dn _ _ _) EN1.out EN2.out Emo.out HC26.out).mono ?_
              rintro e u27 ⟨rfl, hc27⟩
              have HC27 := Lib.hid hc27
              clear hc27
              go_wp2_with fail
              refine (HD.out 0 0 rfl (some z1) (some z2) _ _ _ _ (by decide) G1.out G2.out X1.out X2.out ETab.out HC27.out).mono ?_
              rintro e u28 ⟨rfl, hc28⟩
              have HC28 := Lib.hid hc28
              clear hc28
              go_wp2_with fail
              go_ret
              exact ⟨rfl, HC28.out⟩
            · have HZ2 : Hid (z2 ≠ 0) := Lib.hid fun h => h48 (HB0.out.2 h)
              have hq : (l2 == [48]) = false := beq_eq_false_iff_ne.2 h48
              clear h48
              go_wp2_with fail
              refine (HAW.out _ HBW.out).mono ?_
              rintro e u1 ⟨rfl, hc1⟩
              have HC1 := Lib.hid hc1
              clear hc1
              go_wp2_with fail
              refine (HD.out 0 0 rfl (some z1) (some z2) _ _ _ _ (by decide) G1.out G2.out X1.out X2.out ETab.out HC1.out).mono ?_
              rintro e u2 ⟨rfl, hc2⟩
              have HC2 := Lib.hid hc2
              clear hc2
              go_wp2_with fail
              refine (HD.out 0 0 rfl (some z2) (some z1) _ _ _ _ (by decide) G2.out G1.out X2.out X1.out Eba.out HC2.out).mono ?_
              rintro e u3 ⟨rfl, hc3⟩
              have HC3 := Lib.hid hc3
              clear hc3
              go_wp2_with fail
              refine (HD.out 2 2 rfl (some z1) (some z2) _ _ _ _ (by decide) G1.out G2.out X1.out X2.out EMab.out HC3.out).mono ?_
              rintro e u4 ⟨rfl, hc4⟩
              have HC4 := Lib.hid hc4
              clear hc4
              go_wp2_with fail
              refine (HD.out 2 2 rfl (some z2) (some z1) _ _ _ _ (by decide) G2.out G1.out X2.out X1.out Fba.out HC4.out).mono ?_
              rintro e u5 ⟨rfl, hc5⟩
              have HC5 := Lib.hid hc5
              clear hc5
              go_wp2_with fail
              refine (HD.out 0 0 rfl (some z1) (some z2) _ _ _ _ (by decide) G1.out G2.out X1.out X2.out ETab.out HC5.out).mono ?_
              rintro e u6 ⟨rfl, hc6⟩
              have HC6 := Lib.hid hc6
              clear hc6
              go_wp2_with fail
              refine (HD.out 0 0 rfl (dn 0 (some z1) (some z2)) (some z3) _ _ _ _ (by decide) (goodU_dn _ _ _) G3.out ETab.out X3.out ET1.out HC6.out).mono ?_
              rintro e u7 ⟨rfl, hc7⟩
              have HC7 := Lib.hid hc7
              clear hc7
              go_wp2_with fail
              refine (HD.out 0 0 rfl (some z2) (some z3) _ _ _ _ (by decide) G2.out G3.out X2.out X3.out ETbc.out HC7.out).mono ?_
              rintro e u8 ⟨rfl, hc8⟩
              have HC8 := Lib.hid hc8
              clear hc8
              go_wp2_with fail
              refine (HD.out 0 0 rfl (some z1) (dn 0 (some z2) (some z3)) _ _ _ _ (by decide) G1.out (goodU_dn _ _ _) X1.out ETbc.out ET2.out HC8.out).mono ?_
              rintro e u9 ⟨rfl, hc9⟩
              have HC9 := Lib.hid hc9
              clear hc9
              go_wp2_with fail
              refine (HAL.out _ _ _ A1.out HC9.out).mono ?_
              rintro e u10 ⟨rfl, hc10⟩
              have HC10 := Lib.hid hc10
              clear hc10
              go_wp2_with fail
              refine (HD.out 2 2 rfl (some z1) (some z2) _ _ _ _ (by decide) G1.out G2.out X1.out X2.out EMab.out HC10.out).mono ?_
              rintro e u11 ⟨rfl, hc11⟩
              have HC11 := Lib.hid hc11
              clear hc11
              go_wp2_with fail
              refine (HD.out 2 2 rfl (dn 2 (some z1) (some z2)) (some z3) _ _ _ _ (by decide) (goodU_dn _ _ _) G3.out EMab.out X3.out EM1.out HC11.out).mono ?_
              rintro e u12 ⟨rfl, hc12⟩
              have HC12 := Lib.hid hc12
              clear hc12
              go_wp2_with fail
              refine (HD.out 2 2 rfl (some z2) (some z3) _ _ _ _ (by decide) G2.out G3.out X2.out X3.out EMbc.out HC12.out).mono ?_
              rintro e u13 ⟨rfl, hc13⟩
              have HC13 := Lib.hid hc13
              clear hc13
              go_wp2_with fail
              refine (HD.out 2 2 rfl (some z1) (dn 2 (some z2) (some z3)) _ _ _ _ (by decide) G1.out (goodU_dn _ _ _) X1.out EMbc.out EM2.out HC13.out).mono ?_
              rintro e u14 ⟨rfl, hc14⟩
              have HC14 := Lib.hid hc14
              clear hc14
              go_wp2_with fail
              refine (HAL.out _ _ _ A2.out HC14.out).mono ?_
              rintro e u15 ⟨rfl, hc15⟩
              have HC15 := Lib.hid hc15
              clear hc15
              go_wp2_with fail
              refine (HD.out 0 0 rfl (some z2) (some z3) _ _ _ _ (by decide) G2.out G3.out X2.out X3.out ETbc.out HC15.out).mono ?_
              rintro e u16 ⟨rfl, hc16⟩
              have HC16 := Lib.hid hc16
              clear hc16
              go_wp2_with fail
              refine (HD.out 2 2 rfl (some z1) (dn 0 (some z2) (some z3)) _ _ _ _ (by decide) G1.out (goodU_dn _ _ _) X1.out ETbc.out ED1.out HC16.out).mono ?_
              rintro e u17 ⟨rfl, hc17⟩
              have HC17 := Lib.hid hc17
              clear hc17
              go_wp2_with fail
              refine (HD.out 2 2 rfl (some z1) (some z2) _ _ _ _ (by decide) G1.out G2.out X1.out X2.out EMab.out HC17.out).mono ?_
              rintro e u18 ⟨rfl, hc18⟩
              have HC18 := Lib.hid hc18
              clear hc18
              go_wp2_with fail
              refine (HD.out 2 2 rfl (some z1) (some z3) _ _ _ _ (by decide) G1.out G3.out X1.out X3.out EMac.out HC18.out).mono ?_
              rintro e u19 ⟨rfl, hc19⟩
              have HC19 := Lib.hid hc19
              clear hc19
              go_wp2_with fail
              refine (HD.out 0 0 rfl (dn 2 (some z1) (some z2)) (dn 2 (some z1) (some z3)) _ _ _ _ (by decide) (goodU_dn _ _ _) (goodU_dn _ _ _) EMab.out EMac.out ED2.out HC19.out).mono ?_
              rintro e u20 ⟨rfl, hc20⟩
              have HC20 := Lib.hid hc20
              clear hc20
              go_wp2_with fail
              refine (HAL.out _ _ _ A3.out HC20.out).mono ?_
              rintro e u21 ⟨rfl, hc21⟩
              have HC21 := Lib.hid hc21
              clear hc21
              go_wp2_with fail
              refine (HD.out 3 3 rfl (some z1) (some z2) _ _ _ _ (by decide) G1.out G2.out X1.out X2.out EQq.out HC21.out).mono ?_
              rintro e u22 ⟨rfl, hc22⟩
              have HC22 := Lib.hid hc22
              clear hc22
              go_wp2_with fail
              refine (HD.out 2 2 rfl (dn 3 (some z1) (some z2)) (some z2) _ _ _ _ (by decide) (goodU_dn _ _ _) G2.out EQq.out X2.out EQm.out HC22.out).mono ?_
              rintro e u23 ⟨rfl, hc23⟩
              have HC23 := Lib.hid hc23
              clear hc23
              go_wp2_with fail
              refine (HD.out 4 4 rfl (some z1) (some z2) _ _ _ _ (by decide) G1.out G2.out X1.out X2.out ERr.out HC23.out).mono ?_
              rintro e u24 ⟨rfl, hc24⟩
              have HC24 := Lib.hid hc24
              clear hc24
              go_wp2_with fail
              refine (HD.out 0 0 rfl (dn 2 (dn 3 (some z1) (some z2)) (some z2)) (dn 4 (some z1) (some z2)) _ _ _ _ (by decide) (goodU_dn _ _ _) (goodU_dn _ _ _) EQm.out ERr.out (EQ.out HZ2.out) HC24.out).mono ?_
              rintro e u25 ⟨rfl, hc25⟩
              have HC25 := Lib.hid hc25
              clear hc25
              go_wp2_with fail
              refine (HD.out 1 1 rfl (some z1) (some z2) _ _ _ _ (by decide) G1.out G2.out X1.out X2.out ES1.out HC25.out).mono ?_
              rintro e u26 ⟨rfl, hc26⟩
              have HC26 := Lib.hid hc26
              clear hc26
              go_wp2_with fail
              refine (HD.out 0 0 rfl (dn 1 (some z1) (some z2)) (some z2) _ _ _ _ (by decide) (goodU_dn _ _ _) G2.out ES1.out X2.out ES2.out HC26.out).mono ?_
              rintro e u27 ⟨rfl, hc27⟩
              have HC27 := Lib.hid hc27
              clear hc27
              go_wp2_with fail
              refine (HAL.out _ _ _ A4.out HC27.out).mono ?_
              rintro e u28 ⟨rfl, hc28⟩
              have HC28 := Lib.hid hc28
              clear hc28
              go_wp2_with fail
              refine (HD.out 5 5 rfl (some z1) (some z2) _ _ _ _ (by decide) G1.out G2.out X1.out X2.out EN1.out HC28.out).mono ?_
              rintro e u29 ⟨rfl, hc29⟩
              have HC29 := Lib.hid hc29
              clear hc29
              go_wp2_with fail
              refine (HD.out 6 6 rfl (some z1) (some z2) _ _ _ _ (by decide) G1.out G2.out X1.out X2.out EN2.out HC29.out).mono ?_
              rintro e u30 ⟨rfl, hc30⟩
              have HC30 := Lib.hid hc30
              clear hc30
              go_wp2_with fail
              refine (HD.out 0 0 rfl (dn 5 (some z1) (some z2)) (dn 6 (some z1) (some z2)) _ _ _ _ (by decide) (goodU_dn _ _ _) (goodU_dn _ _ _) EN1.out EN2.out Emo.out HC30.out).mono ?_
              rintro e u31 ⟨rfl, hc31⟩
              have HC31 := Lib.hid hc31
              clear hc31
              go_wp2_with fail
              refine (HD.out 0 0 rfl (some z1) (some z2) _ _ _ _ (by decide) G1.out G2.out X1.out X2.out ETab.out HC31.out).mono ?_
              rintro e u32 ⟨rfl, hc32⟩
              have HC32 := Lib.hid hc32
              clear hc32
              go_wp2_with fail
              go_ret
              exact ⟨rfl, HC32.out⟩
      · have h1' : decide ((2147483647 : Int) < l1.length) = false := decide_eq_false (by omega)
        have h2' : decide ((2147483647 : Int) < l2.length) = false := decide_eq_false (by omega)
        have h3' : decide ((2147483647 : Int) < l3.length) = true := decide_eq_true (by omega)
        go_enter Tryz.func4, Tryz.ntmps4
        go_wp2_with fail
        go_ret
        exact ⟨rfl, Below.refl _ _⟩
    · have h1' : decide ((2147483647 : Int) < l1.length) = false := decide_eq_false (by omega)
      have h2' : decide ((2147483647 : Int) < l2.length) = true := decide_eq_true (by omega)
      go_enter Tryz.func4, Tryz.ntmps4
      go_wp2_with fail
      go_ret
      exact ⟨rfl, Below.refl _ _⟩
  · have h1' : decide ((2147483647 : Int) < l1.length) = true := decide_eq_true (by omega)
    go_enter Tryz.func4, Tryz.ntmps4
    go_wp2_with fail
    go_ret
    exact ⟨rfl, Below.refl _ _⟩
end Go.Proofs.YtiohlcfdoleooaaGreatDoor
