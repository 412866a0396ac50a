/-
  The walk of laws.FnIntRing.
-/
import Derived.Test.YtiohlcfdoleooaaGreatDoorRingAZ
import Derived.Test.YtiohlcfdoleooaaGreatDoorBn17Z
namespace Go.Proofs.YtiohlcfdoleooaaGreatDoor
open Go.RowKit

/-- What a text that spec.Int takes is. -/
theorem intOk_isG {l : List UInt8} (h : intOk l = true) : overI (readZ l) = false ∧ zText (readZ l) = l := by
  unfold intOk at h
  simp only [Bool.and_eq_true, decide_eq_true_eq] at h
  obtain ⟨_, h2, h3⟩ := h
  refine ⟨?_, text_read h2⟩
  rw [overI_fits, decide_eq_true h3]
  rfl

set_option maxRecDepth 100000 in
set_option maxHeartbeats 8000000 in
theorem fnIntRing_walk (l1 l2 l3 : List UInt8) (p e1 e2 : Addr) (w : World) (hl1 : l1.length ≤ 140737488355328) (hl2 : l2.length ≤ 140737488355328) (hl3 : l3.length ≤ 140737488355328) (hp : EofIs w p) (hleaf : LeafIs w) (hkara : KaraIs w) (hdiv : DivIs w) (herr : ErrsAre w e1 e2) :
    Calls Tryz.prog 10 #[.string (S l1), .string (S l2), .string (S l3)] w fun e w' => e = .returned (.bool true) ∧ Below w.heap.size w w' := by
  have HAW : Hid (∀ w', Below w.heap.size w w' → Calls Tryz.prog 27 #[] w' fun e w2 => e = .returned (.bool true) ∧ Below w.heap.size w w2) := Lib.hid fun w' hb => (intAwake_walk p w' (hp.below hb) (hleaf.below hb)).mono (by rintro e w2 ⟨rfl, h⟩; exact ⟨rfl, bt hb h⟩)
  have HD : Hid (∀ (op : Nat) (i : Int), (op : Int) = i → ∀ (x y : Int) (T1 T2 T : List UInt8) (b : Bool) (w' : World), op ≤ 6 → overI x = false → overI y = false → zText x = T1 → zText y = T2 → outT (iRes op x y) = T → (iRes op x y).isSome = b → Below w.heap.size w w' →
      Calls Tryz.prog 36 #[.int .i64 i, .string (S T1), .string (S T2)] w' fun e w2 => e = .returned (.tuple #[.string (S T), .bool b]) ∧ Below w.heap.size w w2) := by
    refine Lib.hid fun op i hi x y T1 T2 T b w' hop ox oy h1 h2 h3 h4 hb => ?_
    subst hi h1 h2 h3 h4
    exact (idoZ_walk op x y p e1 e2 w' hop ox oy (hp.below hb) (hleaf.below hb) (hkara.below hb) (hdiv.below hb hdiv.lt) (herr.below hb)).mono (by rintro e w2 ⟨rfl, h⟩; exact ⟨rfl, bt hb h⟩)
  have HR : Hid (∀ (op : Nat) (i : Int), (op : Int) = i → ∀ (r1 r2 : Option Int) (T1 : List UInt8) (c1 : Bool) (T2 : List UInt8) (c2 : Bool) (T : List UInt8) (b : Bool) (w' : World), op ≤ 6 → GoodI r1 → GoodI r2 → outT r1 = T1 → r1.isSome = c1 → outT r2 = T2 → r2.isSome = c2 → outT (dnI op r1 r2) = T → (dnI op r1 r2).isSome = b → Below w.heap.size w w' →
      Calls Tryz.prog 38 #[.int .i64 i, .string (S T1), .bool c1, .string (S T2), .bool c2] w' fun e w2 => e = .returned (.tuple #[.string (S T), .bool b]) ∧ Below w.heap.size w w2) := by
    refine Lib.hid fun op i hi r1 r2 T1 c1 T2 c2 T b w' hop g1 g2 h1 k1 h2 k2 h3 h4 hb => ?_
    subst hi h1 k1 h2 k2 h3 h4
    exact (ring_walk op r1 r2 p e1 e2 w' hop g1 g2 (hp.below hb) (hleaf.below hb) (hkara.below hb) (hdiv.below hb hdiv.lt) (herr.below hb)).mono (by rintro e w2 ⟨rfl, h⟩; exact ⟨rfl, bt hb h⟩)
  have HS1 := Lib.hid (fun w => specInt_walk l1 w hl1)
  have HS2 := Lib.hid (fun w => specInt_walk l2 w hl2)
  have HS3 := Lib.hid (fun w => specInt_walk l3 w hl3)
  clear hp hleaf hkara hdiv herr hl1 hl2 hl3
  by_cases h1 : l1.length ≤ 2147483647
  · by_cases h2 : l2.length ≤ 2147483647
    · by_cases h3 : l3.length ≤ 2147483647
      · have h1' : decide ((2147483647 : Int) < l1.length) = false := decide_eq_false (by omega)
        have h2' : decide ((2147483647 : Int) < l2.length) = false := decide_eq_false (by omega)
        have h3' : decide ((2147483647 : Int) < l3.length) = false := decide_eq_false (by omega)
        by_cases hall : intOk l1 = true ∧ intOk l2 = true ∧ intOk l3 = true
        · obtain ⟨o1, o2, o3⟩ := hall
          rw [o1] at HS1
          rw [o2] at HS2
          rw [o3] at HS3
          obtain ⟨v1, x1⟩ := intOk_isG o1
          obtain ⟨v2, x2⟩ := intOk_isG o2
          obtain ⟨v3, x3⟩ := intOk_isG o3
          have hne1 : l1 ≠ [] := by intro h; rw [h] at x1; exact text_ne _ x1
          have hpos : ∀ c t, l1 = c :: t → c ≠ 45 → 0 ≤ readZ l1 := by intro c t h hc; rw [h]; exact read_pos hc
          have hb0 : l2 = [48] ↔ readZ l2 = 0 := by
            constructor
            · intro h; rw [h]; decide
            · intro h; rw [← x2, h]; unfold zText numText; rw [Int.natAbs_zero, toD_zero]; rfl
          obtain ⟨z1, hz1⟩ : ∃ z, readZ l1 = z := ⟨_, rfl⟩
          obtain ⟨z2, hz2⟩ : ∃ z, readZ l2 = z := ⟨_, rfl⟩
          obtain ⟨z3, hz3⟩ : ∃ z, readZ l3 = z := ⟨_, rfl⟩
          rw [hz1] at v1 x1 hpos
          rw [hz2] at v2 x2 hb0
          rw [hz3] at v3 x3
          have V1 := Lib.hid v1
          have V2 := Lib.hid v2
          have V3 := Lib.hid v3
          have X1 := Lib.hid x1
          have X2 := Lib.hid x2
          have X3 := Lib.hid x3
          have HL1 := Lib.hid h1'
          have HL2 := Lib.hid h2'
          have HL3 := Lib.hid h3'
          obtain ⟨Ts, hTs⟩ : ∃ T, outT (iRes 0 z2 z3) = T := ⟨_, rfl⟩
          obtain ⟨Bs, hBs⟩ : ∃ b, (iRes 0 z2 z3).isSome = b := ⟨_, rfl⟩
          have ETs := Lib.hid hTs
          have EBs := Lib.hid hBs
          obtain ⟨Tl, hTl⟩ : ∃ T, outT (dnI 2 (some z1) (iRes 0 z2 z3)) = T := ⟨_, rfl⟩
          obtain ⟨Bl, hBl⟩ : ∃ b, (dnI 2 (some z1) (iRes 0 z2 z3)).isSome = b := ⟨_, rfl⟩
          have ETl := Lib.hid hTl
          have EBl := Lib.hid hBl
          obtain ⟨Tp, hTp⟩ : ∃ T, outT (iRes 2 z1 z2) = T := ⟨_, rfl⟩
          obtain ⟨Bp, hBp⟩ : ∃ b, (iRes 2 z1 z2).isSome = b := ⟨_, rfl⟩
          have ETp := Lib.hid hTp
          have EBp := Lib.hid hBp
          obtain ⟨Tq, hTq⟩ : ∃ T, outT (iRes 2 z1 z3) = T := ⟨_, rfl⟩
          obtain ⟨Bq, hBq⟩ : ∃ b, (iRes 2 z1 z3).isSome = b := ⟨_, rfl⟩
          have ETq := Lib.hid hTq
          have EBq := Lib.hid hBq
          obtain ⟨Tr, hTr⟩ : ∃ T, outT (dnI 0 (iRes 2 z1 z2) (iRes 2 z1 z3)) = T := ⟨_, rfl⟩
          obtain ⟨Br, hBr⟩ : ∃ b, (dnI 0 (iRes 2 z1 z2) (iRes 2 z1 z3)).isSome = b := ⟨_, rfl⟩
          have ETr := Lib.hid hTr
          have EBr := Lib.hid hBr
          obtain ⟨Tk, hTk⟩ : ∃ T, outT (dnI 1 (iRes 0 z2 z3) (some z3)) = T := ⟨_, rfl⟩
          obtain ⟨Bk, hBk⟩ : ∃ b, (dnI 1 (iRes 0 z2 z3) (some z3)).isSome = b := ⟨_, rfl⟩
          have ETk := Lib.hid hTk
          have EBk := Lib.hid hBk
          have hcase : (Bs = false ∧ Bl = false) ∨ (Bs = true ∧ Bk = true ∧ Tk = l2 ∧ (Bl = false ∨ (Bl = true ∧ Br = false) ∨ (Bl = true ∧ Br = true ∧ Tl = Tr))) := by
            cases hs : Bs with
            | false =>
              rw [hs] at hBs
              exact .inl ⟨rfl, by rw [← hBl]; exact (ring_none 2 _ z1 hBs).1⟩
            | true =>
              rw [hs] at hBs
              have hk := ring_back z2 z3 v2 hBs
              refine .inr ⟨rfl, by rw [← hBk, hk]; rfl, by rw [← hTk, hk]; exact x2, ?_⟩
              cases hl : Bl with
              | false => exact .inl rfl
              | true =>
                cases hr : Br with
                | false => exact .inr (.inl ⟨rfl, rfl⟩)
                | true =>
                  rw [hl] at hBl
                  rw [hr] at hBr
                  exact .inr (.inr ⟨rfl, rfl, by rw [← hTl, ← hTr]; exact ring_distrib z1 z2 z3 hBl hBr⟩)
          have HCASE := Lib.hid hcase
          clear hcase hTs hBs hTl hBl hTp hBp hTq hBq hTr hBr hTk hBk
          by_cases hy0 : z2 = 0
          · as_aux_lemma =>
              have hq : (l2 == [48]) = true := beq_iff_eq.2 (hb0.2 hy0)
              have r3 : iRes 3 z1 z2 = none := iRes_none (if_pos hy0)
              have r4 : iRes 4 z1 z2 = none := iRes_none (if_pos hy0)
              have ETd : Hid (outT (iRes 3 z1 z2) = []) := Lib.hid (by rw [r3]; rfl)
              have EBd : Hid ((iRes 3 z1 z2).isSome = false) := Lib.hid (by rw [r3]; rfl)
              have ETm : Hid (outT (iRes 4 z1 z2) = []) := Lib.hid (by rw [r4]; rfl)
              have EBm : Hid ((iRes 4 z1 z2).isSome = false) := Lib.hid (by rw [r4]; rfl)
              clear r3 r4 hy0
              clear v1 v2 v3 x1 x2 x3 hz1 hz2 hz3 o1 o2 o3 hpos hb0 hne1 h1 h2 h3
              go_enter Tryz.func10, Tryz.ntmps10
              go_wp2_with fail
              refine (HS1.out _).mono ?_
              rintro e w1 ⟨b1, A1, n1, c1, rfl, hn1, hb1⟩
              have HB1 := Lib.hid (bt hb1 (below_a1 w1 (.cells #[.bool b1, .slice A1 n1 c1] 24)))
              clear hn1 hb1
              go_wp2_with fail
              refine (HS2.out _).mono ?_
              rintro e w2 ⟨b2, A2, n2, c2, rfl, hn2, hb2⟩
              have HB2 := Lib.hid (bt HB1.out (bt hb2 (below_a1 w2 (.cells #[.bool b2, .slice A2 n2 c2] 24))))
              clear hn2 hb2
              go_wp2_with fail
              refine (HS3.out _).mono ?_
              rintro e w3 ⟨b3, A3, n3, c3, rfl, hn3, hb3⟩
              have HB3 := Lib.hid (bt HB2.out (bt hb3 (below_a1 w3 (.cells #[.bool b3, .slice A3 n3 c3] 24))))
              clear hn3 hb3
              go_wp2_with fail
              refine (HD.out 0 0 rfl z2 z3 _ _ _ _ _ (by decide) V2.out V3.out X2.out X3.out ETs.out EBs.out HB3.out).mono ?_
              rintro e u1 ⟨rfl, hc1⟩
              have HC1 := Lib.hid hc1
              clear hc1
              go_wp2_with fail
              refine (HR.out 2 2 rfl (some z1) (iRes 0 z2 z3) _ _ _ _ _ _ _ (by decide) (goodI_some V1.out) (goodI_res _ _ _) X1.out rfl ETs.out EBs.out ETl.out EBl.out HC1.out).mono ?_
              rintro e u2 ⟨rfl, hc2⟩
              have HC2 := Lib.hid hc2
              clear hc2
              go_wp2_with fail
              refine (HD.out 2 2 rfl z1 z2 _ _ _ _ _ (by decide) V1.out V2.out X1.out X2.out ETp.out EBp.out HC2.out).mono ?_
              rintro e u3 ⟨rfl, hc3⟩
              have HC3 := Lib.hid hc3
              clear hc3
              go_wp2_with fail
              refine (HD.out 2 2 rfl z1 z3 _ _ _ _ _ (by decide) V1.out V3.out X1.out X3.out ETq.out EBq.out HC3.out).mono ?_
              rintro e u4 ⟨rfl, hc4⟩
              have HC4 := Lib.hid hc4
              clear hc4
              go_wp2_with fail
              refine (HR.out 0 0 rfl (iRes 2 z1 z2) (iRes 2 z1 z3) _ _ _ _ _ _ _ (by decide) (goodI_res _ _ _) (goodI_res _ _ _) ETp.out EBp.out ETq.out EBq.out ETr.out EBr.out HC4.out).mono ?_
              rintro e u5 ⟨rfl, hc5⟩
              have HC5 := Lib.hid hc5
              clear hc5
              go_wp2_with fail
              refine (HR.out 1 1 rfl (iRes 0 z2 z3) (some z3) _ _ _ _ _ _ _ (by decide) (goodI_res _ _ _) (goodI_some V3.out) ETs.out EBs.out X3.out rfl ETk.out EBk.out HC5.out).mono ?_
              rintro e u6 ⟨rfl, hc6⟩
              have HC6 := Lib.hid hc6
              clear hc6
              rcases HCASE.out with ⟨q1, q2⟩ | ⟨q1, q2, q3, q4⟩
              · subst q1 q2
                go_wp2_with fail
                refine (HD.out 3 3 rfl z1 z2 _ _ _ _ _ (by decide) V1.out V2.out X1.out X2.out ETd.out EBd.out HC6.out).mono ?_
                rintro e u7 ⟨rfl, hc7⟩
                have HC7 := Lib.hid hc7
                clear hc7
                go_wp2_with fail
                refine (HD.out 4 4 rfl z1 z2 _ _ _ _ _ (by decide) V1.out V2.out X1.out X2.out ETm.out EBm.out HC7.out).mono ?_
                rintro e u8 ⟨rfl, hc8⟩
                have HC8 := Lib.hid hc8
                clear hc8
                go_wp2_with fail
                refine (HAW.out _ HC8.out).mono ?_
                rintro e u9 ⟨rfl, hc9⟩
                have HC9 := Lib.hid hc9
                clear hc9
                go_wp2_with fail
                go_ret
                exact ⟨rfl, HC9.out⟩
              · subst q1 q2 q3
                rcases q4 with q5 | ⟨q5, q6⟩ | ⟨q5, q6, q7⟩
                · subst q5
                  go_wp2_with fail
                  refine (HD.out 3 3 rfl z1 z2 _ _ _ _ _ (by decide) V1.out V2.out X1.out X2.out ETd.out EBd.out HC6.out).mono ?_
                  rintro e u7 ⟨rfl, hc7⟩
                  have HC7 := Lib.hid hc7
                  clear hc7
                  go_wp2_with fail
                  refine (HD.out 4 4 rfl z1 z2 _ _ _ _ _ (by decide) V1.out V2.out X1.out X2.out ETm.out EBm.out HC7.out).mono ?_
                  rintro e u8 ⟨rfl, hc8⟩
                  have HC8 := Lib.hid hc8
                  clear hc8
                  go_wp2_with fail
                  refine (HAW.out _ HC8.out).mono ?_
                  rintro e u9 ⟨rfl, hc9⟩
                  have HC9 := Lib.hid hc9
                  clear hc9
                  go_wp2_with fail
                  go_ret
                  exact ⟨rfl, HC9.out⟩
                · subst q5 q6
                  go_wp2_with fail
                  refine (HD.out 3 3 rfl z1 z2 _ _ _ _ _ (by decide) V1.out V2.out X1.out X2.out ETd.out EBd.out HC6.out).mono ?_
                  rintro e u7 ⟨rfl, hc7⟩
                  have HC7 := Lib.hid hc7
                  clear hc7
                  go_wp2_with fail
                  refine (HD.out 4 4 rfl z1 z2 _ _ _ _ _ (by decide) V1.out V2.out X1.out X2.out ETm.out EBm.out HC7.out).mono ?_
                  rintro e u8 ⟨rfl, hc8⟩
                  have HC8 := Lib.hid hc8
                  clear hc8
                  go_wp2_with fail
                  refine (HAW.out _ HC8.out).mono ?_
                  rintro e u9 ⟨rfl, hc9⟩
                  have HC9 := Lib.hid hc9
                  clear hc9
                  go_wp2_with fail
                  go_ret
                  exact ⟨rfl, HC9.out⟩
                · subst q5 q6 q7
                  go_wp2_with fail
                  refine (HD.out 3 3 rfl z1 z2 _ _ _ _ _ (by decide) V1.out V2.out X1.out X2.out ETd.out EBd.out HC6.out).mono ?_
                  rintro e u7 ⟨rfl, hc7⟩
                  have HC7 := Lib.hid hc7
                  clear hc7
                  go_wp2_with fail
                  refine (HD.out 4 4 rfl z1 z2 _ _ _ _ _ (by decide) V1.out V2.out X1.out X2.out ETm.out EBm.out HC7.out).mono ?_
                  rintro e u8 ⟨rfl, hc8⟩
                  have HC8 := Lib.hid hc8
                  clear hc8
                  go_wp2_with fail
                  refine (HAW.out _ HC8.out).mono ?_
                  rintro e u9 ⟨rfl, hc9⟩
                  have HC9 := Lib.hid hc9
                  clear hc9
                  go_wp2_with fail
                  go_ret
                  exact ⟨rfl, HC9.out⟩
          · have hq : (l2 == [48]) = false := beq_eq_false_iff_ne.2 (fun h => hy0 (hb0.1 h))
            obtain ⟨c, t, hct⟩ : ∃ c t, l1 = c :: t := by
              cases l1 with
              | nil => exact absurd rfl hne1
              | cons c t => exact ⟨c, t, rfl⟩
            by_cases hc : c = 45
            · subst hc
              as_aux_lemma =>
                obtain ⟨Td, hTd⟩ : ∃ T, zText (z1.tdiv z2) = T := ⟨_, rfl⟩
                obtain ⟨Tm, hTm⟩ : ∃ T, zText (modZ z1 z2) = T := ⟨_, rfl⟩
                have r3 := ring_quo z1 z2 hy0 v1
                have r4 := ring_mod z1 z2 hy0 v2
                have ETd : Hid (outT (iRes 3 z1 z2) = Td) := Lib.hid (by rw [r3]; exact hTd)
                have EBd : Hid ((iRes 3 z1 z2).isSome = true) := Lib.hid (by rw [r3]; rfl)
                have ETm : Hid (outT (iRes 4 z1 z2) = Tm) := Lib.hid (by rw [r4]; exact hTm)
                have EBm : Hid ((iRes 4 z1 z2).isSome = true) := Lib.hid (by rw [r4]; rfl)
                have HCT := Lib.hid hct
                clear r3 r4 hTd hTm hy0 hct h1' h2' h3' h1 h2 h3
                have h1' : decide ((2147483647 : Int) < l1.length) = false := HL1.out
                have h2' : decide ((2147483647 : Int) < l2.length) = false := HL2.out
                have h3' : decide ((2147483647 : Int) < l3.length) = false := HL3.out
                clear v1 v2 v3 x1 x2 x3 hz1 hz2 hz3 o1 o2 o3 hpos hb0 hne1
                go_enter Tryz.func10, Tryz.ntmps10
                go_wp2_with fail
                refine (HS1.out _).mono ?_
                rintro e w1 ⟨b1, A1, n1, c1, rfl, hn1, hb1⟩
                have HB1 := Lib.hid (bt hb1 (below_a1 w1 (.cells #[.bool b1, .slice A1 n1 c1] 24)))
                clear hn1 hb1
                go_wp2_with fail
                refine (HS2.out _).mono ?_
                rintro e w2 ⟨b2, A2, n2, c2, rfl, hn2, hb2⟩
                have HB2 := Lib.hid (bt HB1.out (bt hb2 (below_a1 w2 (.cells #[.bool b2, .slice A2 n2 c2] 24))))
                clear hn2 hb2
                go_wp2_with fail
                refine (HS3.out _).mono ?_
                rintro e w3 ⟨b3, A3, n3, c3, rfl, hn3, hb3⟩
                have HB3 := Lib.hid (bt HB2.out (bt hb3 (below_a1 w3 (.cells #[.bool b3, .slice A3 n3 c3] 24))))
                clear hn3 hb3
                go_wp2_with fail
                clear h1' h2' h3'
                have hct := HCT.out
                subst hct
                refine (HD.out 0 0 rfl z2 z3 _ _ _ _ _ (by decide) V2.out V3.out X2.out X3.out ETs.out EBs.out HB3.out).mono ?_
                rintro e u1 ⟨rfl, hc1⟩
                have HC1 := Lib.hid hc1
                clear hc1
                go_wp2_with fail
                refine (HR.out 2 2 rfl (some z1) (iRes 0 z2 z3) _ _ _ _ _ _ _ (by decide) (goodI_some V1.out) (goodI_res _ _ _) X1.out rfl ETs.out EBs.out ETl.out EBl.out HC1.out).mono ?_
                rintro e u2 ⟨rfl, hc2⟩
                have HC2 := Lib.hid hc2
                clear hc2
                go_wp2_with fail
                refine (HD.out 2 2 rfl z1 z2 _ _ _ _ _ (by decide) V1.out V2.out X1.out X2.out ETp.out EBp.out HC2.out).mono ?_
                rintro e u3 ⟨rfl, hc3⟩
                have HC3 := Lib.hid hc3
                clear hc3
                go_wp2_with fail
                refine (HD.out 2 2 rfl z1 z3 _ _ _ _ _ (by decide) V1.out V3.out X1.out X3.out ETq.out EBq.out HC3.out).mono ?_
                rintro e u4 ⟨rfl, hc4⟩
                have HC4 := Lib.hid hc4
                clear hc4
                go_wp2_with fail
                refine (HR.out 0 0 rfl (iRes 2 z1 z2) (iRes 2 z1 z3) _ _ _ _ _ _ _ (by decide) (goodI_res _ _ _) (goodI_res _ _ _) ETp.out EBp.out ETq.out EBq.out ETr.out EBr.out HC4.out).mono ?_
                rintro e u5 ⟨rfl, hc5⟩
                have HC5 := Lib.hid hc5
                clear hc5
                go_wp2_with fail
                refine (HR.out 1 1 rfl (iRes 0 z2 z3) (some z3) _ _ _ _ _ _ _ (by decide) (goodI_res _ _ _) (goodI_some V3.out) ETs.out EBs.out X3.out rfl ETk.out EBk.out HC5.out).mono ?_
                rintro e u6 ⟨rfl, hc6⟩
                have HC6 := Lib.hid hc6
                clear hc6
                rcases HCASE.out with ⟨q1, q2⟩ | ⟨q1, q2, q3, q4⟩
                · subst q1 q2
                  go_wp2_with fail
                  refine (HD.out 3 3 rfl z1 z2 _ _ _ _ _ (by decide) V1.out V2.out X1.out X2.out ETd.out EBd.out HC6.out).mono ?_
                  rintro e u7 ⟨rfl, hc7⟩
                  have HC7 := Lib.hid hc7
                  clear hc7
                  go_wp2_with fail
                  refine (HD.out 4 4 rfl z1 z2 _ _ _ _ _ (by decide) V1.out V2.out X1.out X2.out ETm.out EBm.out HC7.out).mono ?_
                  rintro e u8 ⟨rfl, hc8⟩
                  have HC8 := Lib.hid hc8
                  clear hc8
                  go_wp2_with fail
                  refine (HAW.out _ HC8.out).mono ?_
                  rintro e u9 ⟨rfl, hc9⟩
                  have HC9 := Lib.hid hc9
                  clear hc9
                  go_wp2_with fail
                  go_ret
                  exact ⟨rfl, HC9.out⟩
                · subst q1 q2 q3
                  rcases q4 with q5 | ⟨q5, q6⟩ | ⟨q5, q6, q7⟩
                  · subst q5
                    go_wp2_with fail
                    refine (HD.out 3 3 rfl z1 z2 _ _ _ _ _ (by decide) V1.out V2.out X1.out X2.out ETd.out EBd.out HC6.out).mono ?_
                    rintro e u7 ⟨rfl, hc7⟩
                    have HC7 := Lib.hid hc7
                    clear hc7
                    go_wp2_with fail
                    refine (HD.out 4 4 rfl z1 z2 _ _ _ _ _ (by decide) V1.out V2.out X1.out X2.out ETm.out EBm.out HC7.out).mono ?_
                    rintro e u8 ⟨rfl, hc8⟩
                    have HC8 := Lib.hid hc8
                    clear hc8
                    go_wp2_with fail
                    refine (HAW.out _ HC8.out).mono ?_
                    rintro e u9 ⟨rfl, hc9⟩
                    have HC9 := Lib.hid hc9
                    clear hc9
                    go_wp2_with fail
                    go_ret
                    exact ⟨rfl, HC9.out⟩
                  · subst q5 q6
                    go_wp2_with fail
                    refine (HD.out 3 3 rfl z1 z2 _ _ _ _ _ (by decide) V1.out V2.out X1.out X2.out ETd.out EBd.out HC6.out).mono ?_
                    rintro e u7 ⟨rfl, hc7⟩
                    have HC7 := Lib.hid hc7
                    clear hc7
                    go_wp2_with fail
                    refine (HD.out 4 4 rfl z1 z2 _ _ _ _ _ (by decide) V1.out V2.out X1.out X2.out ETm.out EBm.out HC7.out).mono ?_
                    rintro e u8 ⟨rfl, hc8⟩
                    have HC8 := Lib.hid hc8
                    clear hc8
                    go_wp2_with fail
                    refine (HAW.out _ HC8.out).mono ?_
                    rintro e u9 ⟨rfl, hc9⟩
                    have HC9 := Lib.hid hc9
                    clear hc9
                    go_wp2_with fail
                    go_ret
                    exact ⟨rfl, HC9.out⟩
                  · subst q5 q6 q7
                    go_wp2_with fail
                    refine (HD.out 3 3 rfl z1 z2 _ _ _ _ _ (by decide) V1.out V2.out X1.out X2.out ETd.out EBd.out HC6.out).mono ?_
                    rintro e u7 ⟨rfl, hc7⟩
                    have HC7 := Lib.hid hc7
                    clear hc7
                    go_wp2_with fail
                    refine (HD.out 4 4 rfl z1 z2 _ _ _ _ _ (by decide) V1.out V2.out X1.out X2.out ETm.out EBm.out HC7.out).mono ?_
                    rintro e u8 ⟨rfl, hc8⟩
                    have HC8 := Lib.hid hc8
                    clear hc8
                    go_wp2_with fail
                    refine (HAW.out _ HC8.out).mono ?_
                    rintro e u9 ⟨rfl, hc9⟩
                    have HC9 := Lib.hid hc9
                    clear hc9
                    go_wp2_with fail
                    go_ret
                    exact ⟨rfl, HC9.out⟩
            · as_aux_lemma =>
                obtain ⟨Td, hTd⟩ : ∃ T, zText (z1.tdiv z2) = T := ⟨_, rfl⟩
                obtain ⟨Tm, hTm⟩ : ∃ T, zText (modZ z1 z2) = T := ⟨_, rfl⟩
                have r3 := ring_quo z1 z2 hy0 v1
                have r4 := ring_mod z1 z2 hy0 v2
                have ETd : Hid (outT (iRes 3 z1 z2) = Td) := Lib.hid (by rw [r3]; exact hTd)
                have EBd : Hid ((iRes 3 z1 z2).isSome = true) := Lib.hid (by rw [r3]; rfl)
                have ETm : Hid (outT (iRes 4 z1 z2) = Tm) := Lib.hid (by rw [r4]; exact hTm)
                have EBm : Hid ((iRes 4 z1 z2).isSome = true) := Lib.hid (by rw [r4]; rfl)
                have rw0 := ring_whole z1 z2 (hpos c t hct hc) hy0 v1
                obtain ⟨Tw, hTw⟩ : ∃ T, zText (z1.tdiv z2 * z2) = T := ⟨_, rfl⟩
                have ETw : Hid (outT (iRes 2 (z1.tdiv z2) z2) = Tw) := Lib.hid (by rw [rw0.1]; exact hTw)
                have EBw : Hid ((iRes 2 (z1.tdiv z2) z2).isSome = true) := Lib.hid (by rw [rw0.1]; rfl)
                have ETo : Hid (outT (dnI 0 (some (z1.tdiv z2 * z2)) (some (modZ z1 z2))) = l1) := Lib.hid (by rw [rw0.2]; exact x1)
                have EBo : Hid ((dnI 0 (some (z1.tdiv z2 * z2)) (some (modZ z1 z2))).isSome = true) := Lib.hid (by rw [rw0.2]; rfl)
                have VQ : Hid (overI (z1.tdiv z2) = false) := Lib.hid (quoI_fits v1)
                have VM : Hid (overI (modZ z1 z2) = false) := Lib.hid (modI_fits hy0 v2)
                have VW : Hid (overI (z1.tdiv z2 * z2) = false) := Lib.hid (goodI_res 2 (z1.tdiv z2) z2 _ rw0.1)
                have XQ := Lib.hid hTd
                have XW : Hid (outT (some (z1.tdiv z2 * z2)) = Tw) := Lib.hid hTw
                have XM : Hid (outT (some (modZ z1 z2)) = Tm) := Lib.hid hTm
                have hcb : ((c.toNat : Int) == 45) = false := beq_eq_false_iff_ne.2 (fun k => hc (UInt8.toNat_inj.1 (show c.toNat = 45 by omega)))
                clear rw0 hTw
                have HCT := Lib.hid hct
                clear r3 r4 hTd hTm hy0 hct h1' h2' h3' h1 h2 h3
                have h1' : decide ((2147483647 : Int) < l1.length) = false := HL1.out
                have h2' : decide ((2147483647 : Int) < l2.length) = false := HL2.out
                have h3' : decide ((2147483647 : Int) < l3.length) = false := HL3.out
                clear v1 v2 v3 x1 x2 x3 hz1 hz2 hz3 o1 o2 o3 hpos hb0 hne1
                go_enter Tryz.func10, Tryz.ntmps10
                go_wp2_with fail
                refine (HS1.out _).mono ?_
                rintro e w1 ⟨b1, A1, n1, c1, rfl, hn1, hb1⟩
                have HB1 := Lib.hid (bt hb1 (below_a1 w1 (.cells #[.bool b1, .slice A1 n1 c1] 24)))
                clear hn1 hb1
                go_wp2_with fail
                refine (HS2.out _).mono ?_
                rintro e w2 ⟨b2, A2, n2, c2, rfl, hn2, hb2⟩
                have HB2 := Lib.hid (bt HB1.out (bt hb2 (below_a1 w2 (.cells #[.bool b2, .slice A2 n2 c2] 24))))
                clear hn2 hb2
                go_wp2_with fail
                refine (HS3.out _).mono ?_
                rintro e w3 ⟨b3, A3, n3, c3, rfl, hn3, hb3⟩
                have HB3 := Lib.hid (bt HB2.out (bt hb3 (below_a1 w3 (.cells #[.bool b3, .slice A3 n3 c3] 24))))
                clear hn3 hb3
                go_wp2_with fail
                clear h1' h2' h3'
                have hct := HCT.out
                subst hct
                refine (HD.out 0 0 rfl z2 z3 _ _ _ _ _ (by decide) V2.out V3.out X2.out X3.out ETs.out EBs.out HB3.out).mono ?_
                rintro e u1 ⟨rfl, hc1⟩
                have HC1 := Lib.hid hc1
                clear hc1
                go_wp2_with fail
                refine (HR.out 2 2 rfl (some z1) (iRes 0 z2 z3) _ _ _ _ _ _ _ (by decide) (goodI_some V1.out) (goodI_res _ _ _) X1.out rfl ETs.out EBs.out ETl.out EBl.out HC1.out).mono ?_
                rintro e u2 ⟨rfl, hc2⟩
                have HC2 := Lib.hid hc2
                clear hc2
                go_wp2_with fail
                refine (HD.out 2 2 rfl z1 z2 _ _ _ _ _ (by decide) V1.out V2.out X1.out X2.out ETp.out EBp.out HC2.out).mono ?_
                rintro e u3 ⟨rfl, hc3⟩
                have HC3 := Lib.hid hc3
                clear hc3
                go_wp2_with fail
                refine (HD.out 2 2 rfl z1 z3 _ _ _ _ _ (by decide) V1.out V3.out X1.out X3.out ETq.out EBq.out HC3.out).mono ?_
                rintro e u4 ⟨rfl, hc4⟩
                have HC4 := Lib.hid hc4
                clear hc4
                go_wp2_with fail
                refine (HR.out 0 0 rfl (iRes 2 z1 z2) (iRes 2 z1 z3) _ _ _ _ _ _ _ (by decide) (goodI_res _ _ _) (goodI_res _ _ _) ETp.out EBp.out ETq.out EBq.out ETr.out EBr.out HC4.out).mono ?_
                rintro e u5 ⟨rfl, hc5⟩
                have HC5 := Lib.hid hc5
                clear hc5
                go_wp2_with fail
                refine (HR.out 1 1 rfl (iRes 0 z2 z3) (some z3) _ _ _ _ _ _ _ (by decide) (goodI_res _ _ _) (goodI_some V3.out) ETs.out EBs.out X3.out rfl ETk.out EBk.out HC5.out).mono ?_
                rintro e u6 ⟨rfl, hc6⟩
                have HC6 := Lib.hid hc6
                clear hc6
                rcases HCASE.out with ⟨q1, q2⟩ | ⟨q1, q2, q3, q4⟩
                · subst q1 q2
                  go_wp2_with fail
                  refine (HD.out 3 3 rfl z1 z2 _ _ _ _ _ (by decide) V1.out V2.out X1.out X2.out ETd.out EBd.out HC6.out).mono ?_
                  rintro e u7 ⟨rfl, hc7⟩
                  have HC7 := Lib.hid hc7
                  clear hc7
                  go_wp2_with fail
                  refine (HD.out 4 4 rfl z1 z2 _ _ _ _ _ (by decide) V1.out V2.out X1.out X2.out ETm.out EBm.out HC7.out).mono ?_
                  rintro e u8 ⟨rfl, hc8⟩
                  have HC8 := Lib.hid hc8
                  clear hc8
                  go_wp2_with fail
                  refine (HD.out 2 2 rfl (z1.tdiv z2) z2 _ _ _ _ _ (by decide) VQ.out V2.out XQ.out X2.out ETw.out EBw.out HC8.out).mono ?_
                  rintro e u9 ⟨rfl, hc9⟩
                  have HC9 := Lib.hid hc9
                  clear hc9
                  go_wp2_with fail
                  refine (HR.out 0 0 rfl (some (z1.tdiv z2 * z2)) (some (modZ z1 z2)) _ _ _ _ _ _ _ (by decide) (goodI_some VW.out) (goodI_some VM.out) XW.out rfl XM.out rfl ETo.out EBo.out HC9.out).mono ?_
                  rintro e u10 ⟨rfl, hc10⟩
                  have HC10 := Lib.hid hc10
                  clear hc10
                  go_wp2_with fail
                  refine (HAW.out _ HC10.out).mono ?_
                  rintro e u11 ⟨rfl, hc11⟩
                  have HC11 := Lib.hid hc11
                  clear hc11
                  go_wp2_with fail
                  go_ret
                  exact ⟨rfl, HC11.out⟩
                · subst q1 q2 q3
                  rcases q4 with q5 | ⟨q5, q6⟩ | ⟨q5, q6, q7⟩
                  · subst q5
                    go_wp2_with fail
                    refine (HD.out 3 3 rfl z1 z2 _ _ _ _ _ (by decide) V1.out V2.out X1.out X2.out ETd.out EBd.out HC6.out).mono ?_
                    rintro e u7 ⟨rfl, hc7⟩
                    have HC7 := Lib.hid hc7
                    clear hc7
                    go_wp2_with fail
                    refine (HD.out 4 4 rfl z1 z2 _ _ _ _ _ (by decide) V1.out V2.out X1.out X2.out ETm.out EBm.out HC7.out).mono ?_
                    rintro e u8 ⟨rfl, hc8⟩
                    have HC8 := Lib.hid hc8
                    clear hc8
                    go_wp2_with fail
                    refine (HD.out 2 2 rfl (z1.tdiv z2) z2 _ _ _ _ _ (by decide) VQ.out V2.out XQ.out X2.out ETw.out EBw.out HC8.out).mono ?_
                    rintro e u9 ⟨rfl, hc9⟩
                    have HC9 := Lib.hid hc9
                    clear hc9
                    go_wp2_with fail
                    refine (HR.out 0 0 rfl (some (z1.tdiv z2 * z2)) (some (modZ z1 z2)) _ _ _ _ _ _ _ (by decide) (goodI_some VW.out) (goodI_some VM.out) XW.out rfl XM.out rfl ETo.out EBo.out HC9.out).mono ?_
                    rintro e u10 ⟨rfl, hc10⟩
                    have HC10 := Lib.hid hc10
                    clear hc10
                    go_wp2_with fail
                    refine (HAW.out _ HC10.out).mono ?_
                    rintro e u11 ⟨rfl, hc11⟩
                    have HC11 := Lib.hid hc11
                    clear hc11
                    go_wp2_with fail
                    go_ret
                    exact ⟨rfl, HC11.out⟩
                  · subst q5 q6
                    go_wp2_with fail
                    refine (HD.out 3 3 rfl z1 z2 _ _ _ _ _ (by decide) V1.out V2.out X1.out X2.out ETd.out EBd.out HC6.out).mono ?_
                    rintro e u7 ⟨rfl, hc7⟩
                    have HC7 := Lib.hid hc7
                    clear hc7
                    go_wp2_with fail
                    refine (HD.out 4 4 rfl z1 z2 _ _ _ _ _ (by decide) V1.out V2.out X1.out X2.out ETm.out EBm.out HC7.out).mono ?_
                    rintro e u8 ⟨rfl, hc8⟩
                    have HC8 := Lib.hid hc8
                    clear hc8
                    go_wp2_with fail
                    refine (HD.out 2 2 rfl (z1.tdiv z2) z2 _ _ _ _ _ (by decide) VQ.out V2.out XQ.out X2.out ETw.out EBw.out HC8.out).mono ?_
                    rintro e u9 ⟨rfl, hc9⟩
                    have HC9 := Lib.hid hc9
                    clear hc9
                    go_wp2_with fail
                    refine (HR.out 0 0 rfl (some (z1.tdiv z2 * z2)) (some (modZ z1 z2)) _ _ _ _ _ _ _ (by decide) (goodI_some VW.out) (goodI_some VM.out) XW.out rfl XM.out rfl ETo.out EBo.out HC9.out).mono ?_
                    rintro e u10 ⟨rfl, hc10⟩
                    have HC10 := Lib.hid hc10
                    clear hc10
                    go_wp2_with fail
                    refine (HAW.out _ HC10.out).mono ?_
                    rintro e u11 ⟨rfl, hc11⟩
                    have HC11 := Lib.hid hc11
                    clear hc11
                    go_wp2_with fail
                    go_ret
                    exact ⟨rfl, HC11.out⟩
                  · subst q5 q6 q7
                    go_wp2_with fail
                    refine (HD.out 3 3 rfl z1 z2 _ _ _ _ _ (by decide) V1.out V2.out X1.out X2.out ETd.out EBd.out HC6.out).mono ?_
                    rintro e u7 ⟨rfl, hc7⟩
                    have HC7 := Lib.hid hc7
                    clear hc7
                    go_wp2_with fail
                    refine (HD.out 4 4 rfl z1 z2 _ _ _ _ _ (by decide) V1.out V2.out X1.out X2.out ETm.out EBm.out HC7.out).mono ?_
                    rintro e u8 ⟨rfl, hc8⟩
                    have HC8 := Lib.hid hc8
                    clear hc8
                    go_wp2_with fail
                    refine (HD.out 2 2 rfl (z1.tdiv z2) z2 _ _ _ _ _ (by decide) VQ.out V2.out XQ.out X2.out ETw.out EBw.out HC8.out).mono ?_
                    rintro e u9 ⟨rfl, hc9⟩
                    have HC9 := Lib.hid hc9
                    clear hc9
                    go_wp2_with fail
                    refine (HR.out 0 0 rfl (some (z1.tdiv z2 * z2)) (some (modZ z1 z2)) _ _ _ _ _ _ _ (by decide) (goodI_some VW.out) (goodI_some VM.out) XW.out rfl XM.out rfl ETo.out EBo.out HC9.out).mono ?_
                    rintro e u10 ⟨rfl, hc10⟩
                    have HC10 := Lib.hid hc10
                    clear hc10
                    go_wp2_with fail
                    refine (HAW.out _ HC10.out).mono ?_
                    rintro e u11 ⟨rfl, hc11⟩
                    have HC11 := Lib.hid hc11
                    clear hc11
                    go_wp2_with fail
                    go_ret
                    exact ⟨rfl, HC11.out⟩
        · clear HD HR
          cases o1 : intOk l1 <;> cases o2 : intOk l2 <;> cases o3 : intOk l3 <;> rw [o1] at HS1 <;> rw [o2] at HS2 <;> rw [o3] at HS3
          all_goals rw [o1, o2, o3] at hall
          all_goals first
            | (exfalso; revert hall; decide)
            | clear hall
          all_goals
            go_enter Tryz.func10, Tryz.ntmps10
            go_wp2_with fail
            refine (HS1.out _).mono ?_
            rintro e w1 ⟨b1, A1, n1, c1, rfl, hn1, hb1⟩
            have HB1 := Lib.hid (bt hb1 (below_a1 w1 (.cells #[.bool b1, .slice A1 n1 c1] 24)))
            clear hn1 hb1
            go_wp2_with fail
            refine (HS2.out _).mono ?_
            rintro e w2 ⟨b2, A2, n2, c2, rfl, hn2, hb2⟩
            have HB2 := Lib.hid (bt HB1.out (bt hb2 (below_a1 w2 (.cells #[.bool b2, .slice A2 n2 c2] 24))))
            clear hn2 hb2
            go_wp2_with fail
            refine (HS3.out _).mono ?_
            rintro e w3 ⟨b3, A3, n3, c3, rfl, hn3, hb3⟩
            have HB3 := Lib.hid (bt HB2.out (bt hb3 (below_a1 w3 (.cells #[.bool b3, .slice A3 n3 c3] 24))))
            clear hn3 hb3
            go_wp2_with fail
            refine (HAW.out _ HB3.out).mono ?_
            rintro e u4 ⟨rfl, hc4⟩
            have HC4 := Lib.hid hc4
            clear hc4
            go_wp2_with fail
            go_ret
            exact ⟨rfl, HC4.out⟩
      · have h1' : decide ((2147483647 : Int) < l1.length) = false := decide_eq_false (by omega)
        have h2' : decide ((2147483647 : Int) < l2.length) = false := decide_eq_false (by omega)
        have h3' : decide ((2147483647 : Int) < l3.length) = true := decide_eq_true (by omega)
        go_enter Tryz.func10, Tryz.ntmps10
        go_wp2_with fail
        go_ret
        exact ⟨rfl, Below.refl _ _⟩
    · have h1' : decide ((2147483647 : Int) < l1.length) = false := decide_eq_false (by omega)
      have h2' : decide ((2147483647 : Int) < l2.length) = true := decide_eq_true (by omega)
      go_enter Tryz.func10, Tryz.ntmps10
      go_wp2_with fail
      go_ret
      exact ⟨rfl, Below.refl _ _⟩
  · have h1' : decide ((2147483647 : Int) < l1.length) = true := decide_eq_true (by omega)
    go_enter Tryz.func10, Tryz.ntmps10
    go_wp2_with fail
    go_ret
    exact ⟨rfl, Below.refl _ _⟩
end Go.Proofs.YtiohlcfdoleooaaGreatDoor
