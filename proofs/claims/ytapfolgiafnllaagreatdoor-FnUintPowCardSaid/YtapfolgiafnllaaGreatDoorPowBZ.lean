/-
  RelativePow of cosmosmath.
-/
import Derived.Test.YtapfolgiafnllaaGreatDoorBn10Z
import Derived.Test.YtapfolgiafnllaaGreatDoorBn08Z
import Derived.Deep.RegionHeld3
import Derived.Deep.RegionWith
import Derived.Deep.LoopGhost
import Derived.Deep.DeepCutAuto
namespace Go.Proofs.YtapfolgiafnllaaGreatDoor
open Go.RowKit

set_option maxRecDepth 100000 in
set_option maxHeartbeats 8000000 in
theorem relPow_walk (gx gn gb : Nat) (x b : Int) (n : Nat) (w : World) (hx : IntAt w gx x) (hn : IntAt w gn (n : Int)) (hb : IntAt w gb b) (hk : KaraIs w) (hs : SqrIs w) (hd : DivIs w) (ox : overU x = false) (on : overU (n : Int) = false) (ob : overU b = false) :
    Calls Tryz.prog 29 #[.agg #[.pointer (some ⟨gx, 0, none⟩)], .agg #[.pointer (some ⟨gn, 0, none⟩)], .agg #[.pointer (some ⟨gb, 0, none⟩)]] w (PowPost w (powRef x n b)) := by
  have hm := powMem_start hx hn hb
  have px := overU_pos ox
  have pn := overU_pos on
  have pb := overU_pos ob
  have o2 : overU 2 = false := by decide
  have hN2 := fitsN_of on
  have hbt := half_fits ob
  have HKA := Lib.hid hk
  have HSQ := Lib.hid hs
  have HDI := Lib.hid hd
  have HOX := Lib.hid ox
  have HON := Lib.hid on
  have HOB := Lib.hid ob
  have HO2 := Lib.hid o2
  have HN2 := Lib.hid hN2
  have HNEW : Hid (∀ w', Calls Tryz.prog 62 #[.int .u64 2] w' (MadePost w' 2)) := Lib.hid fun w' => newUintU_walk 2 w' (by decide)
  obtain ⟨wa, hwa⟩ : ∃ wa, (((w.alloc (.cells #[.pointer (some ⟨gx, 0, none⟩)] 52)).alloc (.cells #[.pointer (some ⟨gn, 0, none⟩)] 52)).alloc (.cells #[.pointer (some ⟨gb, 0, none⟩)] 52)).alloc (.cells #[.pointer none] 52) = wa := ⟨_, rfl⟩
  rw [hwa] at hm
  have HM := Lib.hid hm
  have HWA := Lib.hid hwa
  clear hx hn hb hk hs hd ox on ob o2 hm hwa hN2
  by_cases hx0 : x = 0
  · have HZX : Hid (∀ w', IntAt w' gx x → Calls Tryz.prog 59 #[.agg #[.pointer (some ⟨gx, 0, none⟩)]] w' fun e w2 => e = .returned (.bool true) ∧ Below w'.heap.size w' w2) := Lib.hid fun w' h => (isZero_walk gx x w' h px).mono (by rw [decide_eq_true hx0]; exact fun _ _ h => h)
    by_cases hn0 : n = 0
    · have hR : powRef x n b = some 1 := by unfold powRef; rw [if_pos hx0, if_pos hn0]
      have HZN : Hid (∀ w', IntAt w' gn (n : Int) → Calls Tryz.prog 59 #[.agg #[.pointer (some ⟨gn, 0, none⟩)]] w' fun e w2 => e = .returned (.bool true) ∧ Below w'.heap.size w' w2) := Lib.hid fun w' h => (isZero_walk gn n w' h pn).mono (by rw [decide_eq_true (by omega)]; exact fun _ _ h => h)
      rw [hR]
      clear hR hx0 hn0
      go_enter Tryz.func29, Tryz.ntmps29
      go_upto_region 1 with fail
      rw [HWA.out]
      have c0 := one_cell HM.out.bx
      go_wp2_with fail
      refine (HZX.out wa HM.out.ix).mono ?_
      rintro e w1 ⟨rfl, hb1⟩
      have hm1 := HM.out.grow hb1
      have c1 := one_cell hm1.bn
      have HM1 := Lib.hid hm1
      clear hb1 hm1 c0
      go_wp2_with fail
      refine (HZN.out w1 HM1.out.iN).mono ?_
      rintro e w2 ⟨rfl, hb2⟩
      have HM2 := Lib.hid (HM1.out.grow hb2)
      clear hb2 c1
      go_wp2_with fail
      refine (oneUint_walk w2).mono ?_
      rintro e w3 ⟨g3, rfl, hi3, hb3, hf3⟩
      have hm3 := HM2.out.grow hb3
      have c3 := one_cell hm3.bz
      have f3 := one_free hm3.bz 0
      have HM3 := Lib.hid hm3
      have HI3 := Lib.hid hi3
      clear hb3 hm3 hi3
      go_wp2_with fail
      have m4 := HM3.out.setZ (.pointer (some ⟨g3, 0, none⟩))
      have m5 := m4.setZ (.pointer (some ⟨g3, 0, none⟩))
      have d5 := one_cell m5.bz
      exact bodyPost_ret (v := .agg #[.pointer (some ⟨g3, 0, none⟩)]) (by simp [results, Tryz.results29, go_sem, d5]) rfl
        ⟨g3, rfl, (HI3.out.store HM3.out.bz (by decide) (by decide) _).store m4.bz (by decide) (by decide) _, m5.below⟩
    · have hR : powRef x n b = some 0 := by unfold powRef; rw [if_pos hx0, if_neg hn0]
      have HZN : Hid (∀ w', IntAt w' gn (n : Int) → Calls Tryz.prog 59 #[.agg #[.pointer (some ⟨gn, 0, none⟩)]] w' fun e w2 => e = .returned (.bool false) ∧ Below w'.heap.size w' w2) := Lib.hid fun w' h => (isZero_walk gn n w' h pn).mono (by rw [decide_eq_false (by omega)]; exact fun _ _ h => h)
      rw [hR]
      clear hR hx0 hn0
      go_enter Tryz.func29, Tryz.ntmps29
      go_upto_region 1 with fail
      rw [HWA.out]
      have c0 := one_cell HM.out.bx
      go_wp2_with fail
      refine (HZX.out wa HM.out.ix).mono ?_
      rintro e w1 ⟨rfl, hb1⟩
      have hm1 := HM.out.grow hb1
      have c1 := one_cell hm1.bn
      have HM1 := Lib.hid hm1
      clear hb1 hm1 c0
      go_wp2_with fail
      refine (HZN.out w1 HM1.out.iN).mono ?_
      rintro e w2 ⟨rfl, hb2⟩
      have HM2 := Lib.hid (HM1.out.grow hb2)
      clear hb2 c1
      go_wp2_with fail
      refine (zeroUint_walk w2).mono ?_
      rintro e w3 ⟨g3, rfl, hi3, hb3, hf3⟩
      have hm3 := HM2.out.grow hb3
      have c3 := one_cell hm3.bz
      have f3 := one_free hm3.bz 0
      have HM3 := Lib.hid hm3
      have HI3 := Lib.hid hi3
      clear hb3 hm3 hi3
      go_wp2_with fail
      have m4 := HM3.out.setZ (.pointer (some ⟨g3, 0, none⟩))
      have m5 := m4.setZ (.pointer (some ⟨g3, 0, none⟩))
      have d5 := one_cell m5.bz
      exact bodyPost_ret (v := .agg #[.pointer (some ⟨g3, 0, none⟩)]) (by simp [results, Tryz.results29, go_sem, d5]) rfl
        ⟨g3, rfl, (HI3.out.store HM3.out.bz (by decide) (by decide) _).store m4.bz (by decide) (by decide) _, m5.below⟩
  · have HZX : Hid (∀ w', IntAt w' gx x → Calls Tryz.prog 59 #[.agg #[.pointer (some ⟨gx, 0, none⟩)]] w' fun e w2 => e = .returned (.bool false) ∧ Below w'.heap.size w' w2) := Lib.hid fun w' h => (isZero_walk gx x w' h px).mono (by rw [decide_eq_false hx0]; exact fun _ _ h => h)
    have hR : powRef x n b = powR b (b.tdiv 2) (n / 2) x (if n % 2 = 0 then b else x) := by unfold powRef; rw [if_neg hx0]
    obtain ⟨R, hRR⟩ : ∃ R, powRef x n b = R := ⟨_, rfl⟩
    rw [hRR] at hR ⊢
    have HMOD : Hid (∀ (m : Nat) (gm g2 : Nat) (w' : World), overU (m : Int) = false → IntAt w' gm (m : Int) → IntAt w' g2 2 → g2 ≠ gm → DivIs w' → Calls Tryz.prog 46 #[.agg #[.pointer (some ⟨gm, 0, none⟩)], .agg #[.pointer (some ⟨g2, 0, none⟩)]] w' (MadePost w' ((m % 2 : Nat) : Int))) := Lib.hid fun m gm g2 w' h1 h2 h3 h4 h5 => uintMod_walk gm g2 (m : Int) 2 w' h2 h3 h4 h5 (by decide) h1 HO2.out
    have HQUO : Hid (∀ (m : Int) (gm g2 : Nat) (w' : World), overU m = false → IntAt w' gm m → IntAt w' g2 2 → g2 ≠ gm → DivIs w' → Calls Tryz.prog 45 #[.agg #[.pointer (some ⟨gm, 0, none⟩)], .agg #[.pointer (some ⟨g2, 0, none⟩)]] w' (MadePost w' (m.tdiv 2))) := Lib.hid fun m gm g2 w' h1 h2 h3 h4 h5 => uintQuo_walk gm g2 m 2 w' h2 h3 h4 h5 (by decide) h1 HO2.out (half_fits h1)
    have HGT : Hid (∀ (m gm g2 : Nat) (w' : World) (bb : Bool), IntAt w' gm (m : Int) → IntAt w' g2 0 → g2 ≠ gm → decide ((0 : Int) < (m : Int)) = bb → Calls Tryz.prog 64 #[.agg #[.pointer (some ⟨gm, 0, none⟩)], .agg #[.pointer (some ⟨g2, 0, none⟩)]] w' fun e w2 => e = .returned (.bool bb) ∧ Below w'.heap.size w' w2) := Lib.hid fun m gm g2 w' bb h1 h2 h3 h4 => (uintGt_walk gm g2 (m : Int) 0 w' h1 h2 h3 (by omega) (by omega)).mono (by rw [h4]; exact fun _ _ h => h)
    have HEQ : Hid (∀ (u : Nat) (v : Int) (g1 g2 : Nat) (w' : World) (bb : Bool), 0 ≤ v → IntAt w' g1 (u : Int) → IntAt w' g2 v → g2 ≠ g1 → decide ((u : Int) = v) = bb → Calls Tryz.prog 63 #[.agg #[.pointer (some ⟨g1, 0, none⟩)], .agg #[.pointer (some ⟨g2, 0, none⟩)]] w' fun e w2 => e = .returned (.bool bb) ∧ Below w'.heap.size w' w2) := Lib.hid fun u v g1 g2 w' bb h0 h1 h2 h3 h4 => (uintEqual_walk g1 g2 (u : Int) v w' h1 h2 h3 (by omega) (by omega)).mono (by rw [h4]; exact fun _ _ h => h)
    obtain ⟨hf, hhf⟩ : ∃ hf, b.tdiv 2 = hf := ⟨_, rfl⟩
    rw [hhf] at hR hbt
    have HR := Lib.hid hR
    have HHF := Lib.hid hbt
    have HHE := Lib.hid hhf
    clear hhf
    clear hR hRR hx0 hbt
    obtain ⟨od, hod⟩ : ∃ od, decide (((n % 2 : Nat) : Int) = 0) = od := ⟨_, rfl⟩
    have HOD := Lib.hid hod
    clear hod
    obtain ⟨zz, hzz⟩ : ∃ zz, (if n % 2 = 0 then b else x) = zz := ⟨_, rfl⟩
    rw [hzz] at HR
    have HZZ : Hid (((od = true) → zz = b) ∧ ((od = false) → zz = x)) := Lib.hid ⟨fun h => by rw [← hzz, if_pos (by have := of_decide_eq_true (HOD.out.trans h); omega)], fun h => by rw [← hzz, if_neg (by have := of_decide_eq_false (HOD.out.trans h); omega)]⟩
    have HOZ : Hid (overU zz = false) := Lib.hid (by rw [← hzz]; split; exact HOB.out; exact HOX.out)
    clear hzz
    have hf0 : 0 ≤ hf := by have := overU_pos HHF.out; omega
    have pb0 : 0 ≤ b := by omega
    go_enter Tryz.func29, Tryz.ntmps29
    go_upto_region 1 with fail
    rw [HWA.out]
    have c0 := one_cell HM.out.bx
    go_wp2_with fail
    refine (HZX.out wa HM.out.ix).mono ?_
    rintro e w1 ⟨rfl, hb1⟩
    have hm1 := HM.out.grow hb1
    have c1 := one_cell hm1.bx
    have c2 := one_cell hm1.bz
    have f2 := one_free hm1.bz 0
    have HM1 := Lib.hid (hm1.setZ (.pointer (some ⟨gx, 0, none⟩)))
    clear hb1 hm1 c0
    go_upto_region 8 with fail
    clear c1 c2 f2
    obtain ⟨w2, hw2⟩ : ∃ w2, w1.setCell ⟨w.heap.size + 1 + 1 + 1, 0, none⟩ (.pointer (some ⟨gx, 0, none⟩)) = w2 := ⟨_, rfl⟩
    rw [hw2] at HM1 ⊢
    clear hw2
    have ln := HM1.out.iN.lt
    have hkept : w2.cell? ⟨w.heap.size + 1, 0, none⟩ = some (.pointer (some ⟨gn, 0, none⟩)) ∧ Below w2.heap.size w2 w2 := ⟨one_cell HM1.out.bn, Below.refl _ _⟩
    go_region_held3 (fun w' => w'.cell? ⟨w.heap.size + 1, 0, none⟩ = some (.pointer (some ⟨gn, 0, none⟩)) ∧ Below w2.heap.size w2 w')
      (first | (with_reducible exact iz_drew hkept) | (with_reducible exact iz_grow (by assumption) hgr) | (with_reducible assumption))
      (first
        | (go_at_call 62; (with_reducible refine (HNEW.out _).mono ?_); rintro e w3 ⟨g3, rfl, hi3, hgr, hf3⟩; have HI3 := Lib.hid hi3; have hs3 : gn < g3 := Nat.lt_of_lt_of_le ln (Nat.le_trans (by go_split_ands; exact Below.size (by assumption)) hf3); clear hi3 hf3)
        | (go_at_call 46; (with_reducible refine (HMOD.out n gn g3 _ HON.out (HM1.out.iN.below (by go_split_ands; assumption)) HI3.out (Nat.ne_of_gt hs3) (HDI.out.below (bt HM1.out.below (by go_split_ands; assumption)) HDI.out.lt)).mono ?_); rintro e w4 ⟨g4, rfl, hi4, hgr, hf4⟩; have HI4 := Lib.hid hi4; have hs4 : g4 < w4.heap.size := hi4.lt; clear hi4 hf4)
        | (go_at_call 61; (with_reducible refine (zeroUint_walk _).mono ?_); rintro e w5 ⟨g5, rfl, hi5, hgr, hf5⟩; have HI5 := Lib.hid hi5; have HI4 := Lib.hid (HI4.out.below hgr); have hs5 : g4 < g5 := Nat.lt_of_lt_of_le hs4 hf5; clear hi5 hf5)
        | (go_at_call 63; (with_reducible refine (HEQ.out (n % 2) 0 g4 g5 _ od (Int.le_refl _) HI4.out HI5.out (Nat.ne_of_gt hs5) HOD.out).mono ?_); rintro e w6 ⟨rfl, hgr⟩))
    all_goals
      have hb6 := (‹_ ∧ Below w2.heap.size w2 w6›).2
      have HM6 := Lib.hid (HM1.out.grow hb6)
      clear hb6
      go_upto_if 25 with fail
      go_cut [26] (fun _ wx => PowZ w x n b gx gn gb zz wx)
      case first =>
        cases od
        · go_wp2_with fail
          go_meet
          exact ⟨gx, HM6.out, by rw [HZZ.out.2 (by first | rfl | trivial)]; exact HM6.out.ix⟩
        · have c5 := one_cell HM6.out.bb
          have c6 := one_cell HM6.out.bz
          have f6 := one_free HM6.out.bz 0
          go_wp2_with fail
          go_meet
          exact ⟨gb, HM6.out.setZ _, by rw [HZZ.out.1 (by first | rfl | trivial)]; exact HM6.out.ib.store HM6.out.bz (by decide) (by decide) _⟩
      case rest =>
        obtain ⟨gz, hmz, hiz⟩ := hcut
        have HMZ := Lib.hid hmz
        have HIZ := Lib.hid hiz
        have lb := hmz.ib.lt
        have c5 := one_cell hmz.bb
        have c5a := fun o => one_cell (heap_old (o := o) hmz.bb)
        clear hmz hiz
        go_upto_region 10 with fail
        go_cut [7] (fun hv wx => HalfAt w x n b gx gn gb gz zz hf hv wx)
        case first =>
          have cb0 := Lib.hid (Below.refl wc.heap.size wc).drew
          go_region_with (first
            | (go_at_call 62; refine (HNEW.out _).mono ?_; rintro e w7 ⟨g7, rfl, hi7, hgr, hf7⟩; have HI7 := Lib.hid hi7; have l7 : gb < g7 := (by first | exact Nat.lt_of_lt_of_le lb hf7 | exact Nat.lt_of_lt_of_le lb (Nat.le_trans (Nat.le_trans (Nat.le_succ _) (Nat.le_of_eq (heap_size_alloc _ _).symm)) hf7)); have B7 := Lib.hid (show Below wc.heap.size wc w7 by first | exact bt cb0.out hgr | exact bt (bt cb0.out (below_a1 _ _)) hgr); have c7 := (B7.out.cell (by exact World.block_lt_of_cell? wc _ c5)).trans c5; have c7a := fun o => ((below_a1 w7 o).cell (by exact World.block_lt_of_cell? w7 _ c7)).trans c7; (try (have E1 := Lib.hid (show w7.heap[wc.heap.size]? = some (.cells #[.pointer none] 52 (0, 0)) from (hgr.block _ (by show _ < (wc.alloc _).heap.size; rw [heap_size_alloc]; omega)).trans (heap_here _ _)))); clear hi7 hgr hf7)
            | (go_at_call 45; (first | refine (HQUO.out b gb g7 w7 HOB.out (HMZ.out.ib.below B7.out) HI7.out (Nat.ne_of_gt l7) (HDI.out.below (bt HMZ.out.below B7.out) HDI.out.lt)).mono ?_ | refine (HQUO.out b gb g7 (w7.alloc _) HOB.out (HMZ.out.ib.below (bt B7.out (below_a1 _ _))) (HI7.out.below (below_a1 _ _)) (Nat.ne_of_gt l7) (HDI.out.below (bt HMZ.out.below (bt B7.out (below_a1 _ _))) HDI.out.lt)).mono ?_); rintro e w8 ⟨g8, rfl, hi8, hgr, hf8⟩; have HI8 := Lib.hid hi8; have B8 := Lib.hid (show Below wc.heap.size wc w8 by first | exact bt B7.out hgr | exact bt (bt B7.out (below_a1 _ _)) hgr); (try (have e1 := (hgr.block _ (iter_lt E1.out)).trans E1.out; have q0 := one_cell e1; have q1 := one_free e1 0; have F1 := Lib.hid e1; clear e1)); (try (have e2 : w8.heap[w7.heap.size]? = some (.cells #[.pointer none] 52 (0, 0)) := (hgr.block _ (by rw [heap_size_alloc]; omega)).trans (heap_here _ _); have q0 := one_cell e2; have q1 := one_free e2 0; have F2 := Lib.hid e2; clear e2)); clear hi8 hgr hf8))
          all_goals (go_wp2_with fail)
          all_goals go_meet
          all_goals (have I8 := HI8.out; have B8' := B8.out; have l78 := B7.out.size; rw [HHE.out] at I8)
          all_goals with_reducible first
            | exact half_new HMZ.out HIZ.out B8' I8
            | exact half_set HMZ.out HIZ.out B8' I8 F2.out l78
            | exact half_set HMZ.out HIZ.out B8' I8 F1.out (Nat.le_refl _)
        case rest =>
          obtain ⟨gh, bh, rfl, hat⟩ := hcut
          have HAT := Lib.hid hat
          have ln1 := hat.mem.iN.lt
          have c8 := one_cell hat.mem.bn
          clear hat c5 c5a lb HMZ HIZ
          go_upto_region 11 with fail
          go_cut [32] (fun _ wx => PowLoop w b hf gb gh bh R (n / 2) wx)
          case first =>
            have cb0 := Lib.hid (Below.refl wc.heap.size wc).drew
            go_region_with (first
              | (go_at_call 62; refine (HNEW.out _).mono ?_; rintro e w7 ⟨g7, rfl, hi7, hgr, hf7⟩; have HI7 := Lib.hid hi7; have l7 : gn < g7 := Nat.lt_of_lt_of_le ln1 hf7; have B7 := Lib.hid (bt cb0.out hgr); have c7 := (B7.out.cell (by exact World.block_lt_of_cell? wc _ c8)).trans c8; clear hi7 hgr hf7)
              | (go_at_call 45; refine (HQUO.out (n : Int) gn g7 w7 HON.out (HAT.out.mem.iN.below B7.out) HI7.out (Nat.ne_of_gt l7) (HDI.out.below (bt HAT.out.mem.below B7.out) HDI.out.lt)).mono ?_; rw [tdiv_two]; rintro e w8 ⟨g8, rfl, hi8, hgr, hf8⟩; have HI8 := Lib.hid hi8; have B8 := Lib.hid (bt B7.out hgr); have k8 := (HAT.out.grow B8.out).mem.bn; have q0 := one_cell k8; have q1 := one_free k8 0; clear hi8 hgr hf8 k8))
            all_goals (go_wp2_with fail)
            all_goals go_meet
            all_goals exact ⟨x, zz, gx, g8, gz, (HAT.out.grow B8.out).setN HI8.out, HOX.out, HOZ.out, by have := HN2.out; omega, HR.out.symm⟩
          case rest =>
            have HCUT := Lib.hid hcut
            clear hcut HAT c8 ln1
            go_wp2_with fail
            go_loopg [38] (n / 2) (fun k _ wr => PowLoop w b hf gb gh bh R k wr)
            case atStart => exact HCUT.out
            case round =>
              obtain ⟨x1, z1, gx1, gn1, gz1, hat, ox1, oz1, hNl, hpr⟩ := hrel
              obtain ⟨N, rfl⟩ : ∃ N, N = gk := ⟨gk, rfl⟩
              have HAT := Lib.hid hat
              have HX1 := Lib.hid ox1
              have HZ1 := Lib.hid oz1
              have HNL := Lib.hid hNl
              have HPR := Lib.hid hpr
              have ln1 := hat.mem.iN.lt
              have hkept : wr.cell? ⟨w.heap.size + 1, 0, none⟩ = some (.pointer (some ⟨gn1, 0, none⟩)) ∧ Below wr.heap.size wr wr := ⟨one_cell hat.mem.bn, Below.refl _ _⟩
              clear hat ox1 oz1 hNl hpr HCUT
              obtain ⟨nb, hnb⟩ : ∃ nb, decide ((0 : Int) < (N : Int)) = nb := ⟨_, rfl⟩
              have HNB := Lib.hid hnb
              clear hnb
              go_upto_region 12 with fail
              go_region_held3 (fun w' => w'.cell? ⟨w.heap.size + 1, 0, none⟩ = some (.pointer (some ⟨gn1, 0, none⟩)) ∧ Below wr.heap.size wr w')
                (first | (with_reducible exact iz_drew hkept) | (with_reducible exact iz_grow (by assumption) hgr) | (with_reducible assumption))
                (first
                  | (go_at_call 61; (with_reducible refine (zeroUint_walk _).mono ?_); rintro e w7 ⟨g7, rfl, hi7, hgr, hf7⟩; have HI7 := Lib.hid hi7; have hs7 : gn1 < g7 := Nat.lt_of_lt_of_le ln1 (Nat.le_trans (by go_split_ands; exact Below.size (by assumption)) hf7); clear hi7 hf7)
                  | (go_at_call 64; (with_reducible refine (HGT.out N gn1 g7 _ nb (HAT.out.mem.iN.below (by go_split_ands; assumption)) HI7.out (Nat.ne_of_gt hs7) HNB.out).mono ?_); rintro e w8 ⟨rfl, hgr⟩))
              all_goals
                have hb8 := (‹_ ∧ Below wr.heap.size wr w8›).2
                have HAT8 := Lib.hid (HAT.out.grow hb8)
                clear hb8 hkept HAT
                by_cases hN0 : N = 0
                · obtain rfl : nb = false := by rw [← HNB.out]; exact decide_eq_false (by omega)
                  have HR1 : Hid (R = some z1) := Lib.hid (by rw [← HPR.out, hN0]; exact powR_zero _ _ _ _)
                  have c9 := one_cell HAT8.out.mem.bz
                  have f9 := one_free HAT8.out.mem.bz 0
                  clear hN0
                  go_wp2_with fail
                  have m9 := HAT8.out.mem.setZ (.pointer (some ⟨gz1, 0, none⟩))
                  have d9 := one_cell m9.bz
                  exact bodyPost_ret (v := .agg #[.pointer (some ⟨gz1, 0, none⟩)]) (by simp [results, Tryz.results29, go_sem, d9]) rfl (by rw [HR1.out]; exact ⟨gz1, rfl, HAT8.out.iz.store HAT8.out.mem.bz (by decide) (by decide) _, m9.below⟩)
                · obtain rfl : nb = true := by rw [← HNB.out]; exact decide_eq_true (by omega)
                  have HN0 := Lib.hid hN0
                  have HRN : Hid (mulDiv b hf x1 x1 = none → R = none) := Lib.hid (fun h => HPR.out.symm.trans (powR_none HN0.out h))
                  clear hN0
                  have c90 := one_cell HAT8.out.mem.bx

                  obtain ⟨p0, hpp⟩ : ∃ p, x1 * x1 = p := ⟨_, rfl⟩
                  have HPP0 := Lib.hid hpp
                  clear hpp
                  go_wp2_with fail
                  cases ho1 : overU p0 with
                  | true =>
                    have HRR := Lib.hid (HRN.out (mulDiv_n1 (by rw [HPP0.out]; exact ho1)))
                    have HO := Lib.hid ho1
                    clear ho1
                    refine (uintSqr_panic gx1 x1 w8 HAT8.out.mem.ix (HSQ.out.below HAT8.out.mem.below) HX1.out (by rw [HPP0.out]; exact HO.out)).mono ?_
                    rintro e wp ⟨tp, vp, rfl, hbp⟩
                    have hp : PowPost w R (.panicked [{ v := .iface tp vp, recovered := false }]) wp := by rw [HRR.out]; exact ⟨_, _, rfl, bt HAT8.out.mem.below hbp⟩
                    have HP := Lib.hid hp
                    clear hp hbp
                    go_wp2_with fail
                    exact ⟨rfl, HP.out⟩
                  | false =>
                    have HO1 := Lib.hid ho1
                    clear ho1
                    refine (uintSqr_walk gx1 x1 w8 HAT8.out.mem.ix (HSQ.out.below HAT8.out.mem.below) HX1.out (by rw [HPP0.out]; exact HO1.out)).mono ?_
                    rw [HPP0.out]
                    rintro e wm ⟨gm, rfl, him, hbm, hfm⟩
                    have ATm := Lib.hid ((HAT8.out.grow hbm).grow (below_a1 wm (.cells #[.pointer (some ⟨gm, 0, none⟩)] 52)))
                    have Im := Lib.hid (him.below (below_a1 wm (.cells #[.pointer (some ⟨gm, 0, none⟩)] 52)))
                    have cmh := fun o => one_cell (heap_old (o := o) (HAT8.out.grow hbm).hh)
                    clear him hbm hfm c90  HAT8
                    go_wp2_with fail
                    cases ho2 : overU (p0 + hf) with
                    | true =>
                      have HRR := Lib.hid (HRN.out (mulDiv_n2 (by rw [HPP0.out]; exact HO1.out) (by rw [HPP0.out]; exact ho2)))
                      have HO := Lib.hid ho2
                      clear ho2
                      refine (uintAdd_panic gm gh p0 hf _ Im.out ATm.out.ih HO1.out HHF.out HO.out).mono ?_
                      rintro e wp ⟨tp, vp, rfl, hbp⟩
                      have hp : PowPost w R (.panicked [{ v := .iface tp vp, recovered := false }]) wp := by rw [HRR.out]; exact ⟨_, _, rfl, bt ATm.out.mem.below hbp⟩
                      have HP := Lib.hid hp
                      clear hp hbp
                      go_wp2_with fail
                      exact ⟨rfl, HP.out⟩
                    | false =>
                      have HO2' := Lib.hid ho2
                      clear ho2
                      refine (uintAdd_walk gm gh p0 hf _ Im.out ATm.out.ih HO1.out HHF.out HO2'.out).mono ?_
                      rintro e wq ⟨gq, rfl, hiq, hbq, hfq⟩
                      have ATq := Lib.hid ((ATm.out.grow hbq).grow (below_a1 wq (.cells #[.pointer (some ⟨gq, 0, none⟩)] 52)))
                      have Iq := Lib.hid (hiq.below (below_a1 wq (.cells #[.pointer (some ⟨gq, 0, none⟩)] 52)))
                      have cqb := fun o => one_cell (heap_old (o := o) (ATm.out.grow hbq).mem.bb)
                      have HNq := Lib.hid (show gb ≠ gq from by have h1 := ATm.out.mem.ib.lt; intro h2; exact Nat.lt_irrefl _ (Nat.lt_of_lt_of_le h1 (h2 ▸ hfq)))
                      clear hiq hbq hfq cmh ATm Im
                      go_wp2_with fail
                      by_cases hb0 : b = 0
                      · have HRR := Lib.hid (HRN.out (by rw [hb0]; exact mulDiv_n3 (by rw [HPP0.out]; exact HO1.out) (by rw [HPP0.out]; exact HO2'.out)))
                        have HB0 := Lib.hid hb0
                        clear hb0
                        refine (uintQuo_panic gq gb (p0 + hf) _ Iq.out (by rw [← HB0.out]; exact ATq.out.mem.ib)).mono ?_
                        rintro e wp ⟨tp, vp, rfl, hbp⟩
                        have hp : PowPost w R (.panicked [{ v := .iface tp vp, recovered := false }]) wp := by rw [HRR.out]; exact ⟨_, _, rfl, bt ATq.out.mem.below hbp⟩
                        have HP := Lib.hid hp
                        clear hp hbp
                        go_wp2_with fail
                        exact ⟨rfl, HP.out⟩
                      · have HBN := Lib.hid hb0
                        clear hb0
                        have HMD0 := Lib.hid (mulDiv_s (b := b) (h := hf) (x := x1) (y := x1) (by rw [HPP0.out]; exact HO1.out) (by rw [HPP0.out]; exact HO2'.out) HBN.out)
                        rw [HPP0.out] at HMD0
                        refine (uintQuo_walk gq gb (p0 + hf) b _ Iq.out ATq.out.mem.ib HNq.out (HDI.out.below ATq.out.mem.below HDI.out.lt) HBN.out HO2'.out HOB.out (mulDiv_fits pb0 hf0 (by have := overU_pos HX1.out; omega) (by have := overU_pos HX1.out; omega) HMD0.out).1).mono ?_
                        obtain ⟨y0, hyy⟩ : ∃ y, (p0 + hf).tdiv b = y := ⟨_, rfl⟩
                        rw [hyy] at HMD0 ⊢
                        have HY0 : Hid (overU y0 = false) := Lib.hid (mulDiv_fits pb0 hf0 (by have := overU_pos HX1.out; omega) (by have := overU_pos HX1.out; omega) HMD0.out).1
                        rintro e wt ⟨gt0, rfl, hit, hbt, hft⟩
                        have ATt := Lib.hid ((ATq.out.grow hbt).setX hit)
                        have ct := one_cell (ATq.out.grow hbt).mem.bx
                        have ft := one_free (ATq.out.grow hbt).mem.bx 0
                        have hnx := Lib.hid (show gt0 ≠ gz1 from by have h1 := ATq.out.iz.lt; intro h2; exact Nat.lt_irrefl _ (Nat.lt_of_lt_of_le h1 (h2 ▸ hft)))
                        clear hyy hit hbt hft cqb ATq Iq
                        go_upto_region 16 with fail
                        obtain ⟨wu, hwu⟩ : ∃ wu, wt.setCell ⟨w.heap.size, 0, none⟩ (.pointer (some ⟨gt0, 0, none⟩)) = wu := ⟨_, rfl⟩
                        rw [hwu] at ATt ⊢
                        clear hwu ct ft
                        have ln2 := ATt.out.mem.iN.lt
                        obtain ⟨ob, hob⟩ : ∃ ob, decide (((N % 2 : Nat) : Int) = 1) = ob := ⟨_, rfl⟩
                        have HOBB := Lib.hid hob
                        clear hob
                        have hkept2 : wu.cell? ⟨w.heap.size + 1, 0, none⟩ = some (.pointer (some ⟨gn1, 0, none⟩)) ∧ Below wu.heap.size wu wu := ⟨one_cell ATt.out.mem.bn, Below.refl _ _⟩
                        go_region_held3 (fun w' => w'.cell? ⟨w.heap.size + 1, 0, none⟩ = some (.pointer (some ⟨gn1, 0, none⟩)) ∧ Below wu.heap.size wu w')
                          (first | (with_reducible exact iz_drew hkept2) | (with_reducible exact iz_grow (by assumption) hgr) | (with_reducible assumption))
                          (first
                            | (go_at_call 62; (with_reducible refine (HNEW.out _).mono ?_); rintro e w3 ⟨g3, rfl, hi3, hgr, hf3⟩; have HI3 := Lib.hid hi3; have hs3 : gn1 < g3 := Nat.lt_of_lt_of_le ln2 (Nat.le_trans (by go_split_ands; exact Below.size (by assumption)) hf3); clear hi3 hf3)
                            | (go_at_call 46; (with_reducible refine (HMOD.out N gn1 g3 _ (fitsN HNL.out) (ATt.out.mem.iN.below (by go_split_ands; assumption)) HI3.out (Nat.ne_of_gt hs3) (HDI.out.below (bt ATt.out.mem.below (by go_split_ands; assumption)) HDI.out.lt)).mono ?_); rintro e w4 ⟨g4, rfl, hi4, hgr, hf4⟩; have HI4 := Lib.hid hi4; have hs4 : g4 < w4.heap.size := hi4.lt; clear hi4 hf4)
                            | (go_at_call 60; (with_reducible refine (oneUint_walk _).mono ?_); rintro e w5 ⟨g5, rfl, hi5, hgr, hf5⟩; have HI5 := Lib.hid hi5; have HI4 := Lib.hid (HI4.out.below hgr); have hs5 : g4 < g5 := Nat.lt_of_lt_of_le hs4 hf5; clear hi5 hf5)
                            | (go_at_call 63; (with_reducible refine (HEQ.out (N % 2) 1 g4 g5 _ ob (by decide) HI4.out HI5.out (Nat.ne_of_gt hs5) HOBB.out).mono ?_); rintro e w6 ⟨rfl, hgr⟩))
                        all_goals
                          have hb6 := (‹_ ∧ Below wu.heap.size wu w6›).2
                          have ATv := Lib.hid (ATt.out.grow hb6)
                          clear hb6 hkept2 ATt
                          by_cases hodd : N % 2 = 1
                          · obtain rfl : ob = true := by rw [← HOBB.out]; exact decide_eq_true (by omega)
                            have HODD := Lib.hid hodd
                            have HRN2 : Hid (mulDiv b hf z1 y0 = none → R = none) := Lib.hid (fun h => HPR.out.symm.trans ((powR_oddM HN0.out HMD0.out HODD.out).trans (powR1_none h)))
                            clear hodd HRN
                            have HRN := HRN2
                            clear HRN2
                            obtain ⟨x2, hx2⟩ : ∃ x2, x2 = y0 := ⟨_, rfl⟩
                            obtain ⟨gx2, hgx2⟩ : ∃ gx2, gx2 = gt0 := ⟨_, rfl⟩
                            subst hx2
                            subst hgx2
                            have HX2 := HY0
                            have HNE := hnx
                            clear hnx
                            have c91 := one_cell ATv.out.mem.bx
                            have c9z := one_cell ATv.out.mem.bz
                            obtain ⟨p1, hpp⟩ : ∃ p, z1 * x2 = p := ⟨_, rfl⟩
                            have HPP1 := Lib.hid hpp
                            clear hpp
                            go_wp2_with fail
                            cases ho1 : overU p1 with
                            | true =>
                              have HRR := Lib.hid (HRN.out (mulDiv_n1 (by rw [HPP1.out]; exact ho1)))
                              have HO := Lib.hid ho1
                              clear ho1
                              refine (uintMul_panic gz1 gx2 z1 x2 w6 ATv.out.iz ATv.out.mem.ix HNE.out (HKA.out.below ATv.out.mem.below) HZ1.out HX2.out (by rw [HPP1.out]; exact HO.out)).mono ?_
                              rintro e wp ⟨tp, vp, rfl, hbp⟩
                              have hp : PowPost w R (.panicked [{ v := .iface tp vp, recovered := false }]) wp := by rw [HRR.out]; exact ⟨_, _, rfl, bt ATv.out.mem.below hbp⟩
                              have HP := Lib.hid hp
                              clear hp hbp
                              go_wp2_with fail
                              exact ⟨rfl, HP.out⟩
                            | false =>
                              have HO1 := Lib.hid ho1
                              clear ho1
                              refine (uintMul_walk gz1 gx2 z1 x2 w6 ATv.out.iz ATv.out.mem.ix HNE.out (HKA.out.below ATv.out.mem.below) HZ1.out HX2.out (by rw [HPP1.out]; exact HO1.out)).mono ?_
                              rw [HPP1.out]
                              rintro e wm ⟨gm, rfl, him, hbm, hfm⟩
                              have ATm := Lib.hid ((ATv.out.grow hbm).grow (below_a1 wm (.cells #[.pointer (some ⟨gm, 0, none⟩)] 52)))
                              have Im := Lib.hid (him.below (below_a1 wm (.cells #[.pointer (some ⟨gm, 0, none⟩)] 52)))
                              have cmh := fun o => one_cell (heap_old (o := o) (ATv.out.grow hbm).hh)
                              clear him hbm hfm c91 c9z ATv
                              go_wp2_with fail
                              cases ho2 : overU (p1 + hf) with
                              | true =>
                                have HRR := Lib.hid (HRN.out (mulDiv_n2 (by rw [HPP1.out]; exact HO1.out) (by rw [HPP1.out]; exact ho2)))
                                have HO := Lib.hid ho2
                                clear ho2
                                refine (uintAdd_panic gm gh p1 hf _ Im.out ATm.out.ih HO1.out HHF.out HO.out).mono ?_
                                rintro e wp ⟨tp, vp, rfl, hbp⟩
                                have hp : PowPost w R (.panicked [{ v := .iface tp vp, recovered := false }]) wp := by rw [HRR.out]; exact ⟨_, _, rfl, bt ATm.out.mem.below hbp⟩
                                have HP := Lib.hid hp
                                clear hp hbp
                                go_wp2_with fail
                                exact ⟨rfl, HP.out⟩
                              | false =>
                                have HO2' := Lib.hid ho2
                                clear ho2
                                refine (uintAdd_walk gm gh p1 hf _ Im.out ATm.out.ih HO1.out HHF.out HO2'.out).mono ?_
                                rintro e wq ⟨gq, rfl, hiq, hbq, hfq⟩
                                have ATq := Lib.hid ((ATm.out.grow hbq).grow (below_a1 wq (.cells #[.pointer (some ⟨gq, 0, none⟩)] 52)))
                                have Iq := Lib.hid (hiq.below (below_a1 wq (.cells #[.pointer (some ⟨gq, 0, none⟩)] 52)))
                                have cqb := fun o => one_cell (heap_old (o := o) (ATm.out.grow hbq).mem.bb)
                                have HNq := Lib.hid (show gb ≠ gq from by have h1 := ATm.out.mem.ib.lt; intro h2; exact Nat.lt_irrefl _ (Nat.lt_of_lt_of_le h1 (h2 ▸ hfq)))
                                clear hiq hbq hfq cmh ATm Im
                                go_wp2_with fail
                                by_cases hb0 : b = 0
                                · have HRR := Lib.hid (HRN.out (by rw [hb0]; exact mulDiv_n3 (by rw [HPP1.out]; exact HO1.out) (by rw [HPP1.out]; exact HO2'.out)))
                                  have HB0 := Lib.hid hb0
                                  clear hb0
                                  refine (uintQuo_panic gq gb (p1 + hf) _ Iq.out (by rw [← HB0.out]; exact ATq.out.mem.ib)).mono ?_
                                  rintro e wp ⟨tp, vp, rfl, hbp⟩
                                  have hp : PowPost w R (.panicked [{ v := .iface tp vp, recovered := false }]) wp := by rw [HRR.out]; exact ⟨_, _, rfl, bt ATq.out.mem.below hbp⟩
                                  have HP := Lib.hid hp
                                  clear hp hbp
                                  go_wp2_with fail
                                  exact ⟨rfl, HP.out⟩
                                · have HBN := Lib.hid hb0
                                  clear hb0
                                  have HMD1 := Lib.hid (mulDiv_s (b := b) (h := hf) (x := z1) (y := x2) (by rw [HPP1.out]; exact HO1.out) (by rw [HPP1.out]; exact HO2'.out) HBN.out)
                                  rw [HPP1.out] at HMD1
                                  refine (uintQuo_walk gq gb (p1 + hf) b _ Iq.out ATq.out.mem.ib HNq.out (HDI.out.below ATq.out.mem.below HDI.out.lt) HBN.out HO2'.out HOB.out (mulDiv_fits pb0 hf0 (by have := overU_pos HZ1.out; omega) (by have := overU_pos HX2.out; omega) HMD1.out).1).mono ?_
                                  obtain ⟨y1, hyy⟩ : ∃ y, (p1 + hf).tdiv b = y := ⟨_, rfl⟩
                                  rw [hyy] at HMD1 ⊢
                                  have HY1 : Hid (overU y1 = false) := Lib.hid (mulDiv_fits pb0 hf0 (by have := overU_pos HZ1.out; omega) (by have := overU_pos HX2.out; omega) HMD1.out).1
                                  rintro e wt ⟨gt1, rfl, hit, hbt, hft⟩
                                  have ATt := Lib.hid ((ATq.out.grow hbt).setZ hit)
                                  have ct := one_cell (ATq.out.grow hbt).mem.bz
                                  have ft := one_free (ATq.out.grow hbt).mem.bz 0
                                  have hnx := Lib.hid (show gt1 ≠ gz1 from by have h1 := ATq.out.iz.lt; intro h2; exact Nat.lt_irrefl _ (Nat.lt_of_lt_of_le h1 (h2 ▸ hft)))
                                  clear hyy hit hbt hft cqb ATq Iq
                                  go_upto_region 20 with fail
                                  obtain ⟨wz, hwz⟩ : ∃ wz, wt.setCell ⟨w.heap.size + 1 + 1 + 1, 0, none⟩ (.pointer (some ⟨gt1, 0, none⟩)) = wz := ⟨_, rfl⟩
                                  rw [hwz] at ATt ⊢
                                  clear hwz ct ft
                                  have lnl := ATt.out.mem.iN.lt
                                  have cln := one_cell ATt.out.mem.bn
                                  have clb := Lib.hid (Below.refl wz.heap.size wz).drew
                                  go_upto_region 20 with fail
                                  go_region_with (first
                                    | (go_at_call 62; refine (HNEW.out _).mono ?_; rintro e w7 ⟨g7, rfl, hi7, hgr, hf7⟩; have HI7 := Lib.hid hi7; have l7 : gn1 < g7 := Nat.lt_of_lt_of_le lnl hf7; have B7 := Lib.hid (bt clb.out hgr); have c7 := (B7.out.cell (by exact World.block_lt_of_cell? wz _ cln)).trans cln; clear hi7 hgr hf7)
                                    | (go_at_call 45; refine (HQUO.out (N : Int) gn1 g7 w7 (fitsN HNL.out) (ATt.out.mem.iN.below B7.out) HI7.out (Nat.ne_of_gt l7) (HDI.out.below (bt ATt.out.mem.below B7.out) HDI.out.lt)).mono ?_; rw [tdiv_two]; rintro e w8 ⟨g8, rfl, hi8, hgr, hf8⟩; have HI8 := Lib.hid hi8; have B8 := Lib.hid (bt B7.out hgr); have k8 := (ATt.out.grow B8.out).mem.bn; have q0 := one_cell k8; have q1 := one_free k8 0; clear hi8 hgr hf8 k8))
                                  all_goals (go_wp2_with fail)
                                  all_goals (go_roundg (N / 2))
                                  all_goals first | exact Nat.div_lt_self (Nat.pos_of_ne_zero HN0.out) (by decide) | exact ⟨x2, y1, gx2, g8, gt1, (ATt.out.grow B8.out).setN HI8.out, HX2.out, HY1.out, by have := HNL.out; omega, (powR1_some HMD1.out).symm.trans ((powR_oddM HN0.out HMD0.out HODD.out).symm.trans HPR.out)⟩
                          · obtain rfl : ob = false := by rw [← HOBB.out]; exact decide_eq_false (by omega)
                            have HODD := Lib.hid hodd
                            clear hodd HRN
                            have lnl := ATv.out.mem.iN.lt
                            have cln := one_cell ATv.out.mem.bn
                            have clb := Lib.hid (Below.refl w6.heap.size w6).drew
                            go_upto_region 20 with fail
                            go_region_with (first
                              | (go_at_call 62; refine (HNEW.out _).mono ?_; rintro e w7 ⟨g7, rfl, hi7, hgr, hf7⟩; have HI7 := Lib.hid hi7; have l7 : gn1 < g7 := Nat.lt_of_lt_of_le lnl hf7; have B7 := Lib.hid (bt clb.out hgr); have c7 := (B7.out.cell (by exact World.block_lt_of_cell? w6 _ cln)).trans cln; clear hi7 hgr hf7)
                              | (go_at_call 45; refine (HQUO.out (N : Int) gn1 g7 w7 (fitsN HNL.out) (ATv.out.mem.iN.below B7.out) HI7.out (Nat.ne_of_gt l7) (HDI.out.below (bt ATv.out.mem.below B7.out) HDI.out.lt)).mono ?_; rw [tdiv_two]; rintro e w8 ⟨g8, rfl, hi8, hgr, hf8⟩; have HI8 := Lib.hid hi8; have B8 := Lib.hid (bt B7.out hgr); have k8 := (ATv.out.grow B8.out).mem.bn; have q0 := one_cell k8; have q1 := one_free k8 0; clear hi8 hgr hf8 k8))
                            all_goals (go_wp2_with fail)
                            all_goals (go_roundg (N / 2))
                            all_goals first | exact Nat.div_lt_self (Nat.pos_of_ne_zero HN0.out) (by decide) | exact ⟨y0, z1, gt0, g8, gz1, (ATv.out.grow B8.out).setN HI8.out, HY0.out, HZ1.out, by have := HNL.out; omega, (powR_even HN0.out HMD0.out HODD.out).symm.trans HPR.out⟩
end Go.Proofs.YtapfolgiafnllaaGreatDoor
