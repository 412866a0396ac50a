/-
  The reference's Minus, Add, Sub.
  The reference's Sub.
-/
import Derived.Test.YtapfolgiafnllaaGreatDoorSpecAddZ
import Derived.Deep.RegionHeld3
namespace Go.Proofs.YtapfolgiafnllaaGreatDoor
open Go.RowKit

theorem minus_sign (x : Int) : ((!decide (x < 0)) && !(toD 10 x.natAbs).isEmpty) = decide (-x < 0) := by
  rw [toD_isEmpty (by decide)]
  by_cases h : x < 0
  · rw [decide_eq_true h, decide_eq_false (show ¬ -x < 0 by omega)]; rfl
  · rw [decide_eq_false h]
    by_cases h0 : x = 0
    · subst h0; rfl
    · rw [decide_eq_false (show ¬ x.natAbs = 0 by omega), decide_eq_true (show -x < 0 by omega)]; rfl

/-- What holds on the way: old memory, the place of the result. -/
structure AddM (w w' : World) : Prop where
  below : Below w.heap.size w w'
  blk : ∃ x C n c, w'.heap[w.heap.size + 1 + 1]? = some (.cells #[.bool x, .slice C n c] 25 (0, 0))
theorem addm_grow {w w1 w2 : World} {a b c d : Value} (h : w1.cell? ⟨w.heap.size, 0, none⟩ = some a ∧ w1.cell? ⟨w.heap.size, 1, none⟩ = some b ∧ w1.cell? ⟨w.heap.size + 1, 0, none⟩ = some c ∧ w1.cell? ⟨w.heap.size + 1, 1, none⟩ = some d ∧ AddM w w1)
    (k : Below w1.heap.size w1 w2) : w2.cell? ⟨w.heap.size, 0, none⟩ = some a ∧ w2.cell? ⟨w.heap.size, 1, none⟩ = some b ∧ w2.cell? ⟨w.heap.size + 1, 0, none⟩ = some c ∧ w2.cell? ⟨w.heap.size + 1, 1, none⟩ = some d ∧ AddM w w2 := by
  obtain ⟨h1, h2, h3, h4, h5, x, C, n, m, h8⟩ := h
  have l1 := World.block_lt_of_cell? w1 _ h1
  have l2 := World.block_lt_of_cell? w1 _ h3
  exact ⟨(k.cell (by exact l1)).trans h1, (k.cell (by exact l1)).trans h2, (k.cell (by exact l2)).trans h3, (k.cell (by exact l2)).trans h4, bt h5 k, x, C, n, m, (k.block _ (iter_lt h8)).trans h8⟩
theorem addm_drew {w w1 : World} {a b c d : Value} (h : w1.cell? ⟨w.heap.size, 0, none⟩ = some a ∧ w1.cell? ⟨w.heap.size, 1, none⟩ = some b ∧ w1.cell? ⟨w.heap.size + 1, 0, none⟩ = some c ∧ w1.cell? ⟨w.heap.size + 1, 1, none⟩ = some d ∧ AddM w w1) :
    w1.drew.cell? ⟨w.heap.size, 0, none⟩ = some a ∧ w1.drew.cell? ⟨w.heap.size, 1, none⟩ = some b ∧ w1.drew.cell? ⟨w.heap.size + 1, 0, none⟩ = some c ∧ w1.drew.cell? ⟨w.heap.size + 1, 1, none⟩ = some d ∧ AddM w w1.drew :=
  ⟨h.1, h.2.1, h.2.2.1, h.2.2.2.1, h.2.2.2.2.1.drew, h.2.2.2.2.2⟩
theorem addm_set {w w1 : World} {a b c d : Value} {y : Bool} {D : Option Addr} {p q : Nat} (h : w1.cell? ⟨w.heap.size, 0, none⟩ = some a ∧ w1.cell? ⟨w.heap.size, 1, none⟩ = some b ∧ w1.cell? ⟨w.heap.size + 1, 0, none⟩ = some c ∧ w1.cell? ⟨w.heap.size + 1, 1, none⟩ = some d ∧ AddM w w1) :
    ((w1.setCell ⟨w.heap.size + 1 + 1, 0, none⟩ (.bool y)).setCell ⟨w.heap.size + 1 + 1, 1, none⟩ (.slice D p q)).cell? ⟨w.heap.size, 0, none⟩ = some a ∧ ((w1.setCell ⟨w.heap.size + 1 + 1, 0, none⟩ (.bool y)).setCell ⟨w.heap.size + 1 + 1, 1, none⟩ (.slice D p q)).cell? ⟨w.heap.size, 1, none⟩ = some b ∧
    ((w1.setCell ⟨w.heap.size + 1 + 1, 0, none⟩ (.bool y)).setCell ⟨w.heap.size + 1 + 1, 1, none⟩ (.slice D p q)).cell? ⟨w.heap.size + 1, 0, none⟩ = some c ∧ ((w1.setCell ⟨w.heap.size + 1 + 1, 0, none⟩ (.bool y)).setCell ⟨w.heap.size + 1 + 1, 1, none⟩ (.slice D p q)).cell? ⟨w.heap.size + 1, 1, none⟩ = some d ∧
    AddM w ((w1.setCell ⟨w.heap.size + 1 + 1, 0, none⟩ (.bool y)).setCell ⟨w.heap.size + 1 + 1, 1, none⟩ (.slice D p q)) := by
  obtain ⟨h1, h2, h3, h4, h5, x, C, n, m, h8⟩ := h
  have e : ∀ (b o : Nat), b < w.heap.size + 1 + 1 → ((w1.setCell ⟨w.heap.size + 1 + 1, 0, none⟩ (.bool y)).setCell ⟨w.heap.size + 1 + 1, 1, none⟩ (.slice D p q)).cell? ⟨b, o, none⟩ = w1.cell? ⟨b, o, none⟩ := fun b o hb =>
    (cell_other (by show b ≠ w.heap.size + 1 + 1; omega)).trans (cell_other (by show b ≠ w.heap.size + 1 + 1; omega))
  exact ⟨(e _ _ (by omega)).trans h1, (e _ _ (by omega)).trans h2, (e _ _ (by omega)).trans h3, (e _ _ (by omega)).trans h4,
    (h5.setCell (p := ⟨w.heap.size + 1 + 1, 0, none⟩) (by show w.heap.size ≤ w.heap.size + 1 + 1; omega) _).setCell (p := ⟨w.heap.size + 1 + 1, 1, none⟩) (by show w.heap.size ≤ w.heap.size + 1 + 1; omega) _, y, D, p, q, cells_set (cells_set h8 0 _) 1 _⟩
theorem addm_blk {w w1 w2 : World} (k : Below w1.heap.size w1 w2) (h : AddM w w1) : ∃ x C n c, w2.heap[w.heap.size + 1 + 1]? = some (.cells #[.bool x, .slice C n c] 25 (0, 0)) := by
  obtain ⟨_, x, C, n, c, h8⟩ := h
  exact ⟨x, C, n, c, (k.block _ (iter_lt h8)).trans h8⟩
theorem add_sign_same {x y : Int} (h : decide (x < 0) = decide (y < 0)) : (decide (x < 0) && !(toD 10 (x.natAbs + y.natAbs)).isEmpty) = decide (x + y < 0) ∧ (x + y).natAbs = x.natAbs + y.natAbs := by
  rw [toD_isEmpty (by decide)]
  by_cases hx : x < 0
  · have hy : y < 0 := by rw [decide_eq_true hx] at h; exact of_decide_eq_true h.symm
    rw [decide_eq_true hx, decide_eq_true (show x + y < 0 by omega), decide_eq_false (show ¬ x.natAbs + y.natAbs = 0 by omega)]
    exact ⟨rfl, by omega⟩
  · have hy : ¬ y < 0 := by rw [decide_eq_false hx] at h; exact of_decide_eq_false h.symm
    rw [decide_eq_false hx, decide_eq_false (show ¬ x + y < 0 by omega)]
    exact ⟨rfl, by omega⟩
theorem add_sign_other {x y : Int} (h : decide (y < 0) = !decide (x < 0)) (hle : y.natAbs ≤ x.natAbs) : (decide (x < 0) && !(toD 10 (x.natAbs - y.natAbs)).isEmpty) = decide (x + y < 0) ∧ (x + y).natAbs = x.natAbs - y.natAbs := by
  rw [toD_isEmpty (by decide)]
  by_cases hx : x < 0
  · have hy : ¬ y < 0 := by rw [decide_eq_true hx] at h; exact of_decide_eq_false h
    rw [decide_eq_true hx]
    by_cases h0 : x.natAbs - y.natAbs = 0
    · rw [decide_eq_true h0, decide_eq_false (show ¬ x + y < 0 by omega)]; exact ⟨rfl, by omega⟩
    · rw [decide_eq_false h0, decide_eq_true (show x + y < 0 by omega)]; exact ⟨rfl, by omega⟩
  · have hy : y < 0 := by rw [decide_eq_false hx] at h; exact of_decide_eq_true h
    rw [decide_eq_false hx, decide_eq_false (show ¬ x + y < 0 by omega)]
    exact ⟨rfl, by omega⟩

set_option maxRecDepth 100000 in
set_option maxHeartbeats 4000000 in
theorem add_walk (v u : Value) (x y : Int) (w : World) (hv : IsNum w v x) (hu : IsNum w u y) (hlx : (toD 10 x.natAbs).length ≤ 1000) (hly : (toD 10 y.natAbs).length ≤ 1000) :
    Calls Tryz.prog 26 #[v, u] w (IsPost w (x + y)) := by
  obtain ⟨A, c, rfl, hc, hcm, hr⟩ := hv.open
  obtain ⟨B, d, rfl, hd, hdm, hs⟩ := hu.open
  have HR := Lib.hid hr
  have HS := Lib.hid hs
  clear hr hs hv hu
  have hss := add_sign_same (x := x) (y := y)
  have hsx := add_sign_other (x := x) (y := y)
  have hsy := add_sign_other (x := y) (y := x)
  rw [Int.add_comm y x] at hsy
  have hcw : ∀ (w1 : World) (_ : Rd w1 A (u8s (toD 10 x.natAbs))) (_ : Rd w1 B (u8s (toD 10 y.natAbs))), _ := fun w1 h1 h2 => compare_walk x.natAbs y.natAbs A B c d w1 hc hd hcm hdm h1 h2
  have hpw : ∀ (w1 : World) (_ : Rd w1 A (u8s (toD 10 x.natAbs))) (_ : Rd w1 B (u8s (toD 10 y.natAbs))), _ := fun w1 h1 h2 => plus_walk x.natAbs y.natAbs A B c d w1 hc hd hcm hdm h1 h2 hlx hly
  have hlw : ∀ (_ : y.natAbs ≤ x.natAbs) (w1 : World) (_ : Rd w1 A (u8s (toD 10 x.natAbs))) (_ : Rd w1 B (u8s (toD 10 y.natAbs))), _ := fun h0 w1 h1 h2 => less_walk x.natAbs y.natAbs A B c d w1 h0 hc hd hcm hdm h1 h2 hlx hly
  have hgw : ∀ (_ : x.natAbs ≤ y.natAbs) (w1 : World) (_ : Rd w1 A (u8s (toD 10 x.natAbs))) (_ : Rd w1 B (u8s (toD 10 y.natAbs))), _ := fun h0 w1 h1 h2 => less_walk y.natAbs x.natAbs B A d c w1 h0 hd hc hdm hcm h2 h1 hly hlx
  obtain ⟨n, hn⟩ : ∃ n, decide (x < 0) = n := ⟨_, rfl⟩
  obtain ⟨m, hm⟩ : ∃ m, decide (y < 0) = m := ⟨_, rfl⟩
  obtain ⟨q, hq⟩ : ∃ q, decide (x + y < 0) = q := ⟨_, rfl⟩
  rw [hn, hm, hq] at hss hsx hsy
  rw [hn, hm]
  obtain ⟨ds, hds⟩ : ∃ ds, toD 10 x.natAbs = ds := ⟨_, rfl⟩
  obtain ⟨es, hes⟩ : ∃ es, toD 10 y.natAbs = es := ⟨_, rfl⟩
  rw [hds] at hc hlx HR ⊢
  rw [hes] at hd hly HS ⊢
  rw [hds, hes] at hcw hpw hlw hgw
  have HC := Lib.hid hcw
  have HP := Lib.hid hpw
  have HL := Lib.hid hlw
  have HG := Lib.hid hgw
  have HQ := Lib.hid hq
  have hkept : ((((w.alloc (.cells #[.bool n, .slice A ds.length c] 25)).alloc (.cells #[.bool m, .slice B es.length d] 25)).alloc (.cells #[.bool false, .slice none 0 0] 25)).cell? ⟨w.heap.size, 0, none⟩ = some (.bool n) ∧
      (((w.alloc (.cells #[.bool n, .slice A ds.length c] 25)).alloc (.cells #[.bool m, .slice B es.length d] 25)).alloc (.cells #[.bool false, .slice none 0 0] 25)).cell? ⟨w.heap.size, 1, none⟩ = some (.slice A ds.length c) ∧
      (((w.alloc (.cells #[.bool n, .slice A ds.length c] 25)).alloc (.cells #[.bool m, .slice B es.length d] 25)).alloc (.cells #[.bool false, .slice none 0 0] 25)).cell? ⟨w.heap.size + 1, 0, none⟩ = some (.bool m) ∧
      (((w.alloc (.cells #[.bool n, .slice A ds.length c] 25)).alloc (.cells #[.bool m, .slice B es.length d] 25)).alloc (.cells #[.bool false, .slice none 0 0] 25)).cell? ⟨w.heap.size + 1, 1, none⟩ = some (.slice B es.length d) ∧
      AddM w (((w.alloc (.cells #[.bool n, .slice A ds.length c] 25)).alloc (.cells #[.bool m, .slice B es.length d] 25)).alloc (.cells #[.bool false, .slice none 0 0] 25))) := by
    have e0 := heap_old (o := .cells #[.bool false, .slice none 0 0] 25) (heap_old (o := .cells #[.bool m, .slice B es.length d] 25) (heap_here w (.cells #[.bool n, .slice A ds.length c] 25)))
    have e1 := heap_old (o := .cells #[.bool false, .slice none 0 0] 25) (heap_at (w.alloc (.cells #[.bool n, .slice A ds.length c] 25)) (.cells #[.bool m, .slice B es.length d] 25) (by rw [heap_size_alloc]))
    have hb := bt (below_a2 w (.cells #[.bool n, .slice A ds.length c] 25) (.cells #[.bool m, .slice B es.length d] 25)) (below_a1 _ (.cells #[.bool false, .slice none 0 0] 25))
    exact ⟨num_cell0 e0, num_cell1 e0, num_cell0 e1, num_cell1 e1, hb, _, _, _, _, heap_at _ _ (by rw [heap_size_alloc, heap_size_alloc])⟩
  obtain ⟨wa, hwa⟩ : ∃ wa, ((w.alloc (.cells #[.bool n, .slice A ds.length c] 25)).alloc (.cells #[.bool m, .slice B es.length d] 25)).alloc (.cells #[.bool false, .slice none 0 0] 25) = wa := ⟨_, rfl⟩
  rw [hwa] at hkept
  have HWA := Lib.hid hwa
  clear hcw hpw hlw hgw hwa hq
  by_cases hnm : n = m
  · subst hnm
    obtain ⟨hs1, hs2⟩ := hss (hn.trans hm.symm |>.trans rfl |> fun _ => rfl)
    have H1 := Lib.hid hs1
    have H2 := Lib.hid hs2
    clear hss hsx hsy hs1 hs2 hn hm hds hes
    go_enter Tryz.func26, Tryz.ntmps26
    go_wp2_with fail
    rw [HWA.out]
    obtain ⟨c00, c01, c10, c11, hmm⟩ := hkept
    go_wp2_with fail
    have hkept : _ ∧ _ ∧ _ ∧ _ ∧ _ := ⟨c00, c01, c10, c11, hmm⟩
    clear c00 c01 c10 c11 hmm
    go_region_held3 (fun w' => w'.cell? ⟨w.heap.size, 0, none⟩ = some (.bool n) ∧ w'.cell? ⟨w.heap.size, 1, none⟩ = some (.slice A ds.length c) ∧ w'.cell? ⟨w.heap.size + 1, 0, none⟩ = some (.bool n) ∧ w'.cell? ⟨w.heap.size + 1, 1, none⟩ = some (.slice B es.length d) ∧ AddM w w')
      (first | exact addm_drew hkept | exact addm_grow (by assumption) hgr | exact addm_set (by assumption) | assumption)
      (first
        | (go_at_call 57; refine (HP.out _ (HR.out.below (by go_split_ands; exact AddM.below (by assumption))) (HS.out.below (by go_split_ands; exact AddM.below (by assumption)))).mono ?_; rintro e w7 ⟨Q, q', os, rfl, hq1, hq2, hqr, hqt, hgr⟩; have HQR := Lib.hid hqr; have HQT := Lib.hid hqt; clear hqr hqt)
        | (go_at_call 39; refine (signed_walk (n) Q q' os _ hq1 hq2 HQR.out).mono ?_; rw [HQT.out, H1.out]; rintro e w8 ⟨v1, rfl, ⟨F, f, rfl, hf1, hf2, hfr⟩, hgr⟩; have HFR := Lib.hid hfr; obtain ⟨x2, C2, n2, m2, hk2⟩ := addm_blk hgr (by go_split_ands; assumption); have c20 := num_cell0 hk2; have c21 := num_cell1 hk2; have f20 := one_free hk2 0; have f21 := one_free hk2 1; have HK2 := Lib.hid hk2; clear hfr hk2))
    all_goals
      have hB := (‹_ ∧ _ ∧ _ ∧ _ ∧ AddM w ((w8.setCell _ _).setCell _ _)›).2.2.2.2.below
      go_wp2_with fail
      have k0 := cells_set (cells_set HK2.out 0 (.bool q)) 1 (.slice F (toD 10 (x.natAbs + y.natAbs)).length f)
      have d0 := num_cell0 k0
      have d1 := num_cell1 k0
      exact bodyPost_ret (v := .agg #[.bool q, .slice F (toD 10 (x.natAbs + y.natAbs)).length f]) (by simp [results, Tryz.results26, go_sem, d0, d1]) rfl
        ⟨_, rfl, ⟨F, f, by rw [H2.out, HQ.out], by rw [H2.out]; exact hf1, hf2, by rw [H2.out]; exact rd_set2 HK2.out HFR.out⟩, hB⟩
  · obtain rfl : m = !n := by cases n <;> cases m <;> simp at hnm ⊢
    by_cases hle : y.natAbs ≤ x.natAbs
    · obtain ⟨hs1, hs2⟩ := hsx rfl hle
      have hsc : ¬ sgnC ((x.natAbs : Int) - y.natAbs) < 0 := by unfold sgnC; rw [if_neg (by omega)]; split <;> omega
      have hlw2 := HL.out hle
      have H1 := Lib.hid hs1
      have H2 := Lib.hid hs2
      have HLW := Lib.hid hlw2
      clear hss hsx hsy hs1 hs2 hn hm hds hes hlw2 hnm
      obtain ⟨sc, hsc2⟩ : ∃ sc, sgnC ((x.natAbs : Int) - y.natAbs) = sc := ⟨_, rfl⟩
      rw [hsc2] at hsc
      have HSC := Lib.hid hsc2
      clear hsc2
      go_enter Tryz.func26, Tryz.ntmps26
      go_wp2_with fail
      rw [HWA.out]
      obtain ⟨c00, c01, c10, c11, hmm⟩ := hkept
      go_wp2_with fail
      refine (HC.out _ (HR.out.below hmm.below) (HS.out.below hmm.below)).mono ?_
      rw [HSC.out]
      rintro e wc ⟨rfl, hbc⟩
      have hkept := addm_grow ⟨c00, c01, c10, c11, hmm⟩ hbc
      clear c00 c01 c10 c11 hmm hbc
      go_wp2_with fail
      go_region_held3 (fun w' => w'.cell? ⟨w.heap.size, 0, none⟩ = some (.bool n) ∧ w'.cell? ⟨w.heap.size, 1, none⟩ = some (.slice A ds.length c) ∧ w'.cell? ⟨w.heap.size + 1, 0, none⟩ = some (.bool !n) ∧ w'.cell? ⟨w.heap.size + 1, 1, none⟩ = some (.slice B es.length d) ∧ AddM w w')
        (first | exact addm_drew hkept | exact addm_grow (by assumption) hgr | exact addm_set (by assumption) | assumption)
        (first
          | (go_at_call 53; refine (HLW.out _ (HR.out.below (by go_split_ands; exact AddM.below (by assumption))) (HS.out.below (by go_split_ands; exact AddM.below (by assumption)))).mono ?_; rintro e w7 ⟨Q, q', os, rfl, hq1, hq2, hqr, hqt, hgr⟩; have HQR := Lib.hid hqr; have HQT := Lib.hid hqt; clear hqr hqt)
          | (go_at_call 39; refine (signed_walk (n) Q q' os _ hq1 hq2 HQR.out).mono ?_; rw [HQT.out, H1.out]; rintro e w8 ⟨v1, rfl, ⟨F, f, rfl, hf1, hf2, hfr⟩, hgr⟩; have HFR := Lib.hid hfr; obtain ⟨x2, C2, n2, m2, hk2⟩ := addm_blk hgr (by go_split_ands; assumption); have c20 := num_cell0 hk2; have c21 := num_cell1 hk2; have f20 := one_free hk2 0; have f21 := one_free hk2 1; have HK2 := Lib.hid hk2; clear hfr hk2))
      all_goals
        have hB := (‹_ ∧ _ ∧ _ ∧ _ ∧ AddM w ((w8.setCell _ _).setCell _ _)›).2.2.2.2.below
        go_wp2_with fail
        have k0 := cells_set (cells_set HK2.out 0 (.bool q)) 1 (.slice F (toD 10 (x.natAbs - y.natAbs)).length f)
        have d0 := num_cell0 k0
        have d1 := num_cell1 k0
        exact bodyPost_ret (v := .agg #[.bool q, .slice F (toD 10 (x.natAbs - y.natAbs)).length f]) (by simp [results, Tryz.results26, go_sem, d0, d1]) rfl
          ⟨_, rfl, ⟨F, f, by rw [H2.out, HQ.out], by rw [H2.out]; exact hf1, hf2, by rw [H2.out]; exact rd_set2 HK2.out HFR.out⟩, hB⟩
    · obtain ⟨hs1, hs2⟩ := hsy (by simp) (by omega)
      have hsc : sgnC ((x.natAbs : Int) - y.natAbs) < 0 := by unfold sgnC; rw [if_pos (by omega)]; omega
      have hlw2 := HG.out (by omega)
      have H1 := Lib.hid hs1
      have H2 := Lib.hid hs2
      have HLW := Lib.hid hlw2
      clear hss hsx hsy hs1 hs2 hn hm hds hes hlw2 hnm
      obtain ⟨sc, hsc2⟩ : ∃ sc, sgnC ((x.natAbs : Int) - y.natAbs) = sc := ⟨_, rfl⟩
      rw [hsc2] at hsc
      have HSC := Lib.hid hsc2
      clear hsc2
      go_enter Tryz.func26, Tryz.ntmps26
      go_wp2_with fail
      rw [HWA.out]
      obtain ⟨c00, c01, c10, c11, hmm⟩ := hkept
      go_wp2_with fail
      refine (HC.out _ (HR.out.below hmm.below) (HS.out.below hmm.below)).mono ?_
      rw [HSC.out]
      rintro e wc ⟨rfl, hbc⟩
      have hkept := addm_grow ⟨c00, c01, c10, c11, hmm⟩ hbc
      clear c00 c01 c10 c11 hmm hbc
      go_wp2_with fail
      go_region_held3 (fun w' => w'.cell? ⟨w.heap.size, 0, none⟩ = some (.bool n) ∧ w'.cell? ⟨w.heap.size, 1, none⟩ = some (.slice A ds.length c) ∧ w'.cell? ⟨w.heap.size + 1, 0, none⟩ = some (.bool !n) ∧ w'.cell? ⟨w.heap.size + 1, 1, none⟩ = some (.slice B es.length d) ∧ AddM w w')
        (first | exact addm_drew hkept | exact addm_grow (by assumption) hgr | exact addm_set (by assumption) | assumption)
        (first
          | (go_at_call 53; refine (HLW.out _ (HR.out.below (by go_split_ands; exact AddM.below (by assumption))) (HS.out.below (by go_split_ands; exact AddM.below (by assumption)))).mono ?_; rintro e w7 ⟨Q, q', os, rfl, hq1, hq2, hqr, hqt, hgr⟩; have HQR := Lib.hid hqr; have HQT := Lib.hid hqt; clear hqr hqt)
          | (go_at_call 39; refine (signed_walk (!n) Q q' os _ hq1 hq2 HQR.out).mono ?_; rw [HQT.out, H1.out]; rintro e w8 ⟨v1, rfl, ⟨F, f, rfl, hf1, hf2, hfr⟩, hgr⟩; have HFR := Lib.hid hfr; obtain ⟨x2, C2, n2, m2, hk2⟩ := addm_blk hgr (by go_split_ands; assumption); have c20 := num_cell0 hk2; have c21 := num_cell1 hk2; have f20 := one_free hk2 0; have f21 := one_free hk2 1; have HK2 := Lib.hid hk2; clear hfr hk2))
      all_goals
        have hB := (‹_ ∧ _ ∧ _ ∧ _ ∧ AddM w ((w8.setCell _ _).setCell _ _)›).2.2.2.2.below
        go_wp2_with fail
        have k0 := cells_set (cells_set HK2.out 0 (.bool q)) 1 (.slice F (toD 10 (y.natAbs - x.natAbs)).length f)
        have d0 := num_cell0 k0
        have d1 := num_cell1 k0
        exact bodyPost_ret (v := .agg #[.bool q, .slice F (toD 10 (y.natAbs - x.natAbs)).length f]) (by simp [results, Tryz.results26, go_sem, d0, d1]) rfl
          ⟨_, rfl, ⟨F, f, by rw [H2.out, HQ.out], by rw [H2.out]; exact hf1, hf2, by rw [H2.out]; exact rd_set2 HK2.out HFR.out⟩, hB⟩

end Go.Proofs.YtapfolgiafnllaaGreatDoor

namespace Go.Proofs.YtapfolgiafnllaaGreatDoor
open Go.RowKit

end Go.Proofs.YtapfolgiafnllaaGreatDoor
