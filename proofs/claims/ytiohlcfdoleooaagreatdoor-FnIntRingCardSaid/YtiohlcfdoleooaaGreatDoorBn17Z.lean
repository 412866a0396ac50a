/-
  The reference's Minus, Add, Sub.
  The reference's Sub.
-/
import Derived.Test.YtiohlcfdoleooaaGreatDoorBn19Z
import Derived.Deep.RegionHeld3
import Derived.Test.YtiohlcfdoleooaaGreatDoorSpecFitsZ
import Derived.Deep.RegionWith
namespace Go.Proofs.YtiohlcfdoleooaaGreatDoor
open Go.RowKit

theorem minus_sign (x : Int) : ((!decide (x < 0)) && !(toD 10 x.natAbs).isEmpty) = decide (-x < 0) := by
  rw [toD_isEmpty (by decide)]
  by_cases h : x < 0
  · rw [decide_eq_true h, decide_eq_false (show ¬ -x < 0 by omega)]; rfl
  · rw [decide_eq_false h]
    by_cases h0 : x = 0
    · subst h0; rfl
    · rw [decide_eq_false (show ¬ x.natAbs = 0 by omega), decide_eq_true (show -x < 0 by omega)]; rfl

set_option maxRecDepth 100000 in
set_option maxHeartbeats 1000000 in
theorem minus_walk (v : Value) (x : Int) (w : World) (hv : IsNum w v x) :
    Calls Tryz.prog 137 #[v] w (IsPost w (-x)) := by
  obtain ⟨A, c, rfl, hc, hcm, hr⟩ := hv.open
  have hts := trimN_self (b := 10) (by decide) x.natAbs
  have hsg := minus_sign x
  have hna : (-x).natAbs = x.natAbs := by omega
  obtain ⟨n, hn⟩ : ∃ n, decide (x < 0) = n := ⟨_, rfl⟩
  obtain ⟨m, hm⟩ : ∃ m, decide (-x < 0) = m := ⟨_, rfl⟩
  rw [hn, hm] at hsg
  rw [hn]
  have HR := Lib.hid hr
  have HT := Lib.hid hts
  have HS := Lib.hid hsg
  have HM := Lib.hid hm
  have HNA := Lib.hid hna
  clear hr hv hts hsg hn hm hna
  go_enter Tryz.func137, Tryz.ntmps137
  go_wp2_with fail
  refine (signed_walk (!n) A c (toD 10 x.natAbs) _ hc hcm (HR.out.below (below_a2 _ _ _))).mono ?_
  rw [HT.out, HS.out]
  rintro e w1 ⟨v1, rfl, ⟨F, f, rfl, hf1, hf2, hfr⟩, hb1⟩
  have hk2 := (hb1.block (w.heap.size + 1) (by simp only [heap_size_alloc]; omega)).trans (heap_at (w.alloc (.cells #[.bool n, .slice A (toD 10 x.natAbs).length c] 24)) (.cells #[.bool false, .slice none 0 0] 24) (by rw [heap_size_alloc]))
  have c20 := num_cell0 hk2
  have c21 := num_cell1 hk2
  have f20 := one_free hk2 0
  have f21 := one_free hk2 1
  have HK2 := Lib.hid hk2
  have HFR := Lib.hid hfr
  clear hk2 hfr
  go_wp2_with fail
  have k0 := cells_set (cells_set HK2.out 0 (.bool m)) 1 (.slice F (toD 10 x.natAbs).length f)
  have d0 := num_cell0 k0
  have d1 := num_cell1 k0
  have hb3 := bt (below_a2 _ _ _) hb1
  exact bodyPost_ret (v := .agg #[.bool m, .slice F (toD 10 x.natAbs).length f]) (by simp [results, Tryz.results137, go_sem, d0, d1]) rfl
    ⟨_, rfl, ⟨F, f, by rw [HNA.out, HM.out], by rw [HNA.out]; exact hf1, hf2, by rw [HNA.out]; exact rd_set2 HK2.out HFR.out⟩,
      (hb3.setCell (p := ⟨w.heap.size + 1, 0, none⟩) (by show w.heap.size ≤ w.heap.size + 1; omega) _).setCell (p := ⟨w.heap.size + 1, 1, none⟩) (by show w.heap.size ≤ w.heap.size + 1; omega) _⟩

/-- What holds on the way: old memory, the place of the result. -/
structure AddM (w w' : World) : Prop where
  below : Below w.heap.size w w'
  blk : ∃ x C n c, w'.heap[w.heap.size + 1 + 1]? = some (.cells #[.bool x, .slice C n c] 24 (0, 0))
theorem addm_grow {w w1 w2 : World} {a b c d : Value} (h : w1.cell? ⟨w.heap.size, 0, none⟩ = some a ∧ w1.cell? ⟨w.heap.size, 1, none⟩ = some b ∧ w1.cell? ⟨w.heap.size + 1, 0, none⟩ = some c ∧ w1.cell? ⟨w.heap.size + 1, 1, none⟩ = some d ∧ AddM w w1)
    (k : Below w1.heap.size w1 w2) : w2.cell? ⟨w.heap.size, 0, none⟩ = some a ∧ w2.cell? ⟨w.heap.size, 1, none⟩ = some b ∧ w2.cell? ⟨w.heap.size + 1, 0, none⟩ = some c ∧ w2.cell? ⟨w.heap.size + 1, 1, none⟩ = some d ∧ AddM w w2 := by
  obtain ⟨h1, h2, h3, h4, h5, x, C, n, m, h8⟩ := h
  have l1 := World.block_lt_of_cell? w1 _ h1
  have l2 := World.block_lt_of_cell? w1 _ h3
  exact ⟨(k.cell (by exact l1)).trans h1, (k.cell (by exact l1)).trans h2, (k.cell (by exact l2)).trans h3, (k.cell (by exact l2)).trans h4, bt h5 k, x, C, n, m, (k.block _ (iter_lt h8)).trans h8⟩
theorem addm_drew {w w1 : World} {a b c d : Value} (h : w1.cell? ⟨w.heap.size, 0, none⟩ = some a ∧ w1.cell? ⟨w.heap.size, 1, none⟩ = some b ∧ w1.cell? ⟨w.heap.size + 1, 0, none⟩ = some c ∧ w1.cell? ⟨w.heap.size + 1, 1, none⟩ = some d ∧ AddM w w1) :
    w1.drew.cell? ⟨w.heap.size, 0, none⟩ = some a ∧ w1.drew.cell? ⟨w.heap.size, 1, none⟩ = some b ∧ w1.drew.cell? ⟨w.heap.size + 1, 0, none⟩ = some c ∧ w1.drew.cell? ⟨w.heap.size + 1, 1, none⟩ = some d ∧ AddM w w1.drew :=
  ⟨h.1, h.2.1, h.2.2.1, h.2.2.2.1, h.2.2.2.2.1.drew, h.2.2.2.2.2⟩
theorem addm_set {w w1 : World} {a b c d : Value} {y : Bool} {D : Option Addr} {p q : Nat} (h : w1.cell? ⟨w.heap.size, 0, none⟩ = some a ∧ w1.cell? ⟨w.heap.size, 1, none⟩ = some b ∧ w1.cell? ⟨w.heap.size + 1, 0, none⟩ = some c ∧ w1.cell? ⟨w.heap.size + 1, 1, none⟩ = some d ∧ AddM w w1) :
    ((w1.setCell ⟨w.heap.size + 1 + 1, 0, none⟩ (.bool y)).setCell ⟨w.heap.size + 1 + 1, 1, none⟩ (.slice D p q)).cell? ⟨w.heap.size, 0, none⟩ = some a ∧ ((w1.setCell ⟨w.heap.size + 1 + 1, 0, none⟩ (.bool y)).setCell ⟨w.heap.size + 1 + 1, 1, none⟩ (.slice D p q)).cell? ⟨w.heap.size, 1, none⟩ = some b ∧
    ((w1.setCell ⟨w.heap.size + 1 + 1, 0, none⟩ (.bool y)).setCell ⟨w.heap.size + 1 + 1, 1, none⟩ (.slice D p q)).cell? ⟨w.heap.size + 1, 0, none⟩ = some c ∧ ((w1.setCell ⟨w.heap.size + 1 + 1, 0, none⟩ (.bool y)).setCell ⟨w.heap.size + 1 + 1, 1, none⟩ (.slice D p q)).cell? ⟨w.heap.size + 1, 1, none⟩ = some d ∧
    AddM w ((w1.setCell ⟨w.heap.size + 1 + 1, 0, none⟩ (.bool y)).setCell ⟨w.heap.size + 1 + 1, 1, none⟩ (.slice D p q)) := by
  obtain ⟨h1, h2, h3, h4, h5, x, C, n, m, h8⟩ := h
  have e : ∀ (b o : Nat), b < w.heap.size + 1 + 1 → ((w1.setCell ⟨w.heap.size + 1 + 1, 0, none⟩ (.bool y)).setCell ⟨w.heap.size + 1 + 1, 1, none⟩ (.slice D p q)).cell? ⟨b, o, none⟩ = w1.cell? ⟨b, o, none⟩ := fun b o hb =>
    (cell_other (by show b ≠ w.heap.size + 1 + 1; omega)).trans (cell_other (by show b ≠ w.heap.size + 1 + 1; omega))
  exact ⟨(e _ _ (by omega)).trans h1, (e _ _ (by omega)).trans h2, (e _ _ (by omega)).trans h3, (e _ _ (by omega)).trans h4,
    (h5.setCell (p := ⟨w.heap.size + 1 + 1, 0, none⟩) (by show w.heap.size ≤ w.heap.size + 1 + 1; omega) _).setCell (p := ⟨w.heap.size + 1 + 1, 1, none⟩) (by show w.heap.size ≤ w.heap.size + 1 + 1; omega) _, y, D, p, q, cells_set (cells_set h8 0 _) 1 _⟩
theorem addm_blk {w w1 w2 : World} (k : Below w1.heap.size w1 w2) (h : AddM w w1) : ∃ x C n c, w2.heap[w.heap.size + 1 + 1]? = some (.cells #[.bool x, .slice C n c] 24 (0, 0)) := by
  obtain ⟨_, x, C, n, c, h8⟩ := h
  exact ⟨x, C, n, c, (k.block _ (iter_lt h8)).trans h8⟩
theorem add_sign_same {x y : Int} (h : decide (x < 0) = decide (y < 0)) : (decide (x < 0) && !(toD 10 (x.natAbs + y.natAbs)).isEmpty) = decide (x + y < 0) ∧ (x + y).natAbs = x.natAbs + y.natAbs := by
  rw [toD_isEmpty (by decide)]
  by_cases hx : x < 0
  · have hy : y < 0 := by rw [decide_eq_true hx] at h; exact of_decide_eq_true h.symm
    rw [decide_eq_true hx, decide_eq_true (show x + y < 0 by omega), decide_eq_false (show ¬ x.natAbs + y.natAbs = 0 by omega)]
    exact ⟨rfl, by omega⟩
  · have hy : ¬ y < 0 := by rw [decide_eq_false hx] at h; exact of_decide_eq_false h.symm
    rw [decide_eq_false hx, decide_eq_false (show ¬ x + y < 0 by omega)]
    exact ⟨rfl, by omega⟩
theorem add_sign_other {x y : Int} (h : decide (y < 0) = !decide (x < 0)) (hle : y.natAbs ≤ x.natAbs) : (decide (x < 0) && !(toD 10 (x.natAbs - y.natAbs)).isEmpty) = decide (x + y < 0) ∧ (x + y).natAbs = x.natAbs - y.natAbs := by
  rw [toD_isEmpty (by decide)]
  by_cases hx : x < 0
  · have hy : ¬ y < 0 := by rw [decide_eq_true hx] at h; exact of_decide_eq_false h
    rw [decide_eq_true hx]
    by_cases h0 : x.natAbs - y.natAbs = 0
    · rw [decide_eq_true h0, decide_eq_false (show ¬ x + y < 0 by omega)]; exact ⟨rfl, by omega⟩
    · rw [decide_eq_false h0, decide_eq_true (show x + y < 0 by omega)]; exact ⟨rfl, by omega⟩
  · have hy : y < 0 := by rw [decide_eq_false hx] at h; exact of_decide_eq_true h
    rw [decide_eq_false hx, decide_eq_false (show ¬ x + y < 0 by omega)]
    exact ⟨rfl, by omega⟩

set_option maxRecDepth 100000 in
set_option maxHeartbeats 4000000 in
theorem add_walk (v u : Value) (x y : Int) (w : World) (hv : IsNum w v x) (hu : IsNum w u y) (hlx : (toD 10 x.natAbs).length ≤ 1000) (hly : (toD 10 y.natAbs).length ≤ 1000) :
    Calls Tryz.prog 60 #[v, u] w (IsPost w (x + y)) := by
  obtain ⟨A, c, rfl, hc, hcm, hr⟩ := hv.open
  obtain ⟨B, d, rfl, hd, hdm, hs⟩ := hu.open
  have HR := Lib.hid hr
  have HS := Lib.hid hs
  clear hr hs hv hu
  have hss := add_sign_same (x := x) (y := y)
  have hsx := add_sign_other (x := x) (y := y)
  have hsy := add_sign_other (x := y) (y := x)
  rw [Int.add_comm y x] at hsy
  have hcw : ∀ (w1 : World) (_ : Rd w1 A (u8s (toD 10 x.natAbs))) (_ : Rd w1 B (u8s (toD 10 y.natAbs))), _ := fun w1 h1 h2 => compare_walk x.natAbs y.natAbs A B c d w1 hc hd hcm hdm h1 h2
  have hpw : ∀ (w1 : World) (_ : Rd w1 A (u8s (toD 10 x.natAbs))) (_ : Rd w1 B (u8s (toD 10 y.natAbs))), _ := fun w1 h1 h2 => plus_walk x.natAbs y.natAbs A B c d w1 hc hd hcm hdm h1 h2 hlx hly
  have hlw : ∀ (_ : y.natAbs ≤ x.natAbs) (w1 : World) (_ : Rd w1 A (u8s (toD 10 x.natAbs))) (_ : Rd w1 B (u8s (toD 10 y.natAbs))), _ := fun h0 w1 h1 h2 => less_walk x.natAbs y.natAbs A B c d w1 h0 hc hd hcm hdm h1 h2 hlx hly
  have hgw : ∀ (_ : x.natAbs ≤ y.natAbs) (w1 : World) (_ : Rd w1 A (u8s (toD 10 x.natAbs))) (_ : Rd w1 B (u8s (toD 10 y.natAbs))), _ := fun h0 w1 h1 h2 => less_walk y.natAbs x.natAbs B A d c w1 h0 hd hc hdm hcm h2 h1 hly hlx
  obtain ⟨n, hn⟩ : ∃ n, decide (x < 0) = n := ⟨_, rfl⟩
  obtain ⟨m, hm⟩ : ∃ m, decide (y < 0) = m := ⟨_, rfl⟩
  obtain ⟨q, hq⟩ : ∃ q, decide (x + y < 0) = q := ⟨_, rfl⟩
  rw [hn, hm, hq] at hss hsx hsy
  rw [hn, hm]
  obtain ⟨ds, hds⟩ : ∃ ds, toD 10 x.natAbs = ds := ⟨_, rfl⟩
  obtain ⟨es, hes⟩ : ∃ es, toD 10 y.natAbs = es := ⟨_, rfl⟩
  rw [hds] at hc hlx HR ⊢
  rw [hes] at hd hly HS ⊢
  rw [hds, hes] at hcw hpw hlw hgw
  have HC := Lib.hid hcw
  have HP := Lib.hid hpw
  have HL := Lib.hid hlw
  have HG := Lib.hid hgw
  have HQ := Lib.hid hq
  have hkept : ((((w.alloc (.cells #[.bool n, .slice A ds.length c] 24)).alloc (.cells #[.bool m, .slice B es.length d] 24)).alloc (.cells #[.bool false, .slice none 0 0] 24)).cell? ⟨w.heap.size, 0, none⟩ = some (.bool n) ∧
      (((w.alloc (.cells #[.bool n, .slice A ds.length c] 24)).alloc (.cells #[.bool m, .slice B es.length d] 24)).alloc (.cells #[.bool false, .slice none 0 0] 24)).cell? ⟨w.heap.size, 1, none⟩ = some (.slice A ds.length c) ∧
      (((w.alloc (.cells #[.bool n, .slice A ds.length c] 24)).alloc (.cells #[.bool m, .slice B es.length d] 24)).alloc (.cells #[.bool false, .slice none 0 0] 24)).cell? ⟨w.heap.size + 1, 0, none⟩ = some (.bool m) ∧
      (((w.alloc (.cells #[.bool n, .slice A ds.length c] 24)).alloc (.cells #[.bool m, .slice B es.length d] 24)).alloc (.cells #[.bool false, .slice none 0 0] 24)).cell? ⟨w.heap.size + 1, 1, none⟩ = some (.slice B es.length d) ∧
      AddM w (((w.alloc (.cells #[.bool n, .slice A ds.length c] 24)).alloc (.cells #[.bool m, .slice B es.length d] 24)).alloc (.cells #[.bool false, .slice none 0 0] 24))) := by
    have e0 := heap_old (o := .cells #[.bool false, .slice none 0 0] 24) (heap_old (o := .cells #[.bool m, .slice B es.length d] 24) (heap_here w (.cells #[.bool n, .slice A ds.length c] 24)))
    have e1 := heap_old (o := .cells #[.bool false, .slice none 0 0] 24) (heap_at (w.alloc (.cells #[.bool n, .slice A ds.length c] 24)) (.cells #[.bool m, .slice B es.length d] 24) (by rw [heap_size_alloc]))
    have hb := bt (below_a2 w (.cells #[.bool n, .slice A ds.length c] 24) (.cells #[.bool m, .slice B es.length d] 24)) (below_a1 _ (.cells #[.bool false, .slice none 0 0] 24))
    exact ⟨num_cell0 e0, num_cell1 e0, num_cell0 e1, num_cell1 e1, hb, _, _, _, _, heap_at _ _ (by rw [heap_size_alloc, heap_size_alloc])⟩
  obtain ⟨wa, hwa⟩ : ∃ wa, ((w.alloc (.cells #[.bool n, .slice A ds.length c] 24)).alloc (.cells #[.bool m, .slice B es.length d] 24)).alloc (.cells #[.bool false, .slice none 0 0] 24) = wa := ⟨_, rfl⟩
  rw [hwa] at hkept
  have HWA := Lib.hid hwa
  clear hcw hpw hlw hgw hwa hq
  by_cases hnm : n = m
  · subst hnm
    obtain ⟨hs1, hs2⟩ := hss (hn.trans hm.symm |>.trans rfl |> fun _ => rfl)
    have H1 := Lib.hid hs1
    have H2 := Lib.hid hs2
    clear hss hsx hsy hs1 hs2 hn hm hds hes
    go_enter Tryz.func60, Tryz.ntmps60
    go_wp2_with fail
    rw [HWA.out]
    obtain ⟨c00, c01, c10, c11, hmm⟩ := hkept
    go_wp2_with fail
    have hkept : _ ∧ _ ∧ _ ∧ _ ∧ _ := ⟨c00, c01, c10, c11, hmm⟩
    clear c00 c01 c10 c11 hmm
    go_region_held3 (fun w' => w'.cell? ⟨w.heap.size, 0, none⟩ = some (.bool n) ∧ w'.cell? ⟨w.heap.size, 1, none⟩ = some (.slice A ds.length c) ∧ w'.cell? ⟨w.heap.size + 1, 0, none⟩ = some (.bool n) ∧ w'.cell? ⟨w.heap.size + 1, 1, none⟩ = some (.slice B es.length d) ∧ AddM w w')
      (first | exact addm_drew hkept | exact addm_grow (by assumption) hgr | exact addm_set (by assumption) | assumption)
      (first
        | (go_at_call 134; refine (HP.out _ (HR.out.below (by go_split_ands; exact AddM.below (by assumption))) (HS.out.below (by go_split_ands; exact AddM.below (by assumption)))).mono ?_; rintro e w7 ⟨Q, q', os, rfl, hq1, hq2, hqr, hqt, hgr⟩; have HQR := Lib.hid hqr; have HQT := Lib.hid hqt; clear hqr hqt)
        | (go_at_call 121; refine (signed_walk (n) Q q' os _ hq1 hq2 HQR.out).mono ?_; rw [HQT.out, H1.out]; rintro e w8 ⟨v1, rfl, ⟨F, f, rfl, hf1, hf2, hfr⟩, hgr⟩; have HFR := Lib.hid hfr; obtain ⟨x2, C2, n2, m2, hk2⟩ := addm_blk hgr (by go_split_ands; assumption); have c20 := num_cell0 hk2; have c21 := num_cell1 hk2; have f20 := one_free hk2 0; have f21 := one_free hk2 1; have HK2 := Lib.hid hk2; clear hfr hk2))
    all_goals
      have hB := (‹_ ∧ _ ∧ _ ∧ _ ∧ AddM w ((w8.setCell _ _).setCell _ _)›).2.2.2.2.below
      go_wp2_with fail
      have k0 := cells_set (cells_set HK2.out 0 (.bool q)) 1 (.slice F (toD 10 (x.natAbs + y.natAbs)).length f)
      have d0 := num_cell0 k0
      have d1 := num_cell1 k0
      exact bodyPost_ret (v := .agg #[.bool q, .slice F (toD 10 (x.natAbs + y.natAbs)).length f]) (by simp [results, Tryz.results60, go_sem, d0, d1]) rfl
        ⟨_, rfl, ⟨F, f, by rw [H2.out, HQ.out], by rw [H2.out]; exact hf1, hf2, by rw [H2.out]; exact rd_set2 HK2.out HFR.out⟩, hB⟩
  · obtain rfl : m = !n := by cases n <;> cases m <;> simp at hnm ⊢
    by_cases hle : y.natAbs ≤ x.natAbs
    · obtain ⟨hs1, hs2⟩ := hsx rfl hle
      have hsc : ¬ sgnC ((x.natAbs : Int) - y.natAbs) < 0 := by unfold sgnC; rw [if_neg (by omega)]; split <;> omega
      have hlw2 := HL.out hle
      have H1 := Lib.hid hs1
      have H2 := Lib.hid hs2
      have HLW := Lib.hid hlw2
      clear hss hsx hsy hs1 hs2 hn hm hds hes hlw2 hnm
      obtain ⟨sc, hsc2⟩ : ∃ sc, sgnC ((x.natAbs : Int) - y.natAbs) = sc := ⟨_, rfl⟩
      rw [hsc2] at hsc
      have HSC := Lib.hid hsc2
      clear hsc2
      go_enter Tryz.func60, Tryz.ntmps60
      go_wp2_with fail
      rw [HWA.out]
      obtain ⟨c00, c01, c10, c11, hmm⟩ := hkept
      go_wp2_with fail
      refine (HC.out _ (HR.out.below hmm.below) (HS.out.below hmm.below)).mono ?_
      rw [HSC.out]
      rintro e wc ⟨rfl, hbc⟩
      have hkept := addm_grow ⟨c00, c01, c10, c11, hmm⟩ hbc
      clear c00 c01 c10 c11 hmm hbc
      go_wp2_with fail
      go_region_held3 (fun w' => w'.cell? ⟨w.heap.size, 0, none⟩ = some (.bool n) ∧ w'.cell? ⟨w.heap.size, 1, none⟩ = some (.slice A ds.length c) ∧ w'.cell? ⟨w.heap.size + 1, 0, none⟩ = some (.bool !n) ∧ w'.cell? ⟨w.heap.size + 1, 1, none⟩ = some (.slice B es.length d) ∧ AddM w w')
        (first | exact addm_drew hkept | exact addm_grow (by assumption) hgr | exact addm_set (by assumption) | assumption)
        (first
          | (go_at_call 136; refine (HLW.out _ (HR.out.below (by go_split_ands; exact AddM.below (by assumption))) (HS.out.below (by go_split_ands; exact AddM.below (by assumption)))).mono ?_; rintro e w7 ⟨Q, q', os, rfl, hq1, hq2, hqr, hqt, hgr⟩; have HQR := Lib.hid hqr; have HQT := Lib.hid hqt; clear hqr hqt)
          | (go_at_call 121; refine (signed_walk (n) Q q' os _ hq1 hq2 HQR.out).mono ?_; rw [HQT.out, H1.out]; rintro e w8 ⟨v1, rfl, ⟨F, f, rfl, hf1, hf2, hfr⟩, hgr⟩; have HFR := Lib.hid hfr; obtain ⟨x2, C2, n2, m2, hk2⟩ := addm_blk hgr (by go_split_ands; assumption); have c20 := num_cell0 hk2; have c21 := num_cell1 hk2; have f20 := one_free hk2 0; have f21 := one_free hk2 1; have HK2 := Lib.hid hk2; clear hfr hk2))
      all_goals
        have hB := (‹_ ∧ _ ∧ _ ∧ _ ∧ AddM w ((w8.setCell _ _).setCell _ _)›).2.2.2.2.below
        go_wp2_with fail
        have k0 := cells_set (cells_set HK2.out 0 (.bool q)) 1 (.slice F (toD 10 (x.natAbs - y.natAbs)).length f)
        have d0 := num_cell0 k0
        have d1 := num_cell1 k0
        exact bodyPost_ret (v := .agg #[.bool q, .slice F (toD 10 (x.natAbs - y.natAbs)).length f]) (by simp [results, Tryz.results60, go_sem, d0, d1]) rfl
          ⟨_, rfl, ⟨F, f, by rw [H2.out, HQ.out], by rw [H2.out]; exact hf1, hf2, by rw [H2.out]; exact rd_set2 HK2.out HFR.out⟩, hB⟩
    · obtain ⟨hs1, hs2⟩ := hsy (by simp) (by omega)
      have hsc : sgnC ((x.natAbs : Int) - y.natAbs) < 0 := by unfold sgnC; rw [if_pos (by omega)]; omega
      have hlw2 := HG.out (by omega)
      have H1 := Lib.hid hs1
      have H2 := Lib.hid hs2
      have HLW := Lib.hid hlw2
      clear hss hsx hsy hs1 hs2 hn hm hds hes hlw2 hnm
      obtain ⟨sc, hsc2⟩ : ∃ sc, sgnC ((x.natAbs : Int) - y.natAbs) = sc := ⟨_, rfl⟩
      rw [hsc2] at hsc
      have HSC := Lib.hid hsc2
      clear hsc2
      go_enter Tryz.func60, Tryz.ntmps60
      go_wp2_with fail
      rw [HWA.out]
      obtain ⟨c00, c01, c10, c11, hmm⟩ := hkept
      go_wp2_with fail
      refine (HC.out _ (HR.out.below hmm.below) (HS.out.below hmm.below)).mono ?_
      rw [HSC.out]
      rintro e wc ⟨rfl, hbc⟩
      have hkept := addm_grow ⟨c00, c01, c10, c11, hmm⟩ hbc
      clear c00 c01 c10 c11 hmm hbc
      go_wp2_with fail
      go_region_held3 (fun w' => w'.cell? ⟨w.heap.size, 0, none⟩ = some (.bool n) ∧ w'.cell? ⟨w.heap.size, 1, none⟩ = some (.slice A ds.length c) ∧ w'.cell? ⟨w.heap.size + 1, 0, none⟩ = some (.bool !n) ∧ w'.cell? ⟨w.heap.size + 1, 1, none⟩ = some (.slice B es.length d) ∧ AddM w w')
        (first | exact addm_drew hkept | exact addm_grow (by assumption) hgr | exact addm_set (by assumption) | assumption)
        (first
          | (go_at_call 136; refine (HLW.out _ (HR.out.below (by go_split_ands; exact AddM.below (by assumption))) (HS.out.below (by go_split_ands; exact AddM.below (by assumption)))).mono ?_; rintro e w7 ⟨Q, q', os, rfl, hq1, hq2, hqr, hqt, hgr⟩; have HQR := Lib.hid hqr; have HQT := Lib.hid hqt; clear hqr hqt)
          | (go_at_call 121; refine (signed_walk (!n) Q q' os _ hq1 hq2 HQR.out).mono ?_; rw [HQT.out, H1.out]; rintro e w8 ⟨v1, rfl, ⟨F, f, rfl, hf1, hf2, hfr⟩, hgr⟩; have HFR := Lib.hid hfr; obtain ⟨x2, C2, n2, m2, hk2⟩ := addm_blk hgr (by go_split_ands; assumption); have c20 := num_cell0 hk2; have c21 := num_cell1 hk2; have f20 := one_free hk2 0; have f21 := one_free hk2 1; have HK2 := Lib.hid hk2; clear hfr hk2))
      all_goals
        have hB := (‹_ ∧ _ ∧ _ ∧ _ ∧ AddM w ((w8.setCell _ _).setCell _ _)›).2.2.2.2.below
        go_wp2_with fail
        have k0 := cells_set (cells_set HK2.out 0 (.bool q)) 1 (.slice F (toD 10 (y.natAbs - x.natAbs)).length f)
        have d0 := num_cell0 k0
        have d1 := num_cell1 k0
        exact bodyPost_ret (v := .agg #[.bool q, .slice F (toD 10 (y.natAbs - x.natAbs)).length f]) (by simp [results, Tryz.results60, go_sem, d0, d1]) rfl
          ⟨_, rfl, ⟨F, f, by rw [H2.out, HQ.out], by rw [H2.out]; exact hf1, hf2, by rw [H2.out]; exact rd_set2 HK2.out HFR.out⟩, hB⟩

end Go.Proofs.YtiohlcfdoleooaaGreatDoor

namespace Go.Proofs.YtiohlcfdoleooaaGreatDoor
open Go.RowKit

set_option maxRecDepth 100000 in
set_option maxHeartbeats 4000000 in
theorem sub_walk0 (v u : Value) (x y : Int) (w : World) (hv : IsNum w v x) (hu : IsNum w u y) (hlx : (toD 10 x.natAbs).length ≤ 1000) (hly : (toD 10 y.natAbs).length ≤ 1000) :
    Calls Tryz.prog 61 #[v, u] w (IsPost w (x + -y)) := by
  obtain ⟨A, c, rfl, hc, hcm, hr⟩ := hv.open
  obtain ⟨B, d, rfl, hd, hdm, hs⟩ := hu.open
  have HX := Lib.hid hv
  have HY := Lib.hid hu
  have hly2 : (toD 10 (-y).natAbs).length ≤ 1000 := by rw [Int.natAbs_neg]; exact hly
  have HAD := Lib.hid (fun (w' : World) (v1 v2 : Value) (h1 : IsNum w' v1 x) (h2 : IsNum w' v2 (-y)) => add_walk v1 v2 x (-y) w' h1 h2 hlx hly2)
  clear hv hu hr hs hc hd hcm hdm hlx hly hly2
  obtain ⟨n, hn⟩ : ∃ n, decide (x < 0) = n := ⟨_, rfl⟩
  obtain ⟨m, hm⟩ : ∃ m, decide (y < 0) = m := ⟨_, rfl⟩
  obtain ⟨a, ha⟩ : ∃ a, (toD 10 x.natAbs).length = a := ⟨_, rfl⟩
  obtain ⟨b, hb⟩ : ∃ b, (toD 10 y.natAbs).length = b := ⟨_, rfl⟩
  rw [hn, ha] at HX ⊢
  rw [hm, hb] at HY ⊢
  have hkept : ((((w.alloc (.cells #[.bool n, .slice A a c] 24)).alloc (.cells #[.bool m, .slice B b d] 24)).alloc (.cells #[.bool false, .slice none 0 0] 24)).cell? ⟨w.heap.size, 0, none⟩ = some (.bool n) ∧
      (((w.alloc (.cells #[.bool n, .slice A a c] 24)).alloc (.cells #[.bool m, .slice B b d] 24)).alloc (.cells #[.bool false, .slice none 0 0] 24)).cell? ⟨w.heap.size, 1, none⟩ = some (.slice A a c) ∧
      (((w.alloc (.cells #[.bool n, .slice A a c] 24)).alloc (.cells #[.bool m, .slice B b d] 24)).alloc (.cells #[.bool false, .slice none 0 0] 24)).cell? ⟨w.heap.size + 1, 0, none⟩ = some (.bool m) ∧
      (((w.alloc (.cells #[.bool n, .slice A a c] 24)).alloc (.cells #[.bool m, .slice B b d] 24)).alloc (.cells #[.bool false, .slice none 0 0] 24)).cell? ⟨w.heap.size + 1, 1, none⟩ = some (.slice B b d) ∧
      AddM w (((w.alloc (.cells #[.bool n, .slice A a c] 24)).alloc (.cells #[.bool m, .slice B b d] 24)).alloc (.cells #[.bool false, .slice none 0 0] 24))) := by
    have e0 := heap_old (o := .cells #[.bool false, .slice none 0 0] 24) (heap_old (o := .cells #[.bool m, .slice B b d] 24) (heap_here w (.cells #[.bool n, .slice A a c] 24)))
    have e1 := heap_old (o := .cells #[.bool false, .slice none 0 0] 24) (heap_at (w.alloc (.cells #[.bool n, .slice A a c] 24)) (.cells #[.bool m, .slice B b d] 24) (by rw [heap_size_alloc]))
    have hb := bt (below_a2 w (.cells #[.bool n, .slice A a c] 24) (.cells #[.bool m, .slice B b d] 24)) (below_a1 _ (.cells #[.bool false, .slice none 0 0] 24))
    exact ⟨num_cell0 e0, num_cell1 e0, num_cell0 e1, num_cell1 e1, hb, _, _, _, _, heap_at _ _ (by rw [heap_size_alloc, heap_size_alloc])⟩
  obtain ⟨wa, hwa⟩ : ∃ wa, ((w.alloc (.cells #[.bool n, .slice A a c] 24)).alloc (.cells #[.bool m, .slice B b d] 24)).alloc (.cells #[.bool false, .slice none 0 0] 24) = wa := ⟨_, rfl⟩
  rw [hwa] at hkept
  have HWA := Lib.hid hwa
  clear hwa hn hm ha hb
  go_enter Tryz.func61, Tryz.ntmps61
  go_wp2_with fail
  rw [HWA.out]
  obtain ⟨c00, c01, c10, c11, hmm⟩ := hkept
  go_wp2_with fail
  have hkept : _ ∧ _ ∧ _ ∧ _ ∧ _ := ⟨c00, c01, c10, c11, hmm⟩
  clear c00 c01 c10 c11 hmm
  go_region_held3 (fun w' => w'.cell? ⟨w.heap.size, 0, none⟩ = some (.bool n) ∧ w'.cell? ⟨w.heap.size, 1, none⟩ = some (.slice A a c) ∧ w'.cell? ⟨w.heap.size + 1, 0, none⟩ = some (.bool m) ∧ w'.cell? ⟨w.heap.size + 1, 1, none⟩ = some (.slice B b d) ∧ AddM w w')
    (first | exact addm_drew hkept | exact addm_grow (by assumption) hgr | exact addm_set (by assumption) | assumption)
    (first
      | (go_at_call 137; refine (minus_walk _ y _ (HY.out.below (by go_split_ands; exact AddM.below (by assumption)))).mono ?_; rintro e w7 ⟨v1, rfl, hv1, hgr⟩; have HV1 := Lib.hid hv1; clear hv1)
      | (go_at_call 60; refine (HAD.out _ _ _ (HX.out.below (by go_split_ands; exact AddM.below (by assumption))) HV1.out).mono ?_; rintro e w8 ⟨v2, rfl, hv2, hgr⟩; obtain ⟨F, f, rfl, hf1, hf2, hfr⟩ := hv2.open; have HFR := Lib.hid hfr; obtain ⟨x2, C2, n2, m2, hk2⟩ := addm_blk hgr (by go_split_ands; assumption); have c20 := num_cell0 hk2; have c21 := num_cell1 hk2; have f20 := one_free hk2 0; have f21 := one_free hk2 1; have HK2 := Lib.hid hk2; clear hfr hk2 hv2))
  all_goals
    have hB := (‹_ ∧ _ ∧ _ ∧ _ ∧ AddM w ((w8.setCell _ _).setCell _ _)›).2.2.2.2.below
    go_wp2_with fail
    have k0 := cells_set (cells_set HK2.out 0 (.bool (decide (x + -y < 0)))) 1 (.slice F (toD 10 (x + -y).natAbs).length f)
    have d0 := num_cell0 k0
    have d1 := num_cell1 k0
    exact bodyPost_ret (v := .agg #[.bool (decide (x + -y < 0)), .slice F (toD 10 (x + -y).natAbs).length f]) (by simp [results, Tryz.results61, go_sem, d0, d1]) rfl
      ⟨_, rfl, ⟨F, f, rfl, hf1, hf2, rd_set2 HK2.out HFR.out⟩, hB⟩
theorem sub_walk (v u : Value) (x y : Int) (w : World) (hv : IsNum w v x) (hu : IsNum w u y) (hlx : (toD 10 x.natAbs).length ≤ 1000) (hly : (toD 10 y.natAbs).length ≤ 1000) :
    Calls Tryz.prog 61 #[v, u] w (IsPost w (x - y)) := by
  rw [Int.sub_eq_add_neg]
  exact sub_walk0 v u x y w hv hu hlx hly
end Go.Proofs.YtiohlcfdoleooaaGreatDoor

/-
  The reference's Unsigned and Zero.
-/
namespace Go.Proofs.YtiohlcfdoleooaaGreatDoor
open Go.RowKit

theorem toD_get : ∀ (m N : Nat) (h : m < (toD 10 N).length), (toD 10 N)[m] = N / 10 ^ m % 10
  | 0, N, h => by
    have h0 : N ≠ 0 := by intro e; subst e; rw [toD_zero] at h; simp at h
    simp [toD_pos (b := 10) (by decide) h0]
  | m + 1, N, h => by
    have h0 : N ≠ 0 := by intro e; subst e; rw [toD_zero] at h; simp at h
    have e := toD_pos (b := 10) (by decide) h0
    simp only [e, List.getElem_cons_succ]
    rw [toD_get m (N / 10), Nat.div_div_eq_div_mul, Nat.pow_succ, Nat.mul_comm 10]
theorem div_step (N m : Nat) : 10 * (N / 10 ^ (m + 1)) + N / 10 ^ m % 10 = N / 10 ^ m := by
  rw [Nat.pow_succ, ← Nat.div_div_eq_div_mul]
  omega

set_option maxRecDepth 100000 in
set_option maxHeartbeats 1000000 in
theorem zero_walk (v : Value) (z : Int) (w : World) (hv : IsNum w v z) :
    Calls Tryz.prog 62 #[v] w fun e w' => e = .returned (.bool (decide (z = 0))) ∧ Below w.heap.size w w' := by
  obtain ⟨A, c, rfl, hc, hcm, hr⟩ := hv.open
  have hz : decide (z = 0) = ((toD 10 z.natAbs).length == 0) := by
    by_cases h : z = 0
    · subst h; rw [decide_eq_true rfl]; simp [toD_zero]
    · rw [decide_eq_false h]
      symm
      rw [beq_eq_false_iff_ne]
      intro h2
      have := (toD_nil_iff (by decide)).1 (List.eq_nil_of_length_eq_zero h2)
      omega
  rw [hz]
  clear hr hv hz
  go_enter Tryz.func62, Tryz.ntmps62
  go_wp2_with fail
  go_ret
  exact ⟨by congr 2; simp [Int.natCast_eq_zero, BEq.beq], below_a1 _ _⟩

/-- The number as a uint64. -/
def unsOk (z : Int) : Bool := decide (0 ≤ z) && decide (z < 18446744073709551616)
def unsZ (z : Int) : Int := if unsOk z = true then z else 0
theorem uns_cmp {z : Int} (h0 : 0 ≤ z) (h : unsOk z = false) : sgnC (z - ((18446744073709551615 : Nat) : Int)) = 1 := by
  unfold unsOk at h
  rw [decide_eq_true h0, Bool.true_and, decide_eq_false_iff_not] at h
  unfold sgnC
  rw [if_neg (by omega), if_neg (by omega)]
def UnsRel (N : Nat) (A : Option Addr) (b : Bool) (k0 c : Nat) (w : World) (n i : Value) (wr : World) : Prop :=
  ∃ k : Nat, n = .int .u64 ((N / 10 ^ k : Nat) : Int) ∧ i = .int .i64 ((k : Int) - 1) ∧ k ≤ k0 ∧ Below w.heap.size w wr ∧ wr.heap[w.heap.size]? = some (.cells #[.bool b, .slice A k0 c] 24 (0, 0))
theorem un_drew {w0 w1 : World} {a b : Addr} {u v : Value} (h : w1.cell? a = some u ∧ w1.cell? b = some v ∧ Below w0.heap.size w0 w1) : w1.drew.cell? a = some u ∧ w1.drew.cell? b = some v ∧ Below w0.heap.size w0 w1.drew := ⟨h.1, h.2.1, h.2.2.drew⟩
theorem un_grow {w0 w1 w2 : World} {a b : Addr} {u v : Value} (h : w1.cell? a = some u ∧ w1.cell? b = some v ∧ Below w0.heap.size w0 w1) (k : Below w1.heap.size w1 w2) : w2.cell? a = some u ∧ w2.cell? b = some v ∧ Below w0.heap.size w0 w2 :=
  ⟨(k.cell (by exact World.block_lt_of_cell? w1 _ h.1)).trans h.1, (k.cell (by exact World.block_lt_of_cell? w1 _ h.2.1)).trans h.2.1, bt h.2.2 k⟩

end Go.Proofs.YtiohlcfdoleooaaGreatDoor

/-
  The reference's Int, Uint.
-/
namespace Go.Proofs.YtiohlcfdoleooaaGreatDoor
open Go.RowKit

/-- The text is that of a number that fits. -/
def intOk (l : List UInt8) : Bool := decide (l.length ≤ 90) && (readOk l && decide ((readZ l).natAbs < 2 ^ 256))
def uintOk (l : List UInt8) : Bool := intOk l && !decide (readZ l < 0)
def Int2Post (w : World) (z : Int) (ok : Bool) (e : Ending) (w' : World) : Prop :=
  ∃ b A n c, e = .returned (.tuple #[.agg #[.bool b, .slice A n c], .bool ok]) ∧ (ok = true → IsNum w' (.agg #[.bool b, .slice A n c]) z) ∧ Below w.heap.size w w'

/-- What holds on the way in spec.Int. -/
structure IntM (w : World) (A : Option Addr) (ds : List Nat) (w' : World) : Prop where
  below : Below w.heap.size w w'
  rd : Rd w' A (u8s ds)
  res : ∃ b C n c, w'.heap[w.heap.size]? = some (.cells #[.bool b, .slice C n c] 24 (0, 0))
theorem intm_drew {w w1 : World} {A : Option Addr} {ds : List Nat} {g : Nat} {u v : Value} (h : w1.cell? ⟨g, 0, none⟩ = some u ∧ w1.cell? ⟨g, 1, none⟩ = some v ∧ IntM w A ds w1) : w1.drew.cell? ⟨g, 0, none⟩ = some u ∧ w1.drew.cell? ⟨g, 1, none⟩ = some v ∧ IntM w A ds w1.drew :=
  ⟨h.1, h.2.1, h.2.2.below.drew, h.2.2.rd, h.2.2.res⟩
theorem intm_grow {w w1 w2 : World} {A : Option Addr} {ds : List Nat} {g : Nat} {u v : Value} (h : w1.cell? ⟨g, 0, none⟩ = some u ∧ w1.cell? ⟨g, 1, none⟩ = some v ∧ IntM w A ds w1) (k : Below w1.heap.size w1 w2) : w2.cell? ⟨g, 0, none⟩ = some u ∧ w2.cell? ⟨g, 1, none⟩ = some v ∧ IntM w A ds w2 := by
  obtain ⟨h1, h2, h3, h4, b, C, n, c, h5⟩ := h
  exact ⟨(k.cell (by exact World.block_lt_of_cell? w1 _ h1)).trans h1, (k.cell (by exact World.block_lt_of_cell? w1 _ h2)).trans h2, bt h3 k, h4.below k, b, C, n, c, (k.block _ (iter_lt h5)).trans h5⟩
theorem intm_set {w w1 : World} {A : Option Addr} {ds : List Nat} {g : Nat} {u v : Value} {y : Bool} {D : Option Addr} {p q : Nat} (hg : w.heap.size < g) (h : w1.cell? ⟨g, 0, none⟩ = some u ∧ w1.cell? ⟨g, 1, none⟩ = some v ∧ IntM w A ds w1) :
    ((w1.setCell ⟨w.heap.size, 0, none⟩ (.bool y)).setCell ⟨w.heap.size, 1, none⟩ (.slice D p q)).cell? ⟨g, 0, none⟩ = some u ∧ ((w1.setCell ⟨w.heap.size, 0, none⟩ (.bool y)).setCell ⟨w.heap.size, 1, none⟩ (.slice D p q)).cell? ⟨g, 1, none⟩ = some v ∧
    IntM w A ds ((w1.setCell ⟨w.heap.size, 0, none⟩ (.bool y)).setCell ⟨w.heap.size, 1, none⟩ (.slice D p q)) := by
  obtain ⟨h1, h2, h3, h4, x, C, n, m, h8⟩ := h
  have e : ∀ (o : Nat), ((w1.setCell ⟨w.heap.size, 0, none⟩ (.bool y)).setCell ⟨w.heap.size, 1, none⟩ (.slice D p q)).cell? ⟨g, o, none⟩ = w1.cell? ⟨g, o, none⟩ := fun o =>
    (cell_other (by show g ≠ w.heap.size; omega)).trans (cell_other (by show g ≠ w.heap.size; omega))
  exact ⟨(e _).trans h1, (e _).trans h2,
    (h3.setCell (p := ⟨w.heap.size, 0, none⟩) (Nat.le_refl _) _).setCell (p := ⟨w.heap.size, 1, none⟩) (Nat.le_refl _) _, rd_set2 h8 h4, y, D, p, q, cells_set (cells_set h8 0 _) 1 _⟩
theorem intm_blk {w w1 w2 : World} {A : Option Addr} {ds : List Nat} (k : Below w1.heap.size w1 w2) (h : IntM w A ds w1) : ∃ x C n c, w2.heap[w.heap.size]? = some (.cells #[.bool x, .slice C n c] 24 (0, 0)) := by
  obtain ⟨_, _, x, C, n, c, h8⟩ := h
  exact ⟨x, C, n, c, (k.block _ (iter_lt h8)).trans h8⟩

set_option maxRecDepth 100000 in
set_option maxHeartbeats 4000000 in
theorem specInt_walk (l : List UInt8) (w : World) (hs : l.length ≤ 140737488355328) :
    Calls Tryz.prog 26 #[.string (S l)] w (Int2Post w (readZ l) (intOk l)) := by
  by_cases h90 : l.length ≤ 90
  · have h90' : ¬ (90 : Int) < l.length := by omega
    have hio : intOk l = (readOk l && decide ((readZ l).natAbs < 2 ^ 256)) := by unfold intOk; rw [decide_eq_true h90]; rfl
    have hr := read_walk l (w.alloc (.cells #[.bool false, .slice none 0 0] 24)) hs
    cases hok : readOk l with
    | false =>
      rw [hok] at hr hio
      rw [Bool.false_and] at hio
      rw [hio]
      have HR := Lib.hid hr
      clear hr hio hok
      go_enter Tryz.func26, Tryz.ntmps26
      go_wp2_with fail
      refine HR.out.mono ?_
      rintro e w1 ⟨v, rfl, ⟨A, c, rfl, hc1, hc2, hrd⟩, hb⟩
      have hk1 := (hb.block w.heap.size (by rw [heap_size_alloc]; omega)).trans (heap_here w (.cells #[.bool false, .slice none 0 0] 24))
      have hbw := bt (below_a1 w (.cells #[.bool false, .slice none 0 0] 24)) hb
      have hne : ¬ w.heap.size = w1.heap.size := by have := iter_lt hk1; omega
      have c0 : ∀ o, (w1.alloc o).cell? ⟨w.heap.size, 0, none⟩ = some (.bool false) := fun o => num_cell0 (heap_old hk1)
      have c1 : ∀ o, (w1.alloc o).cell? ⟨w.heap.size, 1, none⟩ = some (.slice none 0 0) := fun o => num_cell1 (heap_old hk1)
      have f0 : ∀ o, (w1.alloc o).frozen? ⟨w.heap.size, 0, none⟩ = false := fun o => one_free (heap_old hk1) 0
      have f1 : ∀ o, (w1.alloc o).frozen? ⟨w.heap.size, 1, none⟩ = false := fun o => one_free (heap_old hk1) 1
      have HK1 := Lib.hid hk1
      have HBW := Lib.hid hbw
      clear hrd hb hk1 hbw
      go_wp2_with fail
      go_region_with fail
      all_goals
        go_wp2_with fail
        have k0 := cells_set (cells_set (heap_old (o := .cells #[.bool (readSign l), .slice A (readDs l).length c] 24) HK1.out) 0 (.bool (readSign l))) 1 (.slice A (readDs l).length c)
        have d0 := num_cell0 k0
        have d1 := num_cell1 k0
        exact bodyPost_ret (v := .tuple #[.agg #[.bool (readSign l), .slice A (readDs l).length c], .bool false]) (by simp [results, Tryz.results26, go_sem, d0, d1]) rfl
          ⟨_, _, _, _, rfl, (fun h => by cases h), (((HBW.out.alloc HBW.out.size _).setCell (p := ⟨w.heap.size, 0, none⟩) (Nat.le_refl _) _).setCell (p := ⟨w.heap.size, 1, none⟩) (Nat.le_refl _) _).drew⟩
    | true =>
      obtain ⟨hn1, hn2⟩ := read_num hok
      rw [hok, hn1, hn2] at hr
      rw [hok, Bool.true_and] at hio
      rw [hio]
      obtain ⟨z, hz⟩ : ∃ z, readZ l = z := ⟨_, rfl⟩
      rw [hz] at hr ⊢
      obtain ⟨sg, hsg⟩ : ∃ sg, decide (z < 0) = sg := ⟨_, rfl⟩
      obtain ⟨ds, hds⟩ : ∃ ds, toD 10 z.natAbs = ds := ⟨_, rfl⟩
      obtain ⟨R, hR⟩ : ∃ R, decide (z.natAbs < 2 ^ 256) = R := ⟨_, rfl⟩
      rw [hsg, hds] at hr
      rw [hR]
      have HSG := Lib.hid hsg
      have HDS := Lib.hid hds
      have HRR := Lib.hid hR
      have HR := Lib.hid hr
      clear hr hio hok hn1 hn2 hz hsg hds hR
      go_enter Tryz.func26, Tryz.ntmps26
      go_wp2_with fail
      refine HR.out.mono ?_
      rintro e w1 ⟨v, rfl, ⟨A, c, rfl, hc1, hc2, hrd⟩, hb⟩
      have hk1 := (hb.block w.heap.size (by rw [heap_size_alloc]; omega)).trans (heap_here w (.cells #[.bool false, .slice none 0 0] 24))
      have hbw := bt (below_a1 w (.cells #[.bool false, .slice none 0 0] 24)) hb
      have hlt := iter_lt hk1
      have hkept : (w1.alloc (.cells #[.bool sg, .slice A ds.length c] 24)).cell? ⟨w1.heap.size, 0, none⟩ = some (.bool sg) ∧ (w1.alloc (.cells #[.bool sg, .slice A ds.length c] 24)).cell? ⟨w1.heap.size, 1, none⟩ = some (.slice A ds.length c) ∧ IntM w A ds (w1.alloc (.cells #[.bool sg, .slice A ds.length c] 24)) :=
        ⟨num_cell0 (heap_here _ _), num_cell1 (heap_here _ _), bt hbw (below_a1 _ _), hrd.below (below_a1 _ _), _, _, _, _, heap_old hk1⟩
      have HK1 := Lib.hid hk1
      clear hrd hb hk1 hbw
      go_wp2_with fail
      go_region_held3 (fun w' => w'.cell? ⟨w1.heap.size, 0, none⟩ = some (.bool sg) ∧ w'.cell? ⟨w1.heap.size, 1, none⟩ = some (.slice A ds.length c) ∧ IntM w A ds w')
        (first | exact intm_drew hkept | exact intm_grow (by assumption) hgr | exact intm_set hlt (by assumption) | assumption)
        (first | (go_at_call 76; refine (fits_walk (.agg #[.bool sg, .slice A ds.length c]) z _ ⟨A, c, by rw [HSG.out, HDS.out], by rw [HDS.out]; exact hc1, hc2, by rw [HDS.out]; go_split_ands; exact IntM.rd (by assumption)⟩).mono ?_; rw [HRR.out]; rintro e w7 ⟨rfl, hgr⟩; obtain ⟨x2, C2, n2, m2, hk2⟩ := intm_blk hgr (by go_split_ands; assumption); have c20 := num_cell0 hk2; have c21 := num_cell1 hk2; have f20 := one_free hk2 0; have f21 := one_free hk2 1; have HK2 := Lib.hid hk2; clear hk2))
      all_goals
        have hB := (‹_ ∧ _ ∧ IntM w A ds ((w7.setCell _ _).setCell _ _)›).2.2
        go_wp2_with fail
        have k0 := cells_set (cells_set HK2.out 0 (.bool sg)) 1 (.slice A ds.length c)
        have d0 := num_cell0 k0
        have d1 := num_cell1 k0
        exact bodyPost_ret (v := .tuple #[.agg #[.bool sg, .slice A ds.length c], .bool R]) (by simp [results, Tryz.results26, go_sem, d0, d1]) rfl
          ⟨_, _, _, _, rfl, (fun _ => ⟨A, c, by rw [HSG.out, HDS.out], by rw [HDS.out]; exact hc1, hc2, by rw [HDS.out]; exact hB.rd⟩), hB.below⟩
  · have h90' : (90 : Int) < l.length := by omega
    have hio : intOk l = false := by unfold intOk; rw [decide_eq_false h90]; rfl
    rw [hio]
    go_enter Tryz.func26, Tryz.ntmps26
    go_wp2_with fail
    have hk := heap_here w (.cells #[.bool false, .slice none 0 0] 24)
    have d0 := num_cell0 hk
    have d1 := num_cell1 hk
    exact bodyPost_ret (v := .tuple #[.agg #[.bool false, .slice none 0 0], .bool false]) (by simp [results, Tryz.results26, go_sem, d0, d1]) rfl
      ⟨_, _, _, _, rfl, (fun h => by cases h), below_a1 _ _⟩
set_option maxRecDepth 100000 in
set_option maxHeartbeats 4000000 in
theorem specUint_walk (l : List UInt8) (w : World) (hs : l.length ≤ 140737488355328) :
    Calls Tryz.prog 14 #[.string (S l)] w (Int2Post w (readZ l) (uintOk l)) := by
  have hr := specInt_walk l (w.alloc (.cells #[.bool false, .slice none 0 0] 24)) hs
  obtain ⟨z, hz⟩ : ∃ z, readZ l = z := ⟨_, rfl⟩
  have hu : uintOk l = (intOk l && !decide (z < 0)) := by rw [← hz]; rfl
  rw [hu, hz]
  rw [hz] at hr
  obtain ⟨ok, hok⟩ : ∃ ok, intOk l = ok := ⟨_, rfl⟩
  rw [hok] at hr ⊢
  have HR := Lib.hid hr
  clear hr hu hz hok
  go_enter Tryz.func14, Tryz.ntmps14
  go_wp2_with fail
  refine HR.out.mono ?_
  rintro e w1 ⟨b, A, n, c, rfl, hnum, hb⟩
  have hk1 := (hb.block w.heap.size (by rw [heap_size_alloc]; omega)).trans (heap_here w (.cells #[.bool false, .slice none 0 0] 24))
  have hbw := bt (below_a1 w (.cells #[.bool false, .slice none 0 0] 24)) hb
  have hne : ¬ w.heap.size = w1.heap.size := by have := iter_lt hk1; omega
  have hnb : ok = true → b = decide (z < 0) := fun h => by
    obtain ⟨A2, c2, he, -⟩ := hnum h
    injection he with he
    injection he with he
    injection he with he1 he2
    injection he1
  have c0 : ∀ o, (w1.alloc o).cell? ⟨w.heap.size, 0, none⟩ = some (.bool false) := fun o => num_cell0 (heap_old hk1)
  have c1 : ∀ o, (w1.alloc o).cell? ⟨w.heap.size, 1, none⟩ = some (.slice none 0 0) := fun o => num_cell1 (heap_old hk1)
  have f0 : ∀ o, (w1.alloc o).frozen? ⟨w.heap.size, 0, none⟩ = false := fun o => one_free (heap_old hk1) 0
  have f1 : ∀ o, (w1.alloc o).frozen? ⟨w.heap.size, 1, none⟩ = false := fun o => one_free (heap_old hk1) 1
  have hfin : ∀ r, (r = true → ok = true) → Int2Post w z r (.returned (.tuple #[.agg #[.bool b, .slice A n c], .bool r])) ((((w1.alloc (.cells #[.bool b, .slice A n c] 24)).setCell ⟨w.heap.size, 0, none⟩ (.bool b)).setCell ⟨w.heap.size, 1, none⟩ (.slice A n c)).drew) := fun r hro => by
    refine ⟨_, _, _, _, rfl, fun h => ?_, ((((hbw.alloc hbw.size _).setCell (p := ⟨w.heap.size, 0, none⟩) (Nat.le_refl _) _).setCell (p := ⟨w.heap.size, 1, none⟩) (Nat.le_refl _) _).drew)⟩
    obtain ⟨A2, c2, he, h1, h2, h3⟩ := hnum (hro h)
    refine ⟨A2, c2, he, h1, h2, ?_⟩
    exact rd_set2 (heap_old hk1) (h3.below (below_a1 _ _))
  have HK1 := Lib.hid hk1
  have HF := Lib.hid hfin
  clear hb hk1 hbw hnum hfin
  cases ok with
  | false =>
    clear hnb
    go_wp2_with fail
    go_region
    all_goals
      go_wp2_with fail
      have k0 := cells_set (cells_set (heap_old (o := .cells #[.bool b, .slice A n c] 24) HK1.out) 0 (.bool b)) 1 (.slice A n c)
      have d0 := num_cell0 k0
      have d1 := num_cell1 k0
      exact bodyPost_ret (v := .tuple #[.agg #[.bool b, .slice A n c], .bool false]) (by simp [results, Tryz.results14, go_sem, d0, d1]) rfl
        (HF.out false (fun h => h))
  | true =>
    obtain rfl := hnb rfl
    cases hzz : decide (z < 0) with
    | false =>
      rw [hzz] at HF
      have HZ := Lib.hid hzz
      clear hzz
      go_wp2_with fail
      go_region_with fail
      all_goals
        go_wp2_with fail
        have k0 := cells_set (cells_set (heap_old (o := .cells #[.bool false, .slice A n c] 24) HK1.out) 0 (.bool false)) 1 (.slice A n c)
        have d0 := num_cell0 k0
        have d1 := num_cell1 k0
        exact bodyPost_ret (v := .tuple #[.agg #[.bool false, .slice A n c], .bool true]) (by simp [results, Tryz.results14, go_sem, d0, d1]) rfl
          (by rw [HZ.out]; exact HF.out true (by simp))
    | true =>
      rw [hzz] at HF
      have HZ := Lib.hid hzz
      clear hzz
      go_wp2_with fail
      go_region_with fail
      all_goals
        go_wp2_with fail
        have k0 := cells_set (cells_set (heap_old (o := .cells #[.bool true, .slice A n c] 24) HK1.out) 0 (.bool true)) 1 (.slice A n c)
        have d0 := num_cell0 k0
        have d1 := num_cell1 k0
        exact bodyPost_ret (v := .tuple #[.agg #[.bool true, .slice A n c], .bool false]) (by simp [results, Tryz.results14, go_sem, d0, d1]) rfl
          (by rw [HZ.out]; exact HF.out false (by simp))
end Go.Proofs.YtiohlcfdoleooaaGreatDoor
