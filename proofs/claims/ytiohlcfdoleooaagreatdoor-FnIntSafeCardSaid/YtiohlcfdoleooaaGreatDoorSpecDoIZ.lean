/-
  The reference's Do: the rest of a number that is less than 0.
-/
import Derived.Test.YtiohlcfdoleooaaGreatDoorBn24Z
import Derived.Deep.RegionWith
namespace Go.Proofs.YtiohlcfdoleooaaGreatDoor
open Go.RowKit

theorem isNum_set2' {w : World} {b : Nat} {x : Bool} {A : Option Addr} {n c : Nat} {T : TypeId} {u v k : Value} {z : Int} (hk : w.heap[b]? = some (.cells #[.bool x, .slice A n c] T (0, 0))) (h : IsNum w k z) :
    IsNum ((w.setCell ⟨b, 0, none⟩ u).setCell ⟨b, 1, none⟩ v) k z := by
  obtain ⟨B, d, h1, h2, h3, h4⟩ := h
  exact ⟨B, d, h1, h2, h3, rd_set2 hk h4⟩
theorem heap_set2' {w : World} {b k : Nat} {u v : Value} (h : b ≠ k) : ((w.setCell ⟨k, 0, none⟩ u).setCell ⟨k, 1, none⟩ v).heap[b]? = w.heap[b]? :=
  (one_other (by exact h)).trans (one_other (by exact h))

set_option maxRecDepth 100000 in
set_option maxHeartbeats 4000000 in
theorem specDoMod_walk (v u : Value) (x y : Int) (w : World) (hv : IsNum w v x) (hu : IsNum w u y) (hy0 : y ≠ 0) (hlx : (toD 10 x.natAbs).length ≤ 999) (hly : (toD 10 y.natAbs).length ≤ 999) :
    Calls Tryz.prog 23 #[.int .i64 4, v, u] w (DoNum w (refZ 4 x y)) := by
  obtain ⟨A, c, rfl, hc, hcm, hr⟩ := hv.open
  obtain ⟨B, d, rfl, hd, hdm, hs⟩ := hu.open
  have HX := Lib.hid hv
  have HY := Lib.hid hu
  have HLX := Lib.hid hlx
  have HLY := Lib.hid hly
  clear hr hs hc hd hcm hdm
  obtain ⟨n, hn⟩ : ∃ n, decide (x < 0) = n := ⟨_, rfl⟩
  obtain ⟨m, hm⟩ : ∃ m, decide (y < 0) = m := ⟨_, rfl⟩
  obtain ⟨a, ha⟩ : ∃ a, (toD 10 x.natAbs).length = a := ⟨_, rfl⟩
  obtain ⟨b, hb⟩ : ∃ b, (toD 10 y.natAbs).length = b := ⟨_, rfl⟩
  clear hv hu hlx hly
  rw [hn, ha] at HX ⊢
  rw [hm, hb] at HY ⊢
  have e0 := heap_old (o := .cells #[.bool false, .slice none 0 0] 24) (heap_old (o := .cells #[.bool m, .slice B b d] 24) (heap_here w (.cells #[.bool n, .slice A a c] 24)))
  have e1 := heap_old (o := .cells #[.bool false, .slice none 0 0] 24) (heap_at (w.alloc (.cells #[.bool n, .slice A a c] 24)) (.cells #[.bool m, .slice B b d] 24) (by rw [heap_size_alloc]))
  have e2 : (((w.alloc (.cells #[.bool n, .slice A a c] 24)).alloc (.cells #[.bool m, .slice B b d] 24)).alloc (.cells #[.bool false, .slice none 0 0] 24)).heap[w.heap.size + 1 + 1]? = some (.cells #[.bool false, .slice none 0 0] 24 (0, 0)) := heap_at _ _ (by rw [heap_size_alloc, heap_size_alloc])
  have hB := bt (below_a2 w (.cells #[.bool n, .slice A a c] 24) (.cells #[.bool m, .slice B b d] 24)) (below_a1 _ (.cells #[.bool false, .slice none 0 0] 24))
  obtain ⟨wa, hwa⟩ : ∃ wa, ((w.alloc (.cells #[.bool n, .slice A a c] 24)).alloc (.cells #[.bool m, .slice B b d] 24)).alloc (.cells #[.bool false, .slice none 0 0] 24) = wa := ⟨_, rfl⟩
  rw [hwa] at e0 e1 e2 hB
  have HWA := Lib.hid hwa
  have K0 := Lib.hid e0
  have K1 := Lib.hid e1
  have K2 := Lib.hid e2
  have HB := Lib.hid hB
  have HXA := Lib.hid (HX.out.below hB)
  have HYA := Lib.hid (HY.out.below hB)
  have c00 := num_cell0 e0
  have c01 := num_cell1 e0
  have c10 := num_cell0 e1
  have c11 := num_cell1 e1
  clear hwa hn hm ha hb e0 e1 e2 hB HX HY
  by_cases hm0 : x.tmod y < 0
  · have HRZ : Hid (refZ 4 x y = some (x.tmod y + y.natAbs)) := Lib.hid ((if_neg hy0).trans (congrArg some (if_pos hm0)))
    have HM0 := Lib.hid (decide_eq_true hm0)
    clear hm0
    rw [HRZ.out]
    have HYB := Lib.hid (decide_eq_false hy0)
    have HQR := Lib.hid (fun (w' : World) (v u : Value) (h1 : IsNum w' v x) (h2 : IsNum w' u y) => quoRem_walk v u x y w' h1 h2 hy0 (Nat.le_trans HLX.out (by decide)) HLY.out)
    have HLT : Hid ((toD 10 (x.tmod y).natAbs).length ≤ 1000) := Lib.hid (by
      rw [tmodAbs]
      exact Nat.le_trans (toD_length_le (by decide) (toD 10 x.natAbs).length _ (Nat.lt_of_le_of_lt (Nat.mod_le _ _) (toD_lt_pow (b := 10) (by decide) x.natAbs))) (Nat.le_trans HLX.out (by decide)))
    clear hy0
    obtain ⟨lq, hlq⟩ : ∃ l, (toD 10 (x.tdiv y).natAbs).length = l := ⟨_, rfl⟩
    obtain ⟨lr, hlr⟩ : ∃ l, (toD 10 (x.tmod y).natAbs).length = l := ⟨_, rfl⟩
    obtain ⟨bq, hbq⟩ : ∃ l, decide (x.tdiv y < 0) = l := ⟨_, rfl⟩
    obtain ⟨br, hbr⟩ : ∃ l, decide (x.tmod y < 0) = l := ⟨_, rfl⟩
    have HLQ := Lib.hid hlq
    have HLR := Lib.hid hlr
    have HBQ := Lib.hid hbq
    have HBR := Lib.hid hbr
    clear hlq hlr hbq hbr

    obtain rfl : br = true := by rw [← HBR.out, HM0.out]

    go_enter Tryz.func23, Tryz.ntmps23
    go_wp2_with fail
    rw [HWA.out]
    go_wp2_with fail

    refine (zero_walk _ y _ HYA.out).mono ?_
    rw [HYB.out]
    rintro e w8 ⟨rfl, hgr⟩
    have hk0 := (hgr.block _ (iter_lt K0.out)).trans K0.out
    have hk1 := (hgr.block _ (iter_lt K1.out)).trans K1.out
    have hk2 := (hgr.block _ (iter_lt K2.out)).trans K2.out
    have c00 := num_cell0 hk0
    have c01 := num_cell1 hk0
    have c10 := num_cell0 hk1
    have c11 := num_cell1 hk1
    have HK1 := Lib.hid hk1
    have HK2 := Lib.hid hk2
    have HBG := Lib.hid (bt HB.out hgr)
    have HX8 := Lib.hid (HXA.out.below hgr)
    have HY8 := Lib.hid (HYA.out.below hgr)
    clear hk0 hk1 hk2 hgr
    go_wp2_with fail
    refine (HQR.out _ _ _ HX8.out HY8.out).mono ?_
    rintro e w9 ⟨v2, u2, rfl, hv2, hu2, hgr⟩
    obtain ⟨F, f, rfl, hf1, hf2, hfr⟩ := hv2.open
    obtain ⟨G, g, rfl, hg1, hg2, hgf⟩ := hu2.open
    rw [HLQ.out, HLR.out, HBQ.out, HBR.out]

    have hk2 := (hgr.block _ (iter_lt HK2.out)).trans HK2.out
    have hk1 := (hgr.block _ (iter_lt HK1.out)).trans HK1.out
    obtain ⟨wZ, hwZ⟩ : ∃ wZ, (w9.alloc (.cells #[.bool bq, .slice F lq f] 24)).alloc (.cells #[.bool true, .slice G lr g] 24) = wZ := ⟨_, rfl⟩
    have hbZ : Below w9.heap.size w9 wZ := by rw [← hwZ]; exact below_a2 _ _ _
    have hkr : wZ.heap[w9.heap.size + 1]? = some (.cells #[.bool true, .slice G lr g] 24 (0, 0)) := by rw [← hwZ]; exact heap_at _ _ (heap_size_alloc _ _)
    obtain ⟨R, hR⟩ : ∃ R, w9.heap.size + 1 = R := ⟨_, rfl⟩
    rw [hR] at hkr
    have HRE := Lib.hid hR
    have hRw : w.heap.size + 1 + 1 < R := by have := iter_lt hk2; omega
    have HKR := Lib.hid hkr
    have HKY := Lib.hid ((hbZ.block _ (iter_lt hk1)).trans hk1)
    have HKO := Lib.hid ((hbZ.block _ (iter_lt hk2)).trans hk2)
    have HNR : Hid (IsNum wZ (.agg #[.bool true, .slice G lr g]) (x.tmod y)) := Lib.hid ⟨G, g, by rw [HBR.out, HLR.out], by rw [HLR.out]; exact (HLR.out ▸ hg1), hg2, hgf.below hbZ⟩
    have HNY := Lib.hid ((HY8.out.below hgr).below hbZ)
    have HBH := Lib.hid (bt (bt HBG.out hgr) hbZ)
    have HWZ := Lib.hid hwZ
    have HAB := Lib.hid (fun (w' : World) (h : IsNum w' (.agg #[.bool m, .slice B b d]) y) => abs_walk _ y w' h)
    have HAD := Lib.hid (fun (w' : World) (v1 v2 : Value) (h1 : IsNum w' v1 (x.tmod y)) (h2 : IsNum w' v2 (y.natAbs : Int)) => add_walk v1 v2 (x.tmod y) (y.natAbs : Int) w' h1 h2 HLT.out (by rw [Int.natAbs_natCast]; exact Nat.le_trans HLY.out (by decide)))
    clear hv2 hu2 hfr hgf hk2 hk1 hgr c00 c01 c10 c11 hf1 hg1 hwZ hkr hR hbZ
    go_wp2_with fail
    rw [HWZ.out, HRE.out]
    have r0 := num_cell0 HKR.out
    have r1 := num_cell1 HKR.out
    have y0 := num_cell0 HKY.out
    have y1 := num_cell1 HKY.out
    go_wp2_with fail
    go_region_with (first
      | (go_at_call 64; refine (HAB.out wZ.drew (HNY.out.below (Below.refl wZ.heap.size wZ).drew)).mono ?_; rintro e w10 ⟨v10, rfl, hv10, hgr10⟩; have HV10 := Lib.hid hv10; have HG10 : Hid (Below wZ.heap.size wZ w10) := Lib.hid (bt (Below.refl wZ.heap.size wZ).drew hgr10); have hq10 := (HG10.out.block _ (iter_lt HKR.out)).trans HKR.out; have r00 := num_cell0 hq10; have r11 := num_cell1 hq10; clear hv10 hgr10 hq10)
      | (go_at_call 60; refine (HAD.out _ _ _ (HNR.out.below HG10.out) HV10.out).mono ?_; rintro e w11 ⟨v11, rfl, hv11, hgr11⟩; obtain ⟨H, h, rfl, hh1, hh2, hhf⟩ := hv11.open; have HV11 := Lib.hid hv11; have HG11 := Lib.hid (bt HG10.out hgr11); have hq11 := (HG11.out.block _ (iter_lt HKR.out)).trans HKR.out; have r000 := num_cell0 hq11; have r111 := num_cell1 hq11; have f000 := one_free hq11 0; have f111 := one_free hq11 1; have HQ11 := Lib.hid hq11; clear hv11 hgr11 hq11 hhf))
    all_goals
      obtain ⟨bs, hbs⟩ : ∃ q, decide (x.tmod y + (y.natAbs : Int) < 0) = q := ⟨_, rfl⟩
      obtain ⟨ls, hls⟩ : ∃ q, (toD 10 (x.tmod y + (y.natAbs : Int)).natAbs).length = q := ⟨_, rfl⟩
      rw [hbs, hls] at HV11 ⊢
      rw [hls] at hh1
      have hkR := cells_set (cells_set HQ11.out 0 (.bool bs)) 1 (.slice H ls h)
      have hkO := (heap_set2' (k := R) (u := .bool bs) (v := .slice H ls h) (show w.heap.size + 1 + 1 ≠ R by omega)).trans ((HG11.out.block _ (iter_lt HKO.out)).trans HKO.out)
      have hN := isNum_set2' (u := .bool bs) (v := .slice H ls h) HQ11.out HV11.out
      have hBB : Below w.heap.size w ((w11.setCell ⟨R, 0, none⟩ (.bool bs)).setCell ⟨R, 1, none⟩ (.slice H ls h)) := ((bt HBH.out HG11.out).setCell (p := ⟨R, 0, none⟩) (by show w.heap.size ≤ R; omega) _).setCell (p := ⟨R, 1, none⟩) (by show w.heap.size ≤ R; omega) _
      obtain ⟨wT, hwT⟩ : ∃ wT, (w11.setCell ⟨R, 0, none⟩ (.bool bs)).setCell ⟨R, 1, none⟩ (.slice H ls h) = wT := ⟨_, rfl⟩
      rw [hwT] at hkR hkO hN hBB ⊢
      have t0 := num_cell0 hkR
      have t1 := num_cell1 hkR
      have c20 := num_cell0 hkO
      have c21 := num_cell1 hkO
      have f20 := one_free hkO 0
      have f21 := one_free hkO 1
      have HKT := Lib.hid hkO
      have HNT := Lib.hid hN
      have HBT := Lib.hid hBB
      have HBS := Lib.hid hbs
      have HLS := Lib.hid hls
      clear hwT hkR hkO hN hBB hbs hls r0 r1 r00 r11 r000 r111 f000 f111 y0 y1
      go_wp2_with fail
      have k0 := cells_set (cells_set HKT.out 0 (.bool bs)) 1 (.slice H ls h)
      have d0 := num_cell0 k0
      have d1 := num_cell1 k0
      have hfin := isNum_set2' (u := .bool bs) (v := .slice H ls h) HKT.out HNT.out
      have hBF := (HBT.out.setCell (p := ⟨w.heap.size + 1 + 1, 0, none⟩) (by show w.heap.size ≤ w.heap.size + 1 + 1; omega) (.bool bs)).setCell (p := ⟨w.heap.size + 1 + 1, 1, none⟩) (by show w.heap.size ≤ w.heap.size + 1 + 1; omega) (.slice H ls h)
      exact bodyPost_ret (v := .tuple #[.agg #[.bool bs, .slice H ls h], .bool true]) (by simp [results, Tryz.results23, go_sem, d0, d1]) rfl ⟨_, rfl, hfin, hBF⟩
  · have HRZ : Hid (refZ 4 x y = some (x.tmod y)) := Lib.hid ((if_neg hy0).trans (congrArg some (if_neg hm0)))
    have HM0 := Lib.hid (decide_eq_false hm0)
    clear hm0
    rw [HRZ.out]
    have HYB := Lib.hid (decide_eq_false hy0)
    have HQR := Lib.hid (fun (w' : World) (v u : Value) (h1 : IsNum w' v x) (h2 : IsNum w' u y) => quoRem_walk v u x y w' h1 h2 hy0 (Nat.le_trans HLX.out (by decide)) HLY.out)
    have HLT : Hid ((toD 10 (x.tmod y).natAbs).length ≤ 1000) := Lib.hid (by
      rw [tmodAbs]
      exact Nat.le_trans (toD_length_le (by decide) (toD 10 x.natAbs).length _ (Nat.lt_of_le_of_lt (Nat.mod_le _ _) (toD_lt_pow (b := 10) (by decide) x.natAbs))) (Nat.le_trans HLX.out (by decide)))
    clear hy0
    obtain ⟨lq, hlq⟩ : ∃ l, (toD 10 (x.tdiv y).natAbs).length = l := ⟨_, rfl⟩
    obtain ⟨lr, hlr⟩ : ∃ l, (toD 10 (x.tmod y).natAbs).length = l := ⟨_, rfl⟩
    obtain ⟨bq, hbq⟩ : ∃ l, decide (x.tdiv y < 0) = l := ⟨_, rfl⟩
    obtain ⟨br, hbr⟩ : ∃ l, decide (x.tmod y < 0) = l := ⟨_, rfl⟩
    have HLQ := Lib.hid hlq
    have HLR := Lib.hid hlr
    have HBQ := Lib.hid hbq
    have HBR := Lib.hid hbr
    clear hlq hlr hbq hbr

    obtain rfl : br = false := by rw [← HBR.out, HM0.out]

    go_enter Tryz.func23, Tryz.ntmps23
    go_wp2_with fail
    rw [HWA.out]
    go_wp2_with fail

    refine (zero_walk _ y _ HYA.out).mono ?_
    rw [HYB.out]
    rintro e w8 ⟨rfl, hgr⟩
    have hk0 := (hgr.block _ (iter_lt K0.out)).trans K0.out
    have hk1 := (hgr.block _ (iter_lt K1.out)).trans K1.out
    have hk2 := (hgr.block _ (iter_lt K2.out)).trans K2.out
    have c00 := num_cell0 hk0
    have c01 := num_cell1 hk0
    have c10 := num_cell0 hk1
    have c11 := num_cell1 hk1
    have HK2 := Lib.hid hk2
    have HBG := Lib.hid (bt HB.out hgr)
    have HX8 := Lib.hid (HXA.out.below hgr)
    have HY8 := Lib.hid (HYA.out.below hgr)
    clear hk0 hk1 hk2 hgr
    go_wp2_with fail
    refine (HQR.out _ _ _ HX8.out HY8.out).mono ?_
    rintro e w9 ⟨v2, u2, rfl, hv2, hu2, hgr⟩
    obtain ⟨F, f, rfl, hf1, hf2, hfr⟩ := hv2.open
    obtain ⟨G, g, rfl, hg1, hg2, hgf⟩ := hu2.open
    rw [HLQ.out, HLR.out, HBQ.out, HBR.out]

    have hk2 := (hgr.block _ (iter_lt HK2.out)).trans HK2.out
    have HBH := Lib.hid (bt (bt HBG.out hgr) (below_a2 w9 (.cells #[.bool bq, .slice F lq f] 24) (.cells #[.bool false, .slice G lr g] 24)))
    have HRD := Lib.hid (hgf.below (below_a2 w9 (.cells #[.bool bq, .slice F lq f] 24) (.cells #[.bool false, .slice G lr g] 24)))
    have HK3 := Lib.hid (heap_old (o := .cells #[.bool false, .slice G lr g] 24) (heap_old (o := .cells #[.bool bq, .slice F lq f] 24) hk2))
    have c20 := num_cell0 HK3.out
    have c21 := num_cell1 HK3.out
    have f20 := one_free HK3.out 0
    have f21 := one_free HK3.out 1
    have HL := Lib.hid hg1
    clear hv2 hu2 hfr hgf hk2 hgr c00 c01 c10 c11 hf1 hg1
    go_wp2_with fail
    have k0 := cells_set (cells_set HK3.out 0 (.bool false)) 1 (.slice G lr g)
    have d0 := num_cell0 k0
    have d1 := num_cell1 k0
    exact bodyPost_ret (v := .tuple #[.agg #[.bool false, .slice G lr g], .bool true]) (by simp [results, Tryz.results23, go_sem, d0, d1]) rfl
      ⟨_, rfl, ⟨G, g, by show _ = Value.agg #[.bool (decide (x.tmod y < 0)), .slice G (toD 10 (x.tmod y).natAbs).length g]; rw [HBR.out, HLR.out], HL.out, hg2, rd_set2 HK3.out HRD.out⟩, (HBH.out.setCell (p := ⟨w.heap.size + 1 + 1, 0, none⟩) (by show w.heap.size ≤ w.heap.size + 1 + 1; omega) _).setCell (p := ⟨w.heap.size + 1 + 1, 1, none⟩) (by show w.heap.size ≤ w.heap.size + 1 + 1; omega) _⟩
set_option maxRecDepth 100000 in
set_option maxHeartbeats 4000000 in
theorem specDoZero_walk (v u : Value) (x y : Int) (w : World) (hv : IsNum w v x) (hu : IsNum w u y) (hy0 : y = 0) (hlx : (toD 10 x.natAbs).length ≤ 999) (hly : (toD 10 y.natAbs).length ≤ 999) :
    Calls Tryz.prog 23 #[.int .i64 4, v, u] w (DoNum w (refZ 4 x y)) := by
  obtain ⟨A, c, rfl, hc, hcm, hr⟩ := hv.open
  obtain ⟨B, d, rfl, hd, hdm, hs⟩ := hu.open
  have HX := Lib.hid hv
  have HY := Lib.hid hu
  have HLX := Lib.hid hlx
  have HLY := Lib.hid hly
  clear hr hs hc hd hcm hdm
  obtain ⟨n, hn⟩ : ∃ n, decide (x < 0) = n := ⟨_, rfl⟩
  obtain ⟨m, hm⟩ : ∃ m, decide (y < 0) = m := ⟨_, rfl⟩
  obtain ⟨a, ha⟩ : ∃ a, (toD 10 x.natAbs).length = a := ⟨_, rfl⟩
  obtain ⟨b, hb⟩ : ∃ b, (toD 10 y.natAbs).length = b := ⟨_, rfl⟩
  clear hv hu hlx hly
  rw [hn, ha] at HX ⊢
  rw [hm, hb] at HY ⊢
  have e0 := heap_old (o := .cells #[.bool false, .slice none 0 0] 24) (heap_old (o := .cells #[.bool m, .slice B b d] 24) (heap_here w (.cells #[.bool n, .slice A a c] 24)))
  have e1 := heap_old (o := .cells #[.bool false, .slice none 0 0] 24) (heap_at (w.alloc (.cells #[.bool n, .slice A a c] 24)) (.cells #[.bool m, .slice B b d] 24) (by rw [heap_size_alloc]))
  have e2 : (((w.alloc (.cells #[.bool n, .slice A a c] 24)).alloc (.cells #[.bool m, .slice B b d] 24)).alloc (.cells #[.bool false, .slice none 0 0] 24)).heap[w.heap.size + 1 + 1]? = some (.cells #[.bool false, .slice none 0 0] 24 (0, 0)) := heap_at _ _ (by rw [heap_size_alloc, heap_size_alloc])
  have hB := bt (below_a2 w (.cells #[.bool n, .slice A a c] 24) (.cells #[.bool m, .slice B b d] 24)) (below_a1 _ (.cells #[.bool false, .slice none 0 0] 24))
  obtain ⟨wa, hwa⟩ : ∃ wa, ((w.alloc (.cells #[.bool n, .slice A a c] 24)).alloc (.cells #[.bool m, .slice B b d] 24)).alloc (.cells #[.bool false, .slice none 0 0] 24) = wa := ⟨_, rfl⟩
  rw [hwa] at e0 e1 e2 hB
  have HWA := Lib.hid hwa
  have K0 := Lib.hid e0
  have K1 := Lib.hid e1
  have K2 := Lib.hid e2
  have HB := Lib.hid hB
  have HXA := Lib.hid (HX.out.below hB)
  have HYA := Lib.hid (HY.out.below hB)
  have c00 := num_cell0 e0
  have c01 := num_cell1 e0
  have c10 := num_cell0 e1
  have c11 := num_cell1 e1
  clear hwa hn hm ha hb e0 e1 e2 hB HX HY
  have HRZ : Hid (refZ 4 x y = none) := Lib.hid (if_pos hy0)
  rw [HRZ.out]
  have hyb : decide (y = 0) = true := decide_eq_true hy0
  have HYB := Lib.hid hyb
  clear hyb hy0
  go_enter Tryz.func23, Tryz.ntmps23
  go_wp2_with fail
  rw [HWA.out]
  go_wp2_with fail

  refine (zero_walk _ y _ HYA.out).mono ?_
  rw [HYB.out]
  rintro e w8 ⟨rfl, hgr⟩
  have hk2 := (hgr.block _ (iter_lt K2.out)).trans K2.out
  have c20 := num_cell0 hk2
  have c21 := num_cell1 hk2
  have f20 := one_free hk2 0
  have f21 := one_free hk2 1
  have HK2 := Lib.hid hk2
  have HBG := Lib.hid (bt HB.out hgr)
  clear hk2 hgr
  go_wp2_with fail
  have k0 := cells_set (cells_set HK2.out 0 (.bool false)) 1 (.slice none 0 0)
  have d0 := num_cell0 k0
  have d1 := num_cell1 k0
  have hz : IsNum ((w8.setCell ⟨w.heap.size + 1 + 1, 0, none⟩ (.bool false)).setCell ⟨w.heap.size + 1 + 1, 1, none⟩ (.slice none 0 0)) (.agg #[.bool false, .slice none 0 0]) 0 := ⟨none, 0, by rw [Int.natAbs_zero, toD_zero]; rfl, by rw [Int.natAbs_zero, toD_zero]; exact Nat.le_refl _, by decide, .inl (by rw [Int.natAbs_zero, toD_zero]; rfl)⟩
  exact bodyPost_ret (v := .tuple #[.agg #[.bool false, .slice none 0 0], .bool false]) (by simp [results, Tryz.results23, go_sem, d0, d1]) rfl
    ⟨_, rfl, hz, (HBG.out.setCell (p := ⟨w.heap.size + 1 + 1, 0, none⟩) (by show w.heap.size ≤ w.heap.size + 1 + 1; omega) _).setCell (p := ⟨w.heap.size + 1 + 1, 1, none⟩) (by show w.heap.size ≤ w.heap.size + 1 + 1; omega) _⟩
theorem specDoAll_walk (o : Nat) (v u : Value) (x y : Int) (w : World) (ho : o ≤ 6) (hv : IsNum w v x) (hu : IsNum w u y) (hlx : (toD 10 x.natAbs).length ≤ 999) (hly : (toD 10 y.natAbs).length ≤ 999) :
    Calls Tryz.prog 23 #[.int .i64 (o : Int), v, u] w (DoNum w (refZ o x y)) := by
  by_cases h4 : o = 4
  · subst h4
    by_cases hy0 : y = 0
    · exact specDoZero_walk v u x y w hv hu hy0 hlx hly
    · exact specDoMod_walk v u x y w hv hu hy0 hlx hly
  · exact specDo_walk o v u x y w ho hv hu hlx hly (fun h => absurd h h4)
end Go.Proofs.YtiohlcfdoleooaaGreatDoor
