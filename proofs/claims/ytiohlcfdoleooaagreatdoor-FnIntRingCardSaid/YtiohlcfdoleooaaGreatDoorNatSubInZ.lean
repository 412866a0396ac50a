/-
  nat.sub into the memory of the second number, which is the lesser one.
-/
import Derived.Test.YtiohlcfdoleooaaGreatDoorBn23Z
namespace Go.Proofs.YtiohlcfdoleooaaGreatDoor
open Go.RowKit

theorem Src.heap {w w2 : World} {g o : Nat} {zs xs : List Nat} {X : Option Addr} (h : Src w g o zs X xs) (hh : w2.heap = w.heap) : Src w2 g o zs X xs := by
  rcases h with h | ⟨h1, h2⟩
  · exact .inl h
  · refine .inr ⟨?_, h2⟩
    rcases h1 with h1 | ⟨x, h1, h3⟩
    · exact .inl h1
    · exact .inr ⟨x, h1, fun j u hj => by have h4 := h3 j u hj; simp only [World.cell?, hh] at h4 ⊢; exact h4⟩

set_option maxRecDepth 100000 in
set_option maxHeartbeats 4000000 in
theorem natSubIn_walk (B : Nat) (N M : Nat) (A C : Option Addr) (c d : Nat) (w : World) (hc : (wds N).length ≤ c) (hcm : c ≤ 9223372036854775807) (hl : (wds N).length ≤ 80000)
    (hx : Wd w A (wds N)) (hA : ∀ a, A = some a → a.block < B) (hy : OwnNat B w C d M) (hB : B ≤ w.heap.size) (hM0 : M ≠ 0) (hge : M ≤ N) :
    Calls Tryz.prog 182 #[.slice C (wds M).length d, .slice A (wds N).length c, .slice C (wds M).length d] w (OwnPost B w (N - M)) := by
  have hle : (wds M).length ≤ (wds N).length := Nat.le_of_not_lt fun h => by have := toD_len_lt (b := 18446744073709551616) (by decide) h; omega
  have hvx := wds_val N
  have hvy := wds_val M
  have hwx := wds_lt N
  have hwy := wds_lt M
  have hn0 : (wds M).length ≠ 0 := fun h => hM0 ((toD_nil_iff (by decide)).1 (List.length_eq_zero_iff.1 h))
  have hd := hy.room.1
  have hdm : d ≤ 9223372036854775807 := by have := hy.room; omega
  have HM0 := make_own_walk B C d M (wds N).length w hy hB (by omega) (by omega)
  obtain ⟨xs, hxs⟩ : ∃ xs, wds N = xs := ⟨_, rfl⟩
  obtain ⟨ys, hys⟩ : ∃ ys, wds M = ys := ⟨_, rfl⟩
  rw [hxs] at hx hc hl hle hvx hwx HM0 ⊢
  rw [hys] at hd hle hvy hwy hn0 HM0 ⊢
  rcases hx with hx | ⟨gx, zx, rx, rfl, hrx, hzx⟩
  · rw [hx] at hle; simp at hle; exact absurd (by rw [hle]; rfl) hn0
  have hgx : gx < B := hA _ rfl
  obtain ⟨n, hn⟩ : ∃ n, ys.length = n := ⟨_, rfl⟩
  obtain ⟨m, hm⟩ : ∃ m, xs.length = m := ⟨_, rfl⟩
  rw [hn] at hle hd hn0 HM0 ⊢
  rw [hm] at hle hc hl HM0 ⊢
  have HM : Hid (Calls Tryz.prog 195 #[.slice C n d, .int .i64 m] w fun e w' => ∃ g zs, e = .returned (.slice (some ⟨g, 0, none⟩) m zs.length) ∧ Row w' g .u64 150 zs ∧ m ≤ zs.length ∧ zs.length ≤ 100000 ∧ B ≤ g ∧ Src w' g 0 zs C ys ∧ Below B w w' ∧ w.heap.size ≤ w'.heap.size) := by
    refine Lib.hid (HM0.mono ?_)
    rintro e w' ⟨g, zs, k1, k2, k3, k4, k5, k6, k7, k8⟩
    rw [hys] at k6
    exact ⟨g, zs, k1, k2, k3, k4, k5, k6, k7, k8⟩
  have htl : (xs.take n).length = n := by rw [List.length_take, hm]; omega
  have hdl : (xs.drop n).length = m - n := by rw [List.length_drop, hm]
  have HN := Lib.hid hn
  have HMM := Lib.hid hm
  have HDL := Lib.hid hdl
  have HTL := Lib.hid htl
  have HWX := Lib.hid hwx
  have HWY := Lib.hid hwy
  have HVX := Lib.hid hvx
  have HVY := Lib.hid hvy
  have HX := Lib.hid hxs
  have HRX0 := Lib.hid hrx
  have HZX := Lib.hid hzx
  have HGX := Lib.hid hgx
  have hmb : ((m : Int) == 0) = false := beq_eq_false_iff_ne.2 (by omega)
  have hnb : ((n : Int) == 0) = false := beq_eq_false_iff_ne.2 (by omega)
  have hmn : ¬ (m : Int) < n := by omega
  have hi0 : (0 : Int) ≤ n := by omega
  have hi2 : (n : Int) ≤ c := by omega
  have hi3 : (n : Int) ≤ d := by omega
  have hi5 : (m : Int) ≤ c := by omega
  have hi6 : (n : Int) ≤ m := by omega
  clear HM0 hn hm hdl hwx hwy hvx hvy hxs hys hrx htl hzx hA hy
  go_enter Tryz.func182, Tryz.ntmps182
  go_wp2_with fail
  refine HM.out.mono ?_
  rintro e w1 ⟨gz, zs, rfl, hrow, hmz, hzm, hBz, hsrc, hb1, hs1⟩
  have hrx1 : Row w1 gx .u64 150 zx := (hb1.block gx HGX.out).trans HRX0.out
  have hgz : gx ≠ gz := by have := HGX.out; omega
  have hrdx : Rd w1.drew (some ⟨gx, 0, none⟩) (nums .u64 (xs.take n)) := by
    have h1 := (hrx1.rd 0).take n
    rw [List.drop_zero, HZX.out, List.take_append_of_le_length (by rw [HMM.out]; omega)] at h1
    exact h1
  obtain ⟨R, hR⟩ : ∃ R, zs.length = R := ⟨_, rfl⟩
  have hAV := subVV_walk gz 0 zs (xs.take n) ys (some ⟨gx, 0, none⟩) C R c d w1.drew (hrow.drew 1) (.inr ⟨hrdx, fun a ha => by cases ha; exact hgz⟩) (hsrc.heap rfl)
    (by rw [HTL.out, HN.out]) (by rw [HTL.out]; omega) (fun d hd => HWX.out d (List.mem_of_mem_take hd)) HWY.out (by rw [HTL.out]; omega) (by decide)
  unfold VvPost at hAV
  rw [HTL.out] at hAV
  have HAV := Lib.hid hAV
  have HRX := Lib.hid hrx1
  have HB1 := Lib.hid hb1
  have HS1 := Lib.hid hs1
  have HGZ := Lib.hid hgz
  have HBZ := Lib.hid hBz
  have HZL := Lib.hid hR
  have HZM := Lib.hid hzm
  rw [hR] at hmz ⊢
  have hR9 : R ≤ 100000 := by have := HZM.out; have := HZL.out; omega
  have hi1 : (n : Int) ≤ R := by omega
  have hi4 : (m : Int) ≤ R := by omega
  clear hAV hrx1 hrdx hb1 hs1 hgz hBz hR hzm hrow hsrc
  go_wp2_with fail
  go_still_tail 9, (by kernel_rfl)
  change wpList _ _ _ _ _ _
  go_wp2_with fail
  refine HAV.out.mono ?_
  rintro e w2 ⟨c1, o1, rfl, hc1, hol1, how1, hrow2, hx2, hs2, hv2⟩
  have HR2 := Lib.hid hrow2
  have HO1 := Lib.hid hol1
  have HW1 := Lib.hid how1
  have HV2 := Lib.hid hv2
  have HX2 := Lib.hid hx2
  clear hrow2 hol1 how1 hv2 hx2
  by_cases hgt : n < m
  · have hgti : (n : Int) < m := by omega
    have hne1 : ¬ n = R := by omega
    have hne2 : ¬ R = n := by omega
    have hne3 : ¬ n = c := by omega
    have hne4 : ¬ c = n := by omega
    have hAW := subVW_walk gz n (over zs 0 o1) (xs.drop n) gx n zx (R - n) (c - n) c1 w2.drew (HR2.out.drew 1) (((HRX.out.drew 1).ext2 HX2.out HGZ.out).drew 1) ⟨rx, by rw [HZX.out, List.drop_append_of_le_length (by have := HMM.out; omega)]⟩ HGZ.out
      (by rw [HDL.out, over_length (by rw [HZL.out, HO1.out]; omega), HZL.out]; omega) (by rw [HDL.out]; omega) (by rw [HDL.out]; omega) (by omega) (by omega) (by rw [HDL.out]; omega) (by omega) (fun d hd => HWX.out d (List.mem_of_mem_drop hd)) (by rw [HDL.out]; omega) (by omega)
    unfold VwPost at hAW
    rw [HDL.out] at hAW
    have HAW := Lib.hid hAW
    clear hAW
    go_wp2_with fail
    go_still_tail 7, (by kernel_rfl)
    change wpList _ _ _ _ _ _
    go_wp2_with fail
    refine HAW.out.mono ?_
    rintro e w3 ⟨c2, o2, rfl, hc2, hol2, how2, hrow3, hx3, hs3, hv3⟩
    have hov := over_over zs o1 o2 0 (by rw [HZL.out, HO1.out]; omega)
    rw [Nat.zero_add, HO1.out] at hov
    rw [hov] at hrow3
    have hlen : (o1 ++ o2).length = m := by rw [List.length_append, HO1.out, hol2]; omega
    have hval := sub_join (xs := xs) (ys := ys) (m := m) HO1.out (by omega) HMM.out HV2.out hv3
    rw [HVX.out, HVY.out] at hval
    have hdig : ∀ d ∈ o1 ++ o2, d < 18446744073709551616 := fun d hd => by
      rcases List.mem_append.1 hd with h | h
      · exact HW1.out d h
      · exact how2 d h
    have hbw : Below B w w3 := HB1.out.trans ((((Ext.refl _ w1).drewN 1).trans HX2.out).trans (((Ext.refl _ w2).drewN 1).trans hx3) |>.below (by have := HS1.out; omega) (fun k hk => by rw [hk]; exact HBZ.out))
    have hsz : w.heap.size ≤ w3.heap.size := by have h1 := HS1.out; have h2 : w2.heap.size = w1.heap.size := hs2; have h3 : w3.heap.size = w2.heap.size := hs3; omega
    obtain ⟨outs, hout⟩ : ∃ outs, o1 ++ o2 = outs := ⟨_, rfl⟩
    rw [hout] at hrow3 hlen hval hdig
    clear hx3 hs3 hv3 hol2 how2 hov hout hne1 hne2 hne3 hne4
    have hc20 : c2 = 0 := by
      have h1 := valD_lt (b := 18446744073709551616) (by decide) hdig
      rw [hlen] at h1
      refine Nat.eq_zero_of_not_pos fun hp => ?_
      have h2 := Nat.mul_le_mul_left (18446744073709551616 ^ m) hp
      omega
    subst hc20
    have hvv : valD 18446744073709551616 outs = N - M := by omega
    obtain ⟨hown, htr, hrd⟩ := own_trim hrow3 hdig (by rw [hlen, HZL.out]; omega) HZM.out HBZ.out hvv
    rw [HZL.out] at hown
    have hNW := norm_walk (some ⟨gz, 0, none⟩) R outs _ (by omega) (by omega) hrd
    rw [htr, hlen] at hNW
    have HNW := Lib.hid hNW
    have HOWN := Lib.hid hown
    have HBW := Lib.hid hbw
    have HSZ := Lib.hid hsz
    clear hNW hown hbw hsz hvv htr hrd hval hdig hlen hrow3
    go_wp2_with fail
    refine HNW.out.mono ?_
    rintro e w5 ⟨rfl, rfl⟩
    go_wp2_with fail
    go_ret
    exact ⟨_, R, rfl, HOWN.out, HBW.out, HSZ.out⟩
  · have hgti : ¬ (n : Int) < m := by omega
    obtain rfl : m = n := by omega
    obtain ⟨c2, hcc⟩ : ∃ c2, c1 = c2 := ⟨_, rfl⟩
    obtain ⟨outs, hout⟩ : ∃ outs, o1 = outs := ⟨_, rfl⟩
    obtain ⟨w3, hw3⟩ : ∃ w3, w2 = w3 := ⟨_, rfl⟩
    subst hcc hout hw3
    have hc2 := hc1
    have hrow3 := HR2.out
    have hlen := HO1.out
    have hdig := HW1.out
    have hval : _ + _ = _ + _ := HV2.out
    rw [List.take_of_length_le (by have := HMM.out; omega), HVX.out, HVY.out] at hval
    have hbw : Below B w w2 := HB1.out.trans (((Ext.refl _ w1).drewN 1).trans HX2.out |>.below (by have := HS1.out; omega) (fun k hk => by rw [hk]; exact HBZ.out))
    have hsz : w.heap.size ≤ w2.heap.size := by have h1 := HS1.out; have h2 : w2.heap.size = w1.heap.size := hs2; omega
    have hc20 : c1 = 0 := by
      have h1 := valD_lt (b := 18446744073709551616) (by decide) hdig
      rw [hlen] at h1
      refine Nat.eq_zero_of_not_pos fun hp => ?_
      have h2 := Nat.mul_le_mul_left (18446744073709551616 ^ m) hp
      omega
    subst hc20
    have hvv : valD 18446744073709551616 o1 = N - M := by omega
    obtain ⟨hown, htr, hrd⟩ := own_trim hrow3 hdig (by rw [hlen, HZL.out]; omega) HZM.out HBZ.out hvv
    rw [HZL.out] at hown
    have hNW := norm_walk (some ⟨gz, 0, none⟩) R o1 _ (by omega) (by omega) hrd
    rw [htr, hlen] at hNW
    have HNW := Lib.hid hNW
    have HOWN := Lib.hid hown
    have HBW := Lib.hid hbw
    have HSZ := Lib.hid hsz
    clear hNW hown hbw hsz hvv htr hrd hval hdig hlen hrow3
    go_wp2_with fail
    refine HNW.out.mono ?_
    rintro e w5 ⟨rfl, rfl⟩
    go_wp2_with fail
    go_ret
    exact ⟨_, R, rfl, HOWN.out, HBW.out, HSZ.out⟩
end Go.Proofs.YtiohlcfdoleooaaGreatDoor
