/-
  math/big's nat.add, nat.sub into new memory.
-/
import Derived.Test.YtapfolgiafnllaaGreatDoorBn09Z
import Derived.Test.YtapfolgiafnllaaGreatDoorItoa4Z
namespace Go.Proofs.YtapfolgiafnllaaGreatDoor
open Go.RowKit

theorem add_join {o1 o2 xs ys : List Nat} {n m c1 c2 : Nat} (h1 : o1.length = n) (hnm : n ≤ m) (hx : xs.length = m) (ha : valD 18446744073709551616 o1 + 18446744073709551616 ^ n * c1 = valD 18446744073709551616 (xs.take n) + valD 18446744073709551616 ys)
    (hb : valD 18446744073709551616 o2 + 18446744073709551616 ^ (m - n) * c2 = valD 18446744073709551616 (xs.drop n) + c1) :
    valD 18446744073709551616 (o1 ++ o2) + 18446744073709551616 ^ m * c2 = valD 18446744073709551616 xs + valD 18446744073709551616 ys := by
  have e1 : valD 18446744073709551616 xs = valD 18446744073709551616 (xs.take n) + 18446744073709551616 ^ n * valD 18446744073709551616 (xs.drop n) := by
    conv => lhs; rw [← List.take_append_drop n xs, valD_append]
    rw [List.length_take, hx, Nat.min_eq_left hnm]
  have e2 : 18446744073709551616 ^ m = 18446744073709551616 ^ n * 18446744073709551616 ^ (m - n) := by rw [← Nat.pow_add]; congr 1; omega
  rw [valD_append, h1, e1, e2]
  generalize 18446744073709551616 ^ n = P at *
  generalize 18446744073709551616 ^ (m - n) = Q at *
  have e3 := congrArg (P * ·) hb
  simp only [Nat.mul_add] at e3
  rw [Nat.mul_assoc]
  omega
theorem sub_join {o1 o2 xs ys : List Nat} {n m c1 c2 : Nat} (h1 : o1.length = n) (hnm : n ≤ m) (hx : xs.length = m) (ha : valD 18446744073709551616 o1 + valD 18446744073709551616 ys = valD 18446744073709551616 (xs.take n) + 18446744073709551616 ^ n * c1)
    (hb : valD 18446744073709551616 o2 + c1 = valD 18446744073709551616 (xs.drop n) + 18446744073709551616 ^ (m - n) * c2) :
    valD 18446744073709551616 (o1 ++ o2) + valD 18446744073709551616 ys = valD 18446744073709551616 xs + 18446744073709551616 ^ m * c2 := by
  have e1 : valD 18446744073709551616 xs = valD 18446744073709551616 (xs.take n) + 18446744073709551616 ^ n * valD 18446744073709551616 (xs.drop n) := by
    conv => lhs; rw [← List.take_append_drop n xs, valD_append]
    rw [List.length_take, hx, Nat.min_eq_left hnm]
  have e2 : 18446744073709551616 ^ m = 18446744073709551616 ^ n * 18446744073709551616 ^ (m - n) := by rw [← Nat.pow_add]; congr 1; omega
  rw [valD_append, h1, e1, e2]
  generalize 18446744073709551616 ^ n = P at *
  generalize 18446744073709551616 ^ (m - n) = Q at *
  have e3 := congrArg (P * ·) hb
  simp only [Nat.mul_add] at e3
  rw [Nat.mul_assoc]
  omega
/-- A row of words that the call owns, its noughts at the end cut off. -/
theorem own_trim {w : World} {g B S : Nat} {zs outs : List Nat} (hrow : Row w g .u64 106 (over zs 0 outs)) (ho : ∀ d ∈ outs, d < 18446744073709551616) (hl : outs.length ≤ zs.length) (hz : zs.length ≤ 100000) (hB : B ≤ g) (hv : valD 18446744073709551616 outs = S) :
    OwnNat B w (some ⟨g, 0, none⟩) zs.length S ∧ trimN outs = wds S ∧ Rd w (some ⟨g, 0, none⟩) (nums .u64 outs) := by
  have htr : trimN outs = wds S := by rw [wds_trim ho, hv]
  obtain ⟨r0, hr0⟩ := trimN_prefix outs
  rw [htr] at hr0
  have hov : over zs 0 outs = outs ++ zs.drop outs.length := by simp [over]
  have hle := over_length (zs := zs) (outs := outs) (o := 0) (by omega)
  refine ⟨.inr ⟨g, over zs 0 outs, rfl, hle.symm, hrow, ⟨r0 ++ zs.drop outs.length, ?_⟩, hB, by omega⟩, htr, ?_⟩
  · rw [hov]
    exact (congrArg (· ++ zs.drop outs.length) hr0).trans (List.append_assoc _ _ _)
  · have hrd := hrow.rd 0
    rw [List.drop_zero, hov] at hrd
    have htk := hrd.take outs.length
    rwa [List.take_left] at htk

set_option maxRecDepth 100000 in
set_option maxHeartbeats 4000000 in
theorem natAddGe_walk (N M : Nat) (A B : Option Addr) (c d : Nat) (w : World) (hc : (wds N).length ≤ c) (hcm : c ≤ 9223372036854775807) (hd : (wds M).length ≤ d) (hdm : d ≤ 9223372036854775807) (hl : (wds N).length ≤ 80000)
    (hx : Wd w A (wds N)) (hy : Wd w B (wds M)) (hge : (wds M).length ≤ (wds N).length) :
    Calls Tryz.prog 112 #[.slice none 0 0, .slice A (wds N).length c, .slice B (wds M).length d] w (OwnPost w.heap.size w (N + M)) := by
  have hle := hge
  have hvx := wds_val N
  have hvy := wds_val M
  have hwx := wds_lt N
  have hwy := wds_lt M
  have hxn : (wds N).length = 0 → N = 0 := fun h => (toD_nil_iff (by decide)).1 (List.length_eq_zero_iff.1 h)
  have hyn : (wds M).length = 0 → M = 0 := fun h => (toD_nil_iff (by decide)).1 (List.length_eq_zero_iff.1 h)
  by_cases hn0 : (wds M).length = 0
  · have hM := hyn hn0
    by_cases hm0 : (wds N).length = 0
    · have hN := hxn hm0
      subst hM hN
      rw [wds_zero] at hc hd ⊢
      have h1 : (0 : Int) ≤ c := by omega
      clear hx hy hvx hvy hwx hwy hxn hyn hn0 hm0
      go_enter Tryz.func112, Tryz.ntmps112
      go_wp2_with fail
      go_ret
      exact ⟨none, 0, by rw [wds_zero]; rfl, .inl ⟨rfl, rfl, rfl⟩, Below.refl _ _, Nat.le_refl _⟩
    · subst hM
      rw [wds_zero] at hd ⊢
      have HS := Lib.hid (setNew_walk A c N w hc hcm (by omega) hx.rd)
      have hmb : (((wds N).length : Int) == 0) = false := beq_eq_false_iff_ne.2 (by omega)
      have hmi : ¬ ((wds N).length : Int) < 0 := by omega
      clear hx hy hvx hvy hwx hwy hxn hyn hn0 hm0
      go_enter Tryz.func112, Tryz.ntmps112
      go_wp2_with fail
      refine HS.out.mono ?_
      rintro e w1 ⟨A1, c1, rfl, hp⟩
      go_wp2_with fail
      go_ret
      exact ⟨A1, c1, by first | rfl | simp, hp⟩
  · obtain ⟨xs, hxs⟩ : ∃ xs, wds N = xs := ⟨_, rfl⟩
    obtain ⟨ys, hys⟩ : ∃ ys, wds M = ys := ⟨_, rfl⟩
    rw [hxs] at hx hc hl hle hvx hwx hxn ⊢
    rw [hys] at hy hd hle hvy hwy hyn hn0 ⊢
    rcases hx with hx | ⟨gx, zx, rx, rfl, hrx, hzx⟩
    · rw [hx] at hle; simp at hle; exact absurd (by rw [hle]; rfl) hn0
    rcases hy with hy | ⟨gy, zy, ry, rfl, hry, hzy⟩
    · rw [hy] at hn0; exact absurd rfl hn0
    obtain ⟨n, hn⟩ : ∃ n, ys.length = n := ⟨_, rfl⟩
    obtain ⟨m, hm⟩ : ∃ m, xs.length = m := ⟨_, rfl⟩
    rw [hn] at hle hd hn0 ⊢
    rw [hm] at hle hc hl ⊢
    have HM := Lib.hid (make_new_walk none 0 0 (m + 1) w (by omega) (by omega) (Nat.le_refl _))
    have hroom : m + 1 ≤ roomFor (m + 1) ∧ roomFor (m + 1) ≤ m + 1 + 4 := by unfold roomFor; split <;> omega
    have hrow := row_made w .u64 (roomFor (m + 1)) 106
    obtain ⟨R, hR⟩ : ∃ R, roomFor (m + 1) = R := ⟨_, rfl⟩
    rw [hR] at HM hroom hrow
    have hgx : gx < w.heap.size := hrx.lt
    have hgy : gy < w.heap.size := hry.lt
    have hrx1 := hrx.alloc (.cells (madeCells #[.int .u64 0] R) 106)
    have hry1 := hry.alloc (.cells (madeCells #[.int .u64 0] R) 106)
    have hb1 := below_a1 w (.cells (madeCells #[.int .u64 0] R) 106)
    have hs1 := heap_size_alloc w (.cells (madeCells #[.int .u64 0] R) 106)
    obtain ⟨w1, hw1⟩ : ∃ w1, w.alloc (.cells (madeCells #[.int .u64 0] R) 106) = w1 := ⟨_, rfl⟩
    rw [hw1] at HM hrow hrx1 hry1 hb1 hs1
    have htl : (xs.take n).length = n := by rw [List.length_take, hm]; omega
    have hdl : (xs.drop n).length = m - n := by rw [List.length_drop, hm]
    have hzl : (List.replicate R 0).length = R := List.length_replicate
    have hrdx : Rd w1.drew (some ⟨gx, 0, none⟩) (nums .u64 (xs.take n)) := by
      have h1 := (hrx1.rd 0).take n
      rw [List.drop_zero, hzx, List.take_append_of_le_length (by omega)] at h1
      exact h1
    have hrdy : Rd w1.drew (some ⟨gy, 0, none⟩) (nums .u64 ys) := by
      have h1 := (hry1.rd 0).take ys.length
      rw [List.drop_zero, hzy, List.take_left] at h1
      exact h1
    have hAV := addVV_walk w.heap.size 0 (List.replicate R 0) (xs.take n) ys (some ⟨gx, 0, none⟩) (some ⟨gy, 0, none⟩) R c d w1.drew (hrow.drew 1) (.inr ⟨hrdx, fun a ha => by cases ha; exact Nat.ne_of_lt hgx⟩) (.inr ⟨hrdy, fun a ha => by cases ha; exact Nat.ne_of_lt hgy⟩)
      (by rw [htl, hn]) (by rw [htl, hzl]; omega) (fun d hd => hwx d (List.mem_of_mem_take hd)) hwy (by rw [htl]; omega) (by decide)
    unfold VvPost at hAV
    rw [htl] at hAV
    have HAV := Lib.hid hAV
    have HRX := Lib.hid hrx1
    have HZX := Lib.hid hzx
    have HN := Lib.hid hn
    have HMM := Lib.hid hm
    have HZL := Lib.hid hzl
    have HDL := Lib.hid hdl
    have HWX := Lib.hid hwx
    have HVX := Lib.hid hvx
    have HVY := Lib.hid hvy
    have HB1 := Lib.hid hb1
    have HS1 := Lib.hid hs1
    have HX := Lib.hid hxs
    have hmb : ((m : Int) == 0) = false := beq_eq_false_iff_ne.2 (by omega)
    have hnb : ((n : Int) == 0) = false := beq_eq_false_iff_ne.2 (by omega)
    have hmn : ¬ (m : Int) < n := by omega
    have hi0 : (0 : Int) ≤ n := by omega
    have hi1 : (n : Int) ≤ R := by omega
    have hi2 : (n : Int) ≤ c := by omega
    have hi3 : (n : Int) ≤ d := by omega
    have hi4 : (m : Int) ≤ R := by omega
    have hi5 : (m : Int) ≤ c := by omega
    have hi6 : (n : Int) ≤ m := by omega
    have ec : ((m + 1 : Nat) : Int) = (m : Int) + 1 := by omega
    rw [ec] at HM
    have hi7 : (m : Int) + 1 ≤ R := by omega
    have hi8 : (m : Int) < R := by omega
    have hi9 : (m : Int) < (m : Int) + 1 := by omega
    clear ec
    clear hAV hrx1 hry1 hzx hzy hn hm hzl hdl hwx hwy hvx hvy hb1 hs1 hxs hys hrx hry hrow htl hrdx hrdy hR hw1 hxn hyn
    go_enter Tryz.func112, Tryz.ntmps112
    go_wp2_with fail
    refine HM.out.mono ?_
    rintro e w9 ⟨rfl, hw9⟩
    obtain rfl : w1 = w9 := hw9.symm
    clear hw9
    go_wp2_with fail
    go_still_tail 9, (by kernel_rfl)
    change wpList _ _ _ _ _ _
    go_wp2_with fail
    refine HAV.out.mono ?_
    rintro e w2 ⟨c1, o1, rfl, hc1, hol1, how1, hrow2, hx2, hs2, hv2⟩
    have HR2 := Lib.hid hrow2
    have HO1 := Lib.hid hol1
    have HW1 := Lib.hid how1
    have HV2 := Lib.hid hv2
    have HX2 := Lib.hid hx2
    clear hrow2 hol1 how1 hv2 hx2
    by_cases hgt : n < m
    · have hgti : (n : Int) < m := by omega
      have hne1 : ¬ n = R := by omega
      have hne2 : ¬ R = n := by omega
      have hne3 : ¬ n = c := by omega
      have hne4 : ¬ c = n := by omega
      have hAW := addVW_walk w.heap.size n (over (List.replicate R 0) 0 o1) (xs.drop n) gx n zx (R - n) (c - n) c1 w2.drew (HR2.out.drew 1) (((HRX.out.drew 1).ext2 HX2.out (Nat.ne_of_lt hgx)).drew 1) ⟨rx, by rw [HZX.out, List.drop_append_of_le_length (by have := HMM.out; omega)]⟩ (Nat.ne_of_lt hgx)
        (by rw [HDL.out, over_length (by rw [HZL.out, HO1.out]; omega), HZL.out]; omega) (by rw [HDL.out]; omega) (by rw [HDL.out]; omega) (by omega) (by omega) (by rw [HDL.out]; omega) (by omega) (fun d hd => HWX.out d (List.mem_of_mem_drop hd)) (by rw [HDL.out]; omega) (by omega)
      unfold VwPost at hAW
      rw [HDL.out] at hAW
      have HAW := Lib.hid hAW
      clear hAW
      go_wp2_with fail
      go_still_tail 8, (by kernel_rfl)
      change wpList _ _ _ _ _ _
      go_wp2_with fail
      refine HAW.out.mono ?_
      rintro e w3 ⟨c2, o2, rfl, hc2, hol2, how2, hrow3, hx3, hs3, hv3⟩
      have hov := over_over (List.replicate R 0) o1 o2 0 (by rw [HZL.out, HO1.out]; omega)
      rw [Nat.zero_add, HO1.out] at hov
      rw [hov] at hrow3
      have hlen : (o1 ++ o2).length = m := by rw [List.length_append, HO1.out, hol2]; omega
      have hval := add_join (xs := xs) (ys := ys) (m := m) HO1.out (by omega) HMM.out HV2.out hv3
      rw [HVX.out, HVY.out] at hval
      have hdig : ∀ d ∈ o1 ++ o2, d < 18446744073709551616 := fun d hd => by
        rcases List.mem_append.1 hd with h | h
        · exact HW1.out d h
        · exact how2 d h
      have hbw : Below w.heap.size w w3 := HB1.out.trans ((((Ext.refl _ w1).drewN 1).trans HX2.out).trans (((Ext.refl _ w2).drewN 1).trans hx3) |>.below (by have := HS1.out; omega) (fun k hk => by omega))
      have hsz : w3.heap.size = w.heap.size + 1 := hs3.trans (hs2.trans HS1.out)
      obtain ⟨outs, hout⟩ : ∃ outs, o1 ++ o2 = outs := ⟨_, rfl⟩
      rw [hout] at hrow3 hlen hval hdig
      clear hx3 hs3 hv3 hol2 how2 hov hout hne1 hne2 hne3 hne4
      have hc0 : ∃ old : Nat, w3.cell? ⟨w.heap.size, m, none⟩ = some (.int .u64 old) := ⟨_, hrow3.cell (j := m) (by rw [over_length (by rw [HZL.out]; omega), HZL.out]; omega)⟩
      obtain ⟨old, hc0⟩ := hc0
      have hf0 := hrow3.free m
      have hset := over_set (zs := List.replicate R 0) (outs := outs) (o := 0) (v := c2) (by rw [HZL.out]; omega)
      rw [Nat.zero_add, hlen] at hset
      have hst : Row (w3.setCell ⟨w.heap.size, m, none⟩ (.int .u64 (c2 : Int))) w.heap.size .u64 106 (over (List.replicate R 0) 0 (outs ++ [c2])) := by rw [← hset]; exact hrow3.set _ _
      have hvv : valD 18446744073709551616 (outs ++ [c2]) = N + M := by
        rw [valD_append, hlen]
        have e1 : valD 18446744073709551616 [c2] = c2 := by simp [valD]
        rw [e1]
        exact hval
      have hl3 : (outs ++ [c2]).length = m + 1 := by rw [List.length_append, hlen]; rfl
      obtain ⟨hown, htr, hrd⟩ := own_trim hst (fun d hd => by
        rcases List.mem_append.1 hd with h | h
        · exact hdig d h
        · simp at h; omega) (by rw [hl3, HZL.out]; omega) (by rw [HZL.out]; omega) (Nat.le_refl _) hvv
      rw [HZL.out] at hown
      have hNW := norm_walk (some ⟨w.heap.size, 0, none⟩) R (outs ++ [c2]) _ (by rw [hl3]; omega) (by omega) hrd
      rw [htr, hl3] at hNW
      have HNW := Lib.hid hNW
      have HOWN := Lib.hid hown
      have HBW := Lib.hid hbw
      have HSZ := Lib.hid hsz
      clear hNW hown hbw hsz hst hvv hl3 htr hrd hset hval hdig hlen hrow3
      go_wp2_with fail
      refine HNW.out.mono ?_
      rintro e w5 ⟨rfl, rfl⟩
      go_wp2_with fail
      go_ret
      exact ⟨_, R, rfl, HOWN.out, HBW.out.setCell (p := ⟨w.heap.size, m, none⟩) (Nat.le_refl _) _, by have := HSZ.out; simp [World.setCell]; omega⟩
    · have hgti : ¬ (n : Int) < m := by omega
      obtain rfl : m = n := by omega
      obtain ⟨c2, hcc⟩ : ∃ c2, c1 = c2 := ⟨_, rfl⟩
      obtain ⟨outs, hout⟩ : ∃ outs, o1 = outs := ⟨_, rfl⟩
      obtain ⟨w3, hw3⟩ : ∃ w3, w2 = w3 := ⟨_, rfl⟩
      subst hcc hout hw3
      have hc2 := hc1
      have hrow3 := HR2.out
      have hlen := HO1.out
      have hdig := HW1.out
      have hval : _ + _ = _ + _ := HV2.out
      rw [List.take_of_length_le (by have := HMM.out; omega), HVX.out, HVY.out] at hval
      have hbw : Below w.heap.size w w2 := HB1.out.trans (((Ext.refl _ w1).drewN 1).trans HX2.out |>.below (by have := HS1.out; omega) (fun k hk => by omega))
      have hsz : w2.heap.size = w.heap.size + 1 := hs2.trans HS1.out
      have hc0 : ∃ old : Nat, w2.cell? ⟨w.heap.size, m, none⟩ = some (.int .u64 old) := ⟨_, hrow3.cell (j := m) (by rw [over_length (by rw [HZL.out]; omega), HZL.out]; omega)⟩
      obtain ⟨old, hc0⟩ := hc0
      have hf0 := hrow3.free m
      have hset := over_set (zs := List.replicate R 0) (outs := o1) (o := 0) (v := c1) (by rw [HZL.out]; omega)
      rw [Nat.zero_add, hlen] at hset
      have hst : Row (w2.setCell ⟨w.heap.size, m, none⟩ (.int .u64 (c1 : Int))) w.heap.size .u64 106 (over (List.replicate R 0) 0 (o1 ++ [c1])) := by rw [← hset]; exact hrow3.set _ _
      have hvv : valD 18446744073709551616 (o1 ++ [c1]) = N + M := by
        rw [valD_append, hlen]
        have e1 : valD 18446744073709551616 [c1] = c1 := by simp [valD]
        rw [e1]
        exact hval
      have hl3 : (o1 ++ [c1]).length = m + 1 := by rw [List.length_append, hlen]; rfl
      obtain ⟨hown, htr, hrd⟩ := own_trim hst (fun d hd => by
        rcases List.mem_append.1 hd with h | h
        · exact hdig d h
        · simp at h; omega) (by rw [hl3, HZL.out]; omega) (by rw [HZL.out]; omega) (Nat.le_refl _) hvv
      rw [HZL.out] at hown
      have hNW := norm_walk (some ⟨w.heap.size, 0, none⟩) R (o1 ++ [c1]) _ (by rw [hl3]; omega) (by omega) hrd
      rw [htr, hl3] at hNW
      have HNW := Lib.hid hNW
      have HOWN := Lib.hid hown
      have HBW := Lib.hid hbw
      have HSZ := Lib.hid hsz
      clear hNW hown hbw hsz hst hvv hl3 htr hrd hset hval hdig hlen hrow3
      go_wp2_with fail
      refine HNW.out.mono ?_
      rintro e w5 ⟨rfl, rfl⟩
      go_wp2_with fail
      go_ret
      exact ⟨_, R, rfl, HOWN.out, HBW.out.setCell (p := ⟨w.heap.size, m, none⟩) (Nat.le_refl _) _, by have := HSZ.out; simp [World.setCell]; omega⟩

set_option maxRecDepth 100000 in
set_option maxHeartbeats 4000000 in
theorem natSubGe_walk (N M : Nat) (A B : Option Addr) (c d : Nat) (w : World) (hc : (wds N).length ≤ c) (hcm : c ≤ 9223372036854775807) (hd : (wds M).length ≤ d) (hdm : d ≤ 9223372036854775807) (hl : (wds N).length ≤ 80000)
    (hx : Wd w A (wds N)) (hy : Wd w B (wds M)) (hge : M ≤ N) :
    Calls Tryz.prog 114 #[.slice none 0 0, .slice A (wds N).length c, .slice B (wds M).length d] w (OwnPost w.heap.size w (N - M)) := by
  have hle : (wds M).length ≤ (wds N).length := Nat.le_of_not_lt fun h => by have := toD_len_lt (b := 18446744073709551616) (by decide) h; omega
  have hvx := wds_val N
  have hvy := wds_val M
  have hwx := wds_lt N
  have hwy := wds_lt M
  have hxn : (wds N).length = 0 → N = 0 := fun h => (toD_nil_iff (by decide)).1 (List.length_eq_zero_iff.1 h)
  have hyn : (wds M).length = 0 → M = 0 := fun h => (toD_nil_iff (by decide)).1 (List.length_eq_zero_iff.1 h)
  by_cases hn0 : (wds M).length = 0
  · have hM := hyn hn0
    by_cases hm0 : (wds N).length = 0
    · have hN := hxn hm0
      subst hM hN
      rw [wds_zero] at hc hd ⊢
      have h1 : (0 : Int) ≤ c := by omega
      clear hx hy hvx hvy hwx hwy hxn hyn hn0 hm0
      go_enter Tryz.func114, Tryz.ntmps114
      go_wp2_with fail
      go_ret
      exact ⟨none, 0, by rw [wds_zero]; rfl, .inl ⟨rfl, rfl, rfl⟩, Below.refl _ _, Nat.le_refl _⟩
    · subst hM
      rw [wds_zero] at hd ⊢
      have HS := Lib.hid (setNew_walk A c N w hc hcm (by omega) hx.rd)
      have hmb : (((wds N).length : Int) == 0) = false := beq_eq_false_iff_ne.2 (by omega)
      have hmi : ¬ ((wds N).length : Int) < 0 := by omega
      clear hx hy hvx hvy hwx hwy hxn hyn hn0 hm0
      go_enter Tryz.func114, Tryz.ntmps114
      go_wp2_with fail
      refine HS.out.mono ?_
      rintro e w1 ⟨A1, c1, rfl, hp⟩
      go_wp2_with fail
      go_ret
      exact ⟨A1, c1, by first | rfl | simp, hp⟩
  · obtain ⟨xs, hxs⟩ : ∃ xs, wds N = xs := ⟨_, rfl⟩
    obtain ⟨ys, hys⟩ : ∃ ys, wds M = ys := ⟨_, rfl⟩
    rw [hxs] at hx hc hl hle hvx hwx hxn ⊢
    rw [hys] at hy hd hle hvy hwy hyn hn0 ⊢
    rcases hx with hx | ⟨gx, zx, rx, rfl, hrx, hzx⟩
    · rw [hx] at hle; simp at hle; exact absurd (by rw [hle]; rfl) hn0
    rcases hy with hy | ⟨gy, zy, ry, rfl, hry, hzy⟩
    · rw [hy] at hn0; exact absurd rfl hn0
    obtain ⟨n, hn⟩ : ∃ n, ys.length = n := ⟨_, rfl⟩
    obtain ⟨m, hm⟩ : ∃ m, xs.length = m := ⟨_, rfl⟩
    rw [hn] at hle hd hn0 ⊢
    rw [hm] at hle hc hl ⊢
    have HM := Lib.hid (make_new_walk none 0 0 (m) w (by omega) (by omega) (Nat.le_refl _))
    have hroom : m ≤ roomFor (m) ∧ roomFor (m) ≤ m + 4 := by unfold roomFor; split <;> omega
    have hrow := row_made w .u64 (roomFor (m)) 106
    obtain ⟨R, hR⟩ : ∃ R, roomFor (m) = R := ⟨_, rfl⟩
    rw [hR] at HM hroom hrow
    have hgx : gx < w.heap.size := hrx.lt
    have hgy : gy < w.heap.size := hry.lt
    have hrx1 := hrx.alloc (.cells (madeCells #[.int .u64 0] R) 106)
    have hry1 := hry.alloc (.cells (madeCells #[.int .u64 0] R) 106)
    have hb1 := below_a1 w (.cells (madeCells #[.int .u64 0] R) 106)
    have hs1 := heap_size_alloc w (.cells (madeCells #[.int .u64 0] R) 106)
    obtain ⟨w1, hw1⟩ : ∃ w1, w.alloc (.cells (madeCells #[.int .u64 0] R) 106) = w1 := ⟨_, rfl⟩
    rw [hw1] at HM hrow hrx1 hry1 hb1 hs1
    have htl : (xs.take n).length = n := by rw [List.length_take, hm]; omega
    have hdl : (xs.drop n).length = m - n := by rw [List.length_drop, hm]
    have hzl : (List.replicate R 0).length = R := List.length_replicate
    have hrdx : Rd w1.drew (some ⟨gx, 0, none⟩) (nums .u64 (xs.take n)) := by
      have h1 := (hrx1.rd 0).take n
      rw [List.drop_zero, hzx, List.take_append_of_le_length (by omega)] at h1
      exact h1
    have hrdy : Rd w1.drew (some ⟨gy, 0, none⟩) (nums .u64 ys) := by
      have h1 := (hry1.rd 0).take ys.length
      rw [List.drop_zero, hzy, List.take_left] at h1
      exact h1
    have hAV := subVV_walk w.heap.size 0 (List.replicate R 0) (xs.take n) ys (some ⟨gx, 0, none⟩) (some ⟨gy, 0, none⟩) R c d w1.drew (hrow.drew 1) (.inr ⟨hrdx, fun a ha => by cases ha; exact Nat.ne_of_lt hgx⟩) (.inr ⟨hrdy, fun a ha => by cases ha; exact Nat.ne_of_lt hgy⟩)
      (by rw [htl, hn]) (by rw [htl, hzl]; omega) (fun d hd => hwx d (List.mem_of_mem_take hd)) hwy (by rw [htl]; omega) (by decide)
    unfold VvPost at hAV
    rw [htl] at hAV
    have HAV := Lib.hid hAV
    have HRX := Lib.hid hrx1
    have HZX := Lib.hid hzx
    have HN := Lib.hid hn
    have HMM := Lib.hid hm
    have HZL := Lib.hid hzl
    have HDL := Lib.hid hdl
    have HWX := Lib.hid hwx
    have HVX := Lib.hid hvx
    have HVY := Lib.hid hvy
    have HB1 := Lib.hid hb1
    have HS1 := Lib.hid hs1
    have HX := Lib.hid hxs
    have hmb : ((m : Int) == 0) = false := beq_eq_false_iff_ne.2 (by omega)
    have hnb : ((n : Int) == 0) = false := beq_eq_false_iff_ne.2 (by omega)
    have hmn : ¬ (m : Int) < n := by omega
    have hi0 : (0 : Int) ≤ n := by omega
    have hi1 : (n : Int) ≤ R := by omega
    have hi2 : (n : Int) ≤ c := by omega
    have hi3 : (n : Int) ≤ d := by omega
    have hi4 : (m : Int) ≤ R := by omega
    have hi5 : (m : Int) ≤ c := by omega
    have hi6 : (n : Int) ≤ m := by omega

    clear hAV hrx1 hry1 hzx hzy hn hm hzl hdl hwx hwy hvx hvy hb1 hs1 hxs hys hrx hry hrow htl hrdx hrdy hR hw1 hxn hyn
    go_enter Tryz.func114, Tryz.ntmps114
    go_wp2_with fail
    refine HM.out.mono ?_
    rintro e w9 ⟨rfl, hw9⟩
    obtain rfl : w1 = w9 := hw9.symm
    clear hw9
    go_wp2_with fail
    go_still_tail 9, (by kernel_rfl)
    change wpList _ _ _ _ _ _
    go_wp2_with fail
    refine HAV.out.mono ?_
    rintro e w2 ⟨c1, o1, rfl, hc1, hol1, how1, hrow2, hx2, hs2, hv2⟩
    have HR2 := Lib.hid hrow2
    have HO1 := Lib.hid hol1
    have HW1 := Lib.hid how1
    have HV2 := Lib.hid hv2
    have HX2 := Lib.hid hx2
    clear hrow2 hol1 how1 hv2 hx2
    by_cases hgt : n < m
    · have hgti : (n : Int) < m := by omega
      have hne1 : ¬ n = R := by omega
      have hne2 : ¬ R = n := by omega
      have hne3 : ¬ n = c := by omega
      have hne4 : ¬ c = n := by omega
      have hAW := subVW_walk w.heap.size n (over (List.replicate R 0) 0 o1) (xs.drop n) gx n zx (R - n) (c - n) c1 w2.drew (HR2.out.drew 1) (((HRX.out.drew 1).ext2 HX2.out (Nat.ne_of_lt hgx)).drew 1) ⟨rx, by rw [HZX.out, List.drop_append_of_le_length (by have := HMM.out; omega)]⟩ (Nat.ne_of_lt hgx)
        (by rw [HDL.out, over_length (by rw [HZL.out, HO1.out]; omega), HZL.out]; omega) (by rw [HDL.out]; omega) (by rw [HDL.out]; omega) (by omega) (by omega) (by rw [HDL.out]; omega) (by omega) (fun d hd => HWX.out d (List.mem_of_mem_drop hd)) (by rw [HDL.out]; omega) (by omega)
      unfold VwPost at hAW
      rw [HDL.out] at hAW
      have HAW := Lib.hid hAW
      clear hAW
      go_wp2_with fail
      go_still_tail 7, (by kernel_rfl)
      change wpList _ _ _ _ _ _
      go_wp2_with fail
      refine HAW.out.mono ?_
      rintro e w3 ⟨c2, o2, rfl, hc2, hol2, how2, hrow3, hx3, hs3, hv3⟩
      have hov := over_over (List.replicate R 0) o1 o2 0 (by rw [HZL.out, HO1.out]; omega)
      rw [Nat.zero_add, HO1.out] at hov
      rw [hov] at hrow3
      have hlen : (o1 ++ o2).length = m := by rw [List.length_append, HO1.out, hol2]; omega
      have hval := sub_join (xs := xs) (ys := ys) (m := m) HO1.out (by omega) HMM.out HV2.out hv3
      rw [HVX.out, HVY.out] at hval
      have hdig : ∀ d ∈ o1 ++ o2, d < 18446744073709551616 := fun d hd => by
        rcases List.mem_append.1 hd with h | h
        · exact HW1.out d h
        · exact how2 d h
      have hbw : Below w.heap.size w w3 := HB1.out.trans ((((Ext.refl _ w1).drewN 1).trans HX2.out).trans (((Ext.refl _ w2).drewN 1).trans hx3) |>.below (by have := HS1.out; omega) (fun k hk => by omega))
      have hsz : w3.heap.size = w.heap.size + 1 := hs3.trans (hs2.trans HS1.out)
      obtain ⟨outs, hout⟩ : ∃ outs, o1 ++ o2 = outs := ⟨_, rfl⟩
      rw [hout] at hrow3 hlen hval hdig
      clear hx3 hs3 hv3 hol2 how2 hov hout hne1 hne2 hne3 hne4
      have hc20 : c2 = 0 := by
        have h1 := valD_lt (b := 18446744073709551616) (by decide) hdig
        rw [hlen] at h1
        refine Nat.eq_zero_of_not_pos fun hp => ?_
        have h2 := Nat.mul_le_mul_left (18446744073709551616 ^ m) hp
        omega
      subst hc20
      have hvv : valD 18446744073709551616 outs = N - M := by omega
      obtain ⟨hown, htr, hrd⟩ := own_trim hrow3 hdig (by rw [hlen, HZL.out]; omega) (by rw [HZL.out]; omega) (Nat.le_refl _) hvv
      rw [HZL.out] at hown
      have hNW := norm_walk (some ⟨w.heap.size, 0, none⟩) R outs _ (by omega) (by omega) hrd
      rw [htr, hlen] at hNW
      have HNW := Lib.hid hNW
      have HOWN := Lib.hid hown
      have HBW := Lib.hid hbw
      have HSZ := Lib.hid hsz
      clear hNW hown hbw hsz hvv htr hrd hval hdig hlen hrow3
      go_wp2_with fail
      refine HNW.out.mono ?_
      rintro e w5 ⟨rfl, rfl⟩
      go_wp2_with fail
      go_ret
      exact ⟨_, R, rfl, HOWN.out, HBW.out, by have := HSZ.out; omega⟩
    · have hgti : ¬ (n : Int) < m := by omega
      obtain rfl : m = n := by omega
      obtain ⟨c2, hcc⟩ : ∃ c2, c1 = c2 := ⟨_, rfl⟩
      obtain ⟨outs, hout⟩ : ∃ outs, o1 = outs := ⟨_, rfl⟩
      obtain ⟨w3, hw3⟩ : ∃ w3, w2 = w3 := ⟨_, rfl⟩
      subst hcc hout hw3
      have hc2 := hc1
      have hrow3 := HR2.out
      have hlen := HO1.out
      have hdig := HW1.out
      have hval : _ + _ = _ + _ := HV2.out
      rw [List.take_of_length_le (by have := HMM.out; omega), HVX.out, HVY.out] at hval
      have hbw : Below w.heap.size w w2 := HB1.out.trans (((Ext.refl _ w1).drewN 1).trans HX2.out |>.below (by have := HS1.out; omega) (fun k hk => by omega))
      have hsz : w2.heap.size = w.heap.size + 1 := hs2.trans HS1.out
      have hc20 : c1 = 0 := by
        have h1 := valD_lt (b := 18446744073709551616) (by decide) hdig
        rw [hlen] at h1
        refine Nat.eq_zero_of_not_pos fun hp => ?_
        have h2 := Nat.mul_le_mul_left (18446744073709551616 ^ m) hp
        omega
      subst hc20
      have hvv : valD 18446744073709551616 o1 = N - M := by omega
      obtain ⟨hown, htr, hrd⟩ := own_trim hrow3 hdig (by rw [hlen, HZL.out]; omega) (by rw [HZL.out]; omega) (Nat.le_refl _) hvv
      rw [HZL.out] at hown
      have hNW := norm_walk (some ⟨w.heap.size, 0, none⟩) R o1 _ (by omega) (by omega) hrd
      rw [htr, hlen] at hNW
      have HNW := Lib.hid hNW
      have HOWN := Lib.hid hown
      have HBW := Lib.hid hbw
      have HSZ := Lib.hid hsz
      clear hNW hown hbw hsz hvv htr hrd hval hdig hlen hrow3
      go_wp2_with fail
      refine HNW.out.mono ?_
      rintro e w5 ⟨rfl, rfl⟩
      go_wp2_with fail
      go_ret
      exact ⟨_, R, rfl, HOWN.out, HBW.out, by have := HSZ.out; omega⟩

set_option maxRecDepth 100000 in
set_option maxHeartbeats 1000000 in
theorem natAdd_walk (N M : Nat) (A B : Option Addr) (c d : Nat) (w : World) (hc : (wds N).length ≤ c) (hcm : c ≤ 9223372036854775807) (hd : (wds M).length ≤ d) (hdm : d ≤ 9223372036854775807) (hl : (wds N).length ≤ 80000) (hl2 : (wds M).length ≤ 80000)
    (hx : Wd w A (wds N)) (hy : Wd w B (wds M)) :
    Calls Tryz.prog 112 #[.slice none 0 0, .slice A (wds N).length c, .slice B (wds M).length d] w (OwnPost w.heap.size w (N + M)) := by
  by_cases h : (wds M).length ≤ (wds N).length
  · exact natAddGe_walk N M A B c d w hc hcm hd hdm hl hx hy h
  · have HG := Lib.hid (natAddGe_walk M N B A d c w hd hdm hc hcm hl2 hy hx (by omega))
    have hlt : ((wds N).length : Int) < (wds M).length := by omega
    rw [Nat.add_comm N M]
    clear hx hy
    go_enter Tryz.func112, Tryz.ntmps112
    go_wp2_with fail
    refine HG.out.mono ?_
    rintro e w1 ⟨A1, c1, rfl, hp⟩
    go_wp2_with fail
    go_ret
    exact ⟨A1, c1, rfl, hp⟩
end Go.Proofs.YtapfolgiafnllaaGreatDoor
