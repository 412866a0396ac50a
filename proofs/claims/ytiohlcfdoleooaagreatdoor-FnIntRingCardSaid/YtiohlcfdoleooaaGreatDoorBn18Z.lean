/-
  math/big's mulAddWW, mul with a new number.
-/
import Derived.Test.YtiohlcfdoleooaaGreatDoorBn01Z
import Derived.Test.YtiohlcfdoleooaaGreatDoorBn23Z
import Derived.Test.YtiohlcfdoleooaaGreatDoorDiv2Z
import Derived.Test.YtiohlcfdoleooaaGreatDoorBn20Z
namespace Go.Proofs.YtiohlcfdoleooaaGreatDoor
open Go.RowKit

/-- karatsubaThreshold is 40. -/
def KaraIs (w : World) : Prop := w.cell? ⟨5, 0, none⟩ = some (.int .i64 40)
theorem KaraIs.lt {w : World} (h : KaraIs w) : 5 < w.heap.size := World.block_lt_of_cell? w _ h
theorem KaraIs.below {w w' : World} (h : KaraIs w) (hb : Below w.heap.size w w') : KaraIs w' := (hb.cell (by exact h.lt)).trans h
theorem rd_far {w : World} {A : Option Addr} {xs : List Nat} (h : Rd w A (nums .u64 xs)) (hn : xs ≠ []) : ∀ a, A = some a → a.block ≠ w.heap.size := by
  intro a ha
  obtain ⟨b, hb, hlt⟩ := Rd.lt h (by intro e; exact hn (by simpa [nums] using e))
  rw [ha] at hb
  cases hb
  exact Nat.ne_of_lt hlt

theorem rd_heap {w w2 : World} {A : Option Addr} {vs : List Value} (h : Rd w A vs) (hh : w2.heap = w.heap) : Rd w2 A vs := by
  rcases h with h | ⟨a, ha, h⟩
  · exact .inl h
  · exact .inr ⟨a, ha, fun j u hu => (by simp only [World.cell?, hh] : w2.cell? (a.add j) = w.cell? (a.add j)).trans (h j u hu)⟩

set_option maxRecDepth 100000 in
set_option maxHeartbeats 1000000 in
/-- A number without words shares none. -/
theorem aliasNil_walk (A : Option Addr) (n c : Nat) (w : World) :
    Calls Tryz.prog 209 #[.slice none 0 0, .slice A n c] w fun e w' => e = .returned (.bool false) ∧ Drawn w w' := by
  go_enter Tryz.func209, Tryz.ntmps209
  go_wp2_with fail
  go_quiet (fail)
  go_wp2_with fail
  go_ret
  exact ⟨rfl, _, rfl⟩

set_option maxRecDepth 100000 in
set_option maxHeartbeats 2000000 in
/-- mulAddWW(x, y, 0) into a new number. -/
theorem mulAddWWnew_walk (N y : Nat) (A : Option Addr) (c : Nat) (w : World) (_hc : (wds N).length ≤ c) (_hcm : c ≤ 9223372036854775807) (hr : Rd w A (nums .u64 (wds N))) (hl : (wds N).length ≤ 80000) (hN : N ≠ 0) (hy0 : y ≠ 0) (hy : y < 18446744073709551616) :
    Calls Tryz.prog 233 #[.slice none 0 0, .slice A (wds N).length c, .int .u64 y, .int .u64 0] w (OwnPost w.heap.size w (N * y)) := by
  have hm0 : (wds N).length ≠ 0 := fun h1 => hN ((toD_nil_iff (by decide)).1 (List.length_eq_zero_iff.1 h1))
  have hval := wds_val N
  have hwl := wds_lt N
  obtain ⟨xs, hxs⟩ : ∃ xs, wds N = xs := ⟨_, rfl⟩
  rw [hxs] at hm0 hl _hc hr hval hwl ⊢
  have hfar := rd_far hr (by intro e; rw [e] at hm0; exact hm0 rfl)
  have hM := make_new_walk none 0 0 (xs.length + 1) w (by omega) (by omega) (Nat.le_refl _)
  have hroom : xs.length + 1 ≤ roomFor (xs.length + 1) ∧ roomFor (xs.length + 1) ≤ xs.length + 1 + 4 := by unfold roomFor; split <;> omega
  obtain ⟨R, hR⟩ : ∃ R, roomFor (xs.length + 1) = R := ⟨_, rfl⟩
  rw [hR] at hM hroom
  have hi1 : ((xs.length + 1 : Nat) : Int) = (xs.length : Int) + 1 := by omega
  rw [hi1] at hM
  have hrow := row_made w .u64 R 150
  have hr1 := hr.below (below_a1 w (.cells (madeCells #[.int .u64 0] R) 150))
  have hb1 := below_a1 w (.cells (madeCells #[.int .u64 0] R) 150)
  have hs1 := heap_size_alloc w (.cells (madeCells #[.int .u64 0] R) 150)
  obtain ⟨w1, hw1⟩ : ∃ w1, w.alloc (.cells (madeCells #[.int .u64 0] R) 150) = w1 := ⟨_, rfl⟩
  rw [hw1] at hM hrow hr1 hb1 hs1
  have hzl : (List.replicate R 0).length = R := List.length_replicate
  have hAV := mulAddVWW_walk w.heap.size 0 (List.replicate R 0) xs A R c y 0 w1 hrow (.inr ⟨hr1, hfar⟩) (by rw [hzl]; omega) hwl hy (by decide) (by omega) (by decide)
  have HM := Lib.hid hM
  have HAV := Lib.hid hAV
  have HZL := Lib.hid hzl
  have HV := Lib.hid hval
  have HB1 := Lib.hid hb1
  have HS1 := Lib.hid hs1
  have hml : ((xs.length : Int) == 0) = false := beq_eq_false_iff_ne.2 (by omega)
  have hyb : ((y : Int) == 0) = false := beq_eq_false_iff_ne.2 (by omega)
  have hi2 : (xs.length : Int) ≤ R := by omega
  have hi3 : (0 : Int) ≤ xs.length := by omega
  have hi4 : (xs.length : Int) < (xs.length : Int) + 1 := by omega
  clear hM hrow hr hr1 hb1 hs1 hfar hzl hval hwl hw1 hR hi1 hxs hAV
  go_enter Tryz.func233, Tryz.ntmps233
  go_wp2_with fail
  refine HM.out.mono ?_
  rintro e w9 ⟨rfl, hw9⟩
  obtain rfl : w1 = w9 := hw9.symm
  clear hw9
  go_wp2_with fail
  refine HAV.out.mono ?_
  rintro e w2 ⟨cr, outs, rfl, hcr, hol, how, hrow2, hx2, hsz2, hv2⟩
  have hlen2 : (over (List.replicate R 0) 0 outs).length = R := (over_length (by rw [HZL.out]; omega)).trans HZL.out
  obtain ⟨old, c2⟩ : ∃ old : Nat, w2.cell? ⟨w.heap.size, xs.length, none⟩ = some (.int .u64 old) := ⟨_, hrow2.cell (j := xs.length) (by omega)⟩
  have f2 := hrow2.free xs.length
  have HR2 := Lib.hid hrow2
  have HV2 := Lib.hid hv2
  have HO := Lib.hid how
  have HOL := Lib.hid hol
  have HX2 := Lib.hid hx2
  have HSZ2 := Lib.hid hsz2
  clear hrow2 hv2 how hol hx2 hsz2 hlen2
  go_wp2_with fail
  have hset := over_set (zs := List.replicate R 0) (outs := outs) (o := 0) (v := cr) (by rw [HOL.out, HZL.out]; omega)
  rw [Nat.zero_add, HOL.out] at hset
  have hst : Row (w2.setCell ⟨w.heap.size, xs.length, none⟩ (.int .u64 (cr : Int))) w.heap.size .u64 150 (over (List.replicate R 0) 0 (outs ++ [cr])) := by rw [← hset]; exact HR2.out.set _ _
  have hvv : valD 18446744073709551616 (outs ++ [cr]) = N * y := by
    rw [valD_append, HOL.out]
    have e1 : valD 18446744073709551616 [cr] = cr := by simp [valD]
    rw [e1]
    have := HV2.out
    rw [HV.out, Nat.add_zero] at this
    exact this
  have hl3 : (outs ++ [cr]).length = xs.length + 1 := by rw [List.length_append, HOL.out]; rfl
  obtain ⟨hown, htr, hrd⟩ := own_trim hst (fun d hd => by
    rcases List.mem_append.1 hd with h | h
    · exact HO.out d h
    · simp at h; omega) (by rw [hl3, HZL.out]; omega) (by rw [HZL.out]; omega) (Nat.le_refl _) hvv
  rw [HZL.out] at hown
  have hNW := norm_walk (some ⟨w.heap.size, 0, none⟩) R (outs ++ [cr]) _ (by rw [hl3]; omega) (by omega) hrd
  rw [htr, hl3] at hNW
  have HNW := Lib.hid hNW
  have HOWN := Lib.hid hown
  have hbw : Below w.heap.size w w2 := HB1.out.trans (HX2.out.below (by have := HS1.out; omega) (fun k hk => by omega))
  have HBW := Lib.hid hbw
  clear hNW hown hbw hst hvv hl3 htr hrd hset
  refine HNW.out.mono ?_
  rintro e w5 ⟨rfl, rfl⟩
  go_wp2_with fail
  go_ret
  exact ⟨_, R, rfl, HOWN.out, HBW.out.setCell (p := ⟨w.heap.size, xs.length, none⟩) (Nat.le_refl _) _, by have h1 := HSZ2.out; have h2 := HS1.out; simp [World.setCell]; omega⟩

set_option maxRecDepth 100000 in
set_option maxHeartbeats 4000000 in
/-- mul of two numbers of more than one word each. -/
theorem natMulBig_walk (N M : Nat) (A B : Option Addr) (c d : Nat) (w : World) (_hc : (wds N).length ≤ c) (_hcm : c ≤ 9223372036854775807) (_hd : (wds M).length ≤ d) (_hdm : d ≤ 9223372036854775807) (hr : Rd w A (nums .u64 (wds N))) (hs : Rd w B (nums .u64 (wds M))) (hk : KaraIs w)
    (hge : (wds M).length ≤ (wds N).length) (hl : (wds N).length ≤ 10000) (h2 : 2 ≤ (wds M).length) (h40 : (wds M).length < 40) (stk : Value) :
    Calls Tryz.prog 207 #[.slice none 0 0, stk, .slice A (wds N).length c, .slice B (wds M).length d] w (OwnPost w.heap.size w (N * M)) := by
  have hvx := wds_val N
  have hvy := wds_val M
  have hwx := wds_lt N
  have hwy := wds_lt M
  obtain ⟨xs, hxs⟩ : ∃ xs, wds N = xs := ⟨_, rfl⟩
  obtain ⟨ys, hys⟩ : ∃ ys, wds M = ys := ⟨_, rfl⟩
  rw [hxs] at _hc hr hge hl hvx hwx ⊢
  rw [hys] at _hd hs hge h2 h40 hvy hwy ⊢
  have hfx := rd_far hr (by intro e; rw [e, List.length_nil] at hge; omega)
  have hfy := rd_far hs (by intro e; rw [e] at h2; simp at h2)
  obtain ⟨m, hm⟩ : ∃ m, xs.length = m := ⟨_, rfl⟩
  obtain ⟨n, hn⟩ : ∃ n, ys.length = n := ⟨_, rfl⟩
  rw [hm] at hge hl _hc ⊢
  rw [hn] at hge h2 h40 _hd ⊢
  have HRD := Lib.hid hr
  have HSD := Lib.hid hs
  have HK := Lib.hid hk
  have HXL := Lib.hid hm
  have HYL := Lib.hid hn
  have HV := Lib.hid hvx
  have HV2 := Lib.hid hvy
  have HFX := Lib.hid hfx
  have HFY := Lib.hid hfy
  have HWX := Lib.hid hwx
  have HWY := Lib.hid hwy
  have hmn : ¬ (m : Int) < n := by omega
  have hm0 : ((m : Int) == 0) = false := beq_eq_false_iff_ne.2 (by omega)
  have hn0 : ((n : Int) == 0) = false := beq_eq_false_iff_ne.2 (by omega)
  have hn1 : ((n : Int) == 1) = false := beq_eq_false_iff_ne.2 (by omega)
  have hn40 : (n : Int) < 40 := by omega
  clear hr hs hk hm hn hvx hvy hfx hfy hwx hwy hxs hys
  go_enter Tryz.func207, Tryz.ntmps207
  go_wp2_with fail
  refine (aliasNil_walk A m c _).mono ?_
  rintro e w8 ⟨rfl, n1, rfl⟩
  go_wp2_with fail
  refine (aliasNil_walk B n d _).mono ?_
  rintro e w7 ⟨rfl, n2, rfl⟩
  obtain ⟨w0, hw0⟩ : ∃ w0, (w.drewN n1).drewN n2 = w0 := ⟨_, rfl⟩
  have hh : w0.heap = w.heap := by rw [← hw0]; rfl
  have hb0 : Below w.heap.size w w0 := by rw [← hw0]; exact below_drewN (below_drewN (Below.refl _ _) _) _
  have hr := rd_heap HRD.out hh
  have hs := rd_heap HSD.out hh
  have hk : KaraIs w0 := hb0.cell (p := ⟨5, 0, none⟩) (by exact HK.out.lt) |>.trans HK.out
  have hfx : ∀ a, A = some a → a.block ≠ w0.heap.size := by rw [hh]; exact HFX.out
  have hfy : ∀ a, B = some a → a.block ≠ w0.heap.size := by rw [hh]; exact HFY.out
  have hM := make_new_walk none 0 0 (m + n) w0 (by omega) (by omega) (Nat.le_refl _)
  have hroom : m + n ≤ roomFor (m + n) ∧ roomFor (m + n) ≤ m + n + 4 := by unfold roomFor; split <;> omega
  obtain ⟨R, hR⟩ : ∃ R, roomFor (m + n) = R := ⟨_, rfl⟩
  rw [hR] at hM hroom
  have hi1 : ((m + n : Nat) : Int) = (m : Int) + n := by omega
  rw [hi1] at hM
  have hrow := row_made w0 .u64 R 150
  have hr1 := hr.below (below_a1 w0 (.cells (madeCells #[.int .u64 0] R) 150))
  have hs1 := hs.below (below_a1 w0 (.cells (madeCells #[.int .u64 0] R) 150))
  have hk1 := hk.below (below_a1 w0 (.cells (madeCells #[.int .u64 0] R) 150))
  have hb1 := below_a1 w0 (.cells (madeCells #[.int .u64 0] R) 150)
  have hz1 := heap_size_alloc w0 (.cells (madeCells #[.int .u64 0] R) 150)
  obtain ⟨w1, hw1⟩ : ∃ w1, w0.alloc (.cells (madeCells #[.int .u64 0] R) 150) = w1 := ⟨_, rfl⟩
  rw [hw1] at hM hrow hr1 hs1 hk1 hb1 hz1
  rw [hh] at hM hrow hfx hfy hb1 hz1
  have hzl : (List.replicate R 0).length = R := List.length_replicate
  have hBM := basicMul_walk w.heap.size (List.replicate R 0) xs ys A B R c d w1 hrow (fun d hd => by rw [List.eq_of_mem_replicate hd]; decide) hr1 hfx hs1 hfy HWX.out HWY.out (by rw [hzl, HXL.out, HYL.out]; omega) (by rw [hzl]; omega) (by rw [HXL.out, HYL.out]; omega) (by omega) (by rw [HXL.out]; omega)
  rw [HXL.out, HYL.out, hzl] at hBM
  have HM := Lib.hid hM
  have HBM := Lib.hid hBM
  have HB1 := Lib.hid (hb0.trans hb1)
  have HZ1 := Lib.hid hz1
  have hk1 : w1.cell? ⟨5, 0, none⟩ = some (.int .i64 40) := hk1
  rw [hw0]
  clear hM hBM hrow hr hs hr1 hs1 hb1 hb0 hz1 hfx hfy hzl hw1 hw0 hh hR hi1 hk
  go_wp2_with fail
  refine HM.out.mono ?_
  rintro e w9 ⟨rfl, hw9⟩
  obtain rfl : w1 = w9 := hw9.symm
  clear hw9
  go_wp2_with fail
  refine HBM.out.mono ?_
  rintro e w2 ⟨rfl, T, hrow2, hTl, hTw, hv2, hx2, hs2⟩
  have hl3 : (T.take (m + n)).length = m + n := by rw [List.length_take]; omega
  have hov : over T 0 (T.take (m + n)) = T := by
    unfold over
    rw [Nat.zero_add, hl3, List.take_zero, List.nil_append, List.take_append_drop]
  rw [HXL.out, HYL.out, HV.out, HV2.out] at hv2
  obtain ⟨hown, htr, hrd⟩ := own_trim (zs := T) (outs := T.take (m + n)) (B := w.heap.size) (S := N * M) (by rw [hov]; exact hrow2) (fun d hd => hTw d (List.mem_of_mem_take hd)) (by rw [hl3]; omega) (by omega) (Nat.le_refl _) hv2
  rw [hTl] at hown
  have hNW := norm_walk (some ⟨w.heap.size, 0, none⟩) R (T.take (m + n)) w2 (by omega) (by omega) hrd
  rw [htr, hl3] at hNW
  have HNW := Lib.hid hNW
  have HOWN := Lib.hid hown
  have hbw : Below w.heap.size w w2 := HB1.out.trans (hx2.below (by have := HZ1.out; omega) (fun k hk => by omega))
  have HBW := Lib.hid hbw
  have hsz : w.heap.size ≤ w2.heap.size := by have := HZ1.out; omega
  have HSZ := Lib.hid hsz
  clear hNW hown hbw hrow2 hTw hx2 hs2 hv2 htr hrd hl3 hov hTl hsz
  go_wp2_with fail
  refine HNW.out.mono ?_
  rintro e w5 ⟨rfl, rfl⟩
  go_wp2_with fail
  go_ret
  exact ⟨_, R, rfl, HOWN.out, HBW.out, HSZ.out⟩

set_option maxRecDepth 100000 in
set_option maxHeartbeats 2000000 in
theorem natMulGe_walk (N M : Nat) (A B : Option Addr) (c d : Nat) (w : World) (hc : (wds N).length ≤ c) (hcm : c ≤ 9223372036854775807) (hd : (wds M).length ≤ d) (hdm : d ≤ 9223372036854775807) (hr : Rd w A (nums .u64 (wds N))) (hs : Rd w B (nums .u64 (wds M))) (hk : KaraIs w)
    (hge : (wds M).length ≤ (wds N).length) (hl : (wds N).length < 40) (stk : Value) :
    Calls Tryz.prog 207 #[.slice none 0 0, stk, .slice A (wds N).length c, .slice B (wds M).length d] w (OwnPost w.heap.size w (N * M)) := by
  by_cases h2 : 2 ≤ (wds M).length
  · exact natMulBig_walk N M A B c d w hc hcm hd hdm hr hs hk hge (by omega) h2 (by omega) stk
  · by_cases h0 : (wds M).length = 0
    · have hM : M = 0 := (toD_nil_iff (b := 18446744073709551616) (by decide)).1 (List.length_eq_zero_iff.1 h0)
      subst hM
      rw [Nat.mul_zero, wds_zero]
      rw [wds_zero] at hd hge
      have hmn : ¬ ((wds N).length : Int) < 0 := by omega
      by_cases hm0 : (wds N).length = 0
      · rw [hm0]
        clear hr hs hk hc hl hge h0 h2 hm0 hmn
        go_enter Tryz.func207, Tryz.ntmps207
        go_wp2_with fail
        go_ret
        exact ⟨none, 0, by rw [wds_zero]; rfl, .inl ⟨rfl, rfl, rfl⟩, Below.refl _ _, Nat.le_refl _⟩
      · have hmb : (((wds N).length : Int) == 0) = false := beq_eq_false_iff_ne.2 (by omega)
        clear hr hs hk hc hl hge h0 h2 hm0
        go_enter Tryz.func207, Tryz.ntmps207
        go_wp2_with fail
        go_ret
        exact ⟨none, 0, by rw [wds_zero]; rfl, .inl ⟨rfl, rfl, rfl⟩, Below.refl _ _, Nat.le_refl _⟩
    · have h1 : (wds M).length = 1 := by omega
      have hge1 : 1 ≤ (wds N).length := by omega
      have hM0 : M ≠ 0 := by intro e; rw [e, wds_zero] at h0; exact h0 rfl
      obtain ⟨y, hy⟩ := List.length_eq_one_iff.1 h1
      have hv := wds_val M
      have hw := wds_lt M
      rw [hy] at hv hw hs
      have e1 : valD 18446744073709551616 [y] = y := by simp [valD]
      rw [e1] at hv
      subst hv
      have hyw : y < 18446744073709551616 := hw y (by simp)
      obtain ⟨a, rfl, ha⟩ := rd_cell hs (j := 0) (by simp)
      have e0 : a.add 0 = a := by unfold Addr.add; rw [if_pos rfl]
      rw [e0] at ha
      have hN0 : N ≠ 0 := by intro e; rw [e, wds_zero, List.length_nil] at hge1; omega
      have HW := Lib.hid (mulAddWWnew_walk N y A c w hc hcm hr (by omega) hN0 hM0 hyw)
      have hmb : (((wds N).length : Int) == 0) = false := beq_eq_false_iff_ne.2 (by omega)
      have hmn : ¬ ((wds N).length : Int) < 1 := by have := h1; omega
      have ha2 : w.cell? a = some (.int .u64 (y : Int)) := ha
      have hd1 : (1 : Int) ≤ d := by omega
      rw [h1]
      clear hr hs hk hl hge h0 h2 hy e1 e0 ha h1 hw
      go_enter Tryz.func207, Tryz.ntmps207
      go_wp2_with fail
      refine HW.out.mono ?_
      rintro e w1 ⟨A1, c1, rfl, hp⟩
      go_wp2_with fail
      go_ret
      exact ⟨A1, c1, rfl, hp⟩

set_option maxRecDepth 100000 in
set_option maxHeartbeats 2000000 in
theorem natMul_walk (N M : Nat) (A B : Option Addr) (c d : Nat) (w : World) (hc : (wds N).length ≤ c) (hcm : c ≤ 9223372036854775807) (hd : (wds M).length ≤ d) (hdm : d ≤ 9223372036854775807) (hr : Rd w A (nums .u64 (wds N))) (hs : Rd w B (nums .u64 (wds M))) (hk : KaraIs w)
    (hl : (wds N).length < 40) (hl2 : (wds M).length < 40) (stk : Value) :
    Calls Tryz.prog 207 #[.slice none 0 0, stk, .slice A (wds N).length c, .slice B (wds M).length d] w (OwnPost w.heap.size w (N * M)) := by
  by_cases h : (wds M).length ≤ (wds N).length
  · exact natMulGe_walk N M A B c d w hc hcm hd hdm hr hs hk h hl stk
  · have HG := Lib.hid (natMulGe_walk M N B A d c w hd hdm hc hcm hs hr hk (by omega) hl2 stk)
    have hlt : ((wds N).length : Int) < (wds M).length := by omega
    rw [Nat.mul_comm N M]
    clear hr hs hk
    go_enter Tryz.func207, Tryz.ntmps207
    go_wp2_with fail
    refine HG.out.mono ?_
    rintro e w1 ⟨A1, c1, rfl, hp⟩
    go_wp2_with fail
    go_ret
    exact ⟨A1, c1, rfl, hp⟩
end Go.Proofs.YtiohlcfdoleooaaGreatDoor

/-
  math/big's divWVW, divW: a number by one word.
-/
namespace Go.Proofs.YtiohlcfdoleooaaGreatDoor
open Go.RowKit

theorem over_set_pre {zs qs : List Nat} {j v : Nat} (h : j < zs.length) : (over zs (j + 1) qs).set j v = over zs j (v :: qs) := by
  unfold over
  have e : zs.take (j + 1) = zs.take j ++ [zs[j]] := List.take_succ_eq_append_getElem h
  have hl : (zs.take j).length = j := by rw [List.length_take]; omega
  rw [e, List.append_assoc, List.append_assoc, List.set_append_right _ _ (by rw [hl]; exact Nat.le_refl _), hl, Nat.sub_self, List.singleton_append, List.set_cons_zero, List.length_cons, List.append_assoc]
  rw [show j + 1 + qs.length = j + (qs.length + 1) by omega]
  rfl
/-- One digit more of a quotient. -/
theorem div_digit {N d y : Nat} (hy : 0 < y) : (N * 18446744073709551616 + d) / y = (N / y) * 18446744073709551616 + ((N % y) * 18446744073709551616 + d) / y ∧ (N * 18446744073709551616 + d) % y = ((N % y) * 18446744073709551616 + d) % y := by
  have h := Nat.div_add_mod N y
  obtain ⟨q, hq⟩ : ∃ q, N / y = q := ⟨_, rfl⟩
  obtain ⟨r, hr⟩ : ∃ r, N % y = r := ⟨_, rfl⟩
  rw [hq, hr] at h ⊢
  have e : N * 18446744073709551616 + d = (r * 18446744073709551616 + d) + y * (q * 18446744073709551616) := by
    have h2 : (y * q + r) * 18446744073709551616 = N * 18446744073709551616 := by rw [h]
    rw [Nat.add_mul, Nat.mul_assoc] at h2
    omega
  rw [e, Nat.add_mul_div_left _ _ hy, Nat.add_mul_mod_self_left]
  exact ⟨by omega, rfl⟩
theorem valD_drop {xs : List Nat} {j : Nat} (h : j < xs.length) : valD 18446744073709551616 (xs.drop j) = valD 18446744073709551616 (xs.drop (j + 1)) * 18446744073709551616 + xs[j] := by
  rw [List.drop_eq_getElem_cons h]
  simp only [valD]
  omega
/-- divWVW's loop: the words from k on have been divided. -/
def DqRel (w : World) (g : Nat) (zs xs : List Nat) (y : Nat) (rv iv : Value) (wr : World) : Prop :=
  ∃ (k r : Nat) (qs : List Nat), iv = .int .i64 ((k : Int) - 1) ∧ rv = .int .u64 r ∧ k ≤ xs.length ∧ qs.length = xs.length - k ∧ (∀ d ∈ qs, d < 18446744073709551616) ∧ r < y ∧
    Row wr g .u64 150 (over zs k qs) ∧ Ext (fun b => b = g) w wr ∧ wr.heap.size = w.heap.size ∧ r = valD 18446744073709551616 (xs.drop k) % y ∧ valD 18446744073709551616 qs = valD 18446744073709551616 (xs.drop k) / y
def DqPost (w : World) (g : Nat) (zs xs : List Nat) (y : Nat) (e : Ending) (w' : World) : Prop :=
  ∃ (qs : List Nat), e = .returned (.int .u64 ((valD 18446744073709551616 xs % y : Nat) : Int)) ∧ qs.length = xs.length ∧ (∀ d ∈ qs, d < 18446744073709551616) ∧
    Row w' g .u64 150 (over zs 0 qs) ∧ Ext (fun b => b = g) w w' ∧ w'.heap.size = w.heap.size ∧ valD 18446744073709551616 qs = valD 18446744073709551616 xs / y
def idxUp : Value → Nat | .int _ k => (k + 1).toNat | _ => 0

set_option maxRecDepth 100000 in
set_option maxHeartbeats 4000000 in
theorem divWVW_walk (g : Nat) (zs xs : List Nat) (X : Option Addr) (cz cx y : Nat) (w : World) (hrow : Row w g .u64 150 zs) (hx : Rd w X (nums .u64 xs)) (hX : ∀ a, X = some a → a.block ≠ g) (hz : xs.length ≤ zs.length)
    (hxw : ∀ d ∈ xs, d < 18446744073709551616) (hy : y < 18446744073709551616) (hy0 : y ≠ 0) (hl : xs.length ≤ 1000000) (hl0 : xs ≠ []) :
    Calls Tryz.prog 273 #[.slice (some ⟨g, 0, none⟩) xs.length cz, .int .u64 0, .slice X xs.length cx, .int .u64 y] w (DqPost w g zs xs y) := by
  by_cases h1 : xs.length = 1
  · obtain ⟨x, rfl⟩ : ∃ x, xs = [x] := List.length_eq_one_iff.1 h1
    obtain ⟨a, rfl, ha⟩ := rd_cell hx (j := 0) (by simp)
    have e0 : a.add 0 = a := by unfold Addr.add; rw [if_pos rfl]
    rw [e0] at ha
    have hxx : x < 18446744073709551616 := hxw x (by simp)
    have HB := Lib.hid (bitsDiv0_walk x y w hxx hy hy0)
    have hq : x / y < 18446744073709551616 := Nat.lt_of_le_of_lt (Nat.div_le_self _ _) hxx
    have hr : x % y < 18446744073709551616 := by have := Nat.mod_lt x (Nat.pos_of_ne_zero hy0); omega
    have hv : valD 18446744073709551616 [x] = x := by simp [valD]
    unfold DqPost
    rw [hv]
    have HR := Lib.hid hrow
    have hz0 : 0 < zs.length := by have := hz; simp at this; omega
    have hc := hrow.cell hz0
    have hf := hrow.free 0
    obtain ⟨old, hold⟩ : ∃ old, zs[0] = old := ⟨_, rfl⟩
    rw [hold] at hc
    obtain ⟨q, hqe⟩ : ∃ q, x / y = q := ⟨_, rfl⟩
    obtain ⟨r, hre⟩ : ∃ r, x % y = r := ⟨_, rfl⟩
    rw [hqe, hre] at HB
    rw [hqe] at hq ⊢
    rw [hre] at hr ⊢
    have hqi : q ≤ 18446744073709551615 := by omega
    have hri : r ≤ 18446744073709551615 := by omega
    clear hx hX hrow hxw hl hl0 hv hold hqe hre h1
    go_enter Tryz.func273, Tryz.ntmps273
    go_wp2_with fail
    refine HB.out.mono ?_
    rintro e w1 ⟨rfl, nd, rfl⟩
    go_wp2_with fail
    go_ret
    have hrow2 : Row ((w.drewN nd).setCell ⟨g, 0, none⟩ (.int .u64 (q : Int))) g .u64 150 (over zs 0 [q]) := by rw [← over_one hz0]; exact (HR.out.drew nd).set 0 q
    exact ⟨[q], rfl, rfl, by simpa using hq, hrow2, Ext.setCell (D := fun b => b = g) (p := ⟨g, 0, none⟩) ((Ext.refl _ w).drewN nd) (fun _ => rfl) _, by simp [World.setCell, World.drewN], by simp [valD]⟩
  · obtain ⟨m, hm⟩ : ∃ m, xs.length = m := ⟨_, rfl⟩
    have hm0 : m ≠ 0 := by intro h; exact hl0 (List.length_eq_zero_iff.1 (hm.trans h))
    have h1b : ((m : Int) == 1) = false := beq_eq_false_iff_ne.2 (by omega)
    have HRC := Lib.hid (reciprocal_walk y w hy hy0)
    have HX := Lib.hid hx
    have HXB := Lib.hid hX
    have HXW := Lib.hid hxw
    have HR := Lib.hid hrow
    have HM := Lib.hid hm
    have HD := Lib.hid (fun (x1 x0 : Nat) (w : World) (h1 : x1 < y) (h2 : x0 < 18446744073709551616) => divWWg_walk x1 x0 y w h1 h2 hy)
    obtain ⟨rc, hrc⟩ : ∃ rc, recip y = rc := ⟨_, rfl⟩
    rw [hrc] at HRC HD
    have hyp : 0 < y := Nat.pos_of_ne_zero hy0
    rw [hm] at hl hz ⊢
    clear hx hX hxw hrow hl0 h1 hm hrc
    go_enter Tryz.func273, Tryz.ntmps273
    go_wp2_with fail
    refine HRC.out.mono ?_
    rintro e w1 ⟨rfl, nd, rfl⟩
    go_wp2_with fail
    go_loopw [8, 12] (fun rv iv wr => DqRel w g zs xs y rv iv wr) (fun _ iv _ => idxUp iv)
    case atStart =>
      refine ⟨m, 0, [], rfl, rfl, Nat.le_of_eq HM.out.symm, by rw [HM.out, Nat.sub_self]; rfl, by simp, hyp, by rw [over_nil]; exact HR.out.drew nd, (Ext.refl _ w).drewN nd, rfl, ?_, ?_⟩
      · rw [List.drop_of_length_le (Nat.le_of_eq HM.out)]; simp [valD]
      · rw [List.drop_of_length_le (Nat.le_of_eq HM.out)]; simp [valD]
    case round =>
      obtain ⟨k, r, qs, rfl, rfl, hk, hql, hqw, hry, hrow, hx, hsz, hre, hve⟩ := hrel
      have HQL := Lib.hid hql
      have HQW := Lib.hid hqw
      have HROW := Lib.hid hrow
      have HRE := Lib.hid hre
      have HVE := Lib.hid hve
      clear hql hqw hre hve
      match k, hk, hrow, HQL, HROW, HRE, HVE with
      | 0, hk, hrow, HQL, HROW, HRE, HVE =>
        have e1 : ((0 : Nat) : Int) - 1 = -1 := rfl
        rw [e1]
        clear hrow e1
        go_wp2_with fail
        go_ret
        refine ⟨qs, ?_, by rw [HQL.out]; rfl, HQW.out, HROW.out, hx, hsz, by rw [HVE.out]; rfl⟩
        rw [HRE.out]
        rfl
      | j + 1, hk, hrow, HQL, HROW, HRE, HVE =>
        have hjl : j < xs.length := hk
        have hjm : j < m := by have := HM.out; omega
        obtain ⟨a, rfl, ha⟩ := rd_cell (HX.out.ext1 hx HXB.out) hjl
        obtain ⟨x, hxk⟩ : ∃ x, xs[j] = x := ⟨_, rfl⟩
        rw [hxk] at ha
        have hxx : x < 18446744073709551616 := by rw [← hxk]; exact HXW.out _ (List.getElem_mem _)
        have hvd := valD_drop hjl
        rw [hxk] at hvd
        have e1 : ((j + 1 : Nat) : Int) - 1 = (j : Int) := by omega
        have fR := hrow.free j
        have hcR := hrow.cell (j := j) (by rw [over_length (by rw [HQL.out, HM.out]; omega)]; omega)
        obtain ⟨old, hold⟩ : ∃ old, (over zs (j + 1) qs)[j]'(by rw [over_length (by rw [HQL.out, HM.out]; omega)]; omega) = old := ⟨_, rfl⟩
        rw [hold] at hcR
        have hD := HD.out r x wr hry hxx
        have hq1 : (r * 18446744073709551616 + x) / y < 18446744073709551616 := hd_lt hry hxx
        have hr1 := Nat.mod_lt (r * 18446744073709551616 + x) hyp
        obtain ⟨dg1, dg2⟩ := div_digit (N := valD 18446744073709551616 (xs.drop (j + 1))) (d := x) hyp
        rw [← hvd, ← HRE.out, ← HVE.out] at dg1
        rw [← hvd, ← HRE.out] at dg2
        obtain ⟨q1, hq1e⟩ : ∃ q1, (r * 18446744073709551616 + x) / y = q1 := ⟨_, rfl⟩
        obtain ⟨r1, hr1e⟩ : ∃ r1, (r * 18446744073709551616 + x) % y = r1 := ⟨_, rfl⟩
        rw [hq1e, hr1e] at hD
        rw [hq1e] at hq1 dg1
        rw [hr1e] at hr1 dg2
        have HDD := Lib.hid hD
        have HG1 := Lib.hid dg1
        have HG2 := Lib.hid dg2
        have hj0 : (0 : Int) ≤ j := by omega
        have hj1 : (j : Int) < m := by omega
        have hj2 : (j : Int) ≤ 1000000 := by omega
        rw [e1]
        clear hD dg1 dg2 hq1e hr1e hvd hold hxk e1 hrow
        go_wp2_with fail
        refine HDD.out.mono ?_
        rintro e w2 ⟨rfl, rfl⟩
        go_wp2_with fail
        have hst : Row (wr.setCell ⟨g, j, none⟩ (.int .u64 (q1 : Int))) g .u64 150 (over zs j (q1 :: qs)) := by rw [← over_set_pre (by omega)]; exact HROW.out.set _ _
        refine ⟨⟨j, r1, q1 :: qs, rfl, rfl, by omega, by have := HQL.out; simp; omega, ?_, hr1, hst, hx.setCell (p := ⟨g, j, none⟩) (fun _ => rfl) _, by simpa [World.setCell] using hsz, HG2.out.symm, ?_⟩, by simp [idxUp]⟩
        · intro d hd
          rcases List.mem_cons.1 hd with h | h
          · rw [h]; exact hq1
          · exact HQW.out d h
        · rw [HG1.out]
          simp only [valD]
          omega

/-- What divW hands back. -/
def DwPost (w : World) (N y : Nat) (e : Ending) (w' : World) : Prop := ∃ A c, e = .returned (.tuple #[.slice A (wds (N / y)).length c, .int .u64 ((N % y : Nat) : Int)]) ∧ OwnNat w.heap.size w' A c (N / y) ∧ Below w.heap.size w w'

set_option maxRecDepth 100000 in
set_option maxHeartbeats 4000000 in
theorem divW_walk (N y : Nat) (A : Option Addr) (c : Nat) (w : World) (hc : (wds N).length ≤ c) (hcm : c ≤ 9223372036854775807) (hr : Rd w A (nums .u64 (wds N))) (hl : (wds N).length ≤ 80000) (hy : y < 18446744073709551616) (hy0 : y ≠ 0) :
    Calls Tryz.prog 239 #[.slice none 0 0, .slice A (wds N).length c, .int .u64 y] w (DwPost w N y) := by
  have hyb : ((y : Int) == 0) = false := beq_eq_false_iff_ne.2 (by omega)
  by_cases h1 : y = 1
  · subst h1
    have HS := Lib.hid (setNew_walk A c N w hc hcm (by omega) hr)
    unfold DwPost
    rw [Nat.div_one, Nat.mod_one]
    clear hr
    go_enter Tryz.func239, Tryz.ntmps239
    go_wp2_with fail
    refine HS.out.mono ?_
    rintro e w1 ⟨A1, c1, rfl, hown, hb, _⟩
    go_wp2_with fail
    go_ret2
    exact ⟨A1, c1, rfl, hown, hb⟩
  · have h1b : ((y : Int) == 1) = false := beq_eq_false_iff_ne.2 (by omega)
    by_cases hN : N = 0
    · subst hN
      unfold DwPost
      rw [Nat.zero_div, Nat.zero_mod, wds_zero]
      rw [wds_zero] at hc
      clear hr hl
      go_enter Tryz.func239, Tryz.ntmps239
      go_wp2_with fail
      go_ret2
      exact ⟨none, 0, rfl, .inl ⟨rfl, rfl, rfl⟩, Below.refl _ _⟩
    · have hm0 : (wds N).length ≠ 0 := fun h1 => hN ((toD_nil_iff (by decide)).1 (List.length_eq_zero_iff.1 h1))
      have hval := wds_val N
      have hwl := wds_lt N
      obtain ⟨xs, hxs⟩ : ∃ xs, wds N = xs := ⟨_, rfl⟩
      rw [hxs] at hm0 hl hc hr hval hwl ⊢
      have hxn : xs ≠ [] := by intro e; rw [e] at hm0; exact hm0 rfl
      have hfar := rd_far hr hxn
      obtain ⟨m, hm⟩ : ∃ m, xs.length = m := ⟨_, rfl⟩
      rw [hm] at hm0 hl hc ⊢
      have hM := make_new_walk none 0 0 m w (by omega) (by omega) (Nat.le_refl _)
      have hroom : m ≤ roomFor m ∧ roomFor m ≤ m + 4 := by unfold roomFor; split <;> omega
      obtain ⟨R, hR⟩ : ∃ R, roomFor m = R := ⟨_, rfl⟩
      rw [hR] at hM hroom
      have hrow := row_made w .u64 R 150
      have hr1 := hr.below (below_a1 w (.cells (madeCells #[.int .u64 0] R) 150))
      have hb1 := below_a1 w (.cells (madeCells #[.int .u64 0] R) 150)
      have hs1 := heap_size_alloc w (.cells (madeCells #[.int .u64 0] R) 150)
      obtain ⟨w1, hw1⟩ : ∃ w1, w.alloc (.cells (madeCells #[.int .u64 0] R) 150) = w1 := ⟨_, rfl⟩
      rw [hw1] at hM hrow hr1 hb1 hs1
      have hzl : (List.replicate R 0).length = R := List.length_replicate
      have hDV := divWVW_walk w.heap.size (List.replicate R 0) xs A R c y w1 hrow hr1 hfar (by rw [hzl, hm]; omega) hwl hy hy0 (by omega) hxn
      unfold DqPost at hDV
      rw [hval, hm] at hDV
      have hlt : N % y < 18446744073709551616 := by have := Nat.mod_lt N (Nat.pos_of_ne_zero hy0); omega
      obtain ⟨r, hre⟩ : ∃ r, N % y = r := ⟨_, rfl⟩
      unfold DwPost
      rw [hre] at hDV hlt ⊢
      have HM := Lib.hid hM
      have HDV := Lib.hid hDV
      have HZL := Lib.hid hzl
      have HB1 := Lib.hid hb1
      have HS1 := Lib.hid hs1
      have hmb : ((m : Int) == 0) = false := beq_eq_false_iff_ne.2 (by omega)
      have hi2 : (m : Int) ≤ R := by omega
      clear hM hrow hr hr1 hb1 hs1 hfar hzl hval hwl hw1 hR hxs hDV hm hre hxn
      go_enter Tryz.func239, Tryz.ntmps239
      go_wp2_with fail
      refine HM.out.mono ?_
      rintro e w9 ⟨rfl, hw9⟩
      obtain rfl : w1 = w9 := hw9.symm
      clear hw9
      go_wp2_with fail
      refine HDV.out.mono ?_
      rintro e w2 ⟨qs, rfl, hql, hqw, hrow2, hx2, hs2, hv2⟩
      obtain ⟨hown, htr, hrd⟩ := own_trim hrow2 hqw (by rw [hql, HZL.out]; omega) (by rw [HZL.out]; omega) (Nat.le_refl _) hv2
      rw [HZL.out] at hown
      have hNW := norm_walk (some ⟨w.heap.size, 0, none⟩) R qs w2 (by omega) (by omega) hrd
      rw [htr, hql] at hNW
      have HNW := Lib.hid hNW
      have HOWN := Lib.hid hown
      have hbw : Below w.heap.size w w2 := HB1.out.trans (hx2.below (by have := HS1.out; omega) (fun k hk => by omega))
      have HBW := Lib.hid hbw
      clear hNW hown hbw hrow2 hqw hx2 hs2 hv2 htr hrd hql
      go_wp2_with fail
      refine HNW.out.mono ?_
      rintro e w5 ⟨rfl, rfl⟩
      go_wp2_with fail
      go_ret2
      exact ⟨_, R, rfl, HOWN.out, HBW.out⟩
end Go.Proofs.YtiohlcfdoleooaaGreatDoor
