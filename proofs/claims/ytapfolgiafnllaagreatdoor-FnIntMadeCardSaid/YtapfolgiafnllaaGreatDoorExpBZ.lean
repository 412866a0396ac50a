/-
  nat.sqr, nat.mul by one word, nat.set, into a number that the call owns.
-/
import Derived.Test.YtapfolgiafnllaaGreatDoorExpAZ
namespace Go.Proofs.YtapfolgiafnllaaGreatDoor
open Go.RowKit

theorem OwnB.heap {B : Nat} {w w' : World} {A : Option Addr} {c N : Nat} (h : OwnB B w A c N) (hh : w'.heap = w.heap) : OwnB B w' A c N := by
  rcases h with h | ⟨g, zs, h1, h2, h3, h4⟩
  · exact .inl h
  · exact .inr ⟨g, zs, h1, h2, by unfold Row at h3 ⊢; rw [hh]; exact h3, h4⟩
theorem OwnB.some {B : Nat} {w : World} {A : Option Addr} {c N : Nat} (h : OwnB B w A c N) (hN : N ≠ 0) : ∃ g zs, A = some ⟨g, 0, none⟩ ∧ c = zs.length ∧ Row w g .u64 106 zs ∧ zs.length ≤ 100000 ∧ 1 ≤ zs.length := by
  rcases h with ⟨_, _, h⟩ | ⟨g, zs, h1, h2, h3, _, _, _, h4, h5⟩
  · exact absurd h hN
  · exact ⟨g, zs, h1, h2, h3, h4, h5⟩
theorem aliasX_walk (B N M : Nat) (A X : Option Addr) (c cx : Nat) (w : World) (hz : OwnB B w A c M) (hx : OwnB B w X cx N) (hN : N ≠ 0) (hap : ∀ k, blkOf A k → ¬ blkOf X k) :
    Calls Tryz.prog 131 #[.slice A (wds M).length c, .slice X (wds N).length cx] w fun e w' => e = .returned (.bool false) ∧ Drawn w w' := by
  rcases hz with ⟨rfl, rfl, rfl⟩ | ⟨g, zs, rfl, rfl, hrow, _, _, _, h1, h2⟩
  · rw [wds_zero]; exact aliasNil_walk X _ cx w
  · obtain ⟨gx, xs, rfl, rfl, hrx, h3, h4⟩ := hx.some hN
    exact alias_walk g gx zs xs _ _ w hrow hrx (fun e => hap g ⟨_, rfl, rfl⟩ ⟨_, rfl, e.symm⟩) h2 h4 h1 h3

set_option maxRecDepth 100000 in
set_option maxHeartbeats 8000000 in
theorem natSqrBigX_walk (B N M : Nat) (A X : Option Addr) (c cx : Nat) (w : World) (hz : OwnB B w A c M) (hx : OwnB B w X cx N) (hap : ∀ k, blkOf A k → ¬ blkOf X k) (hB : B ≤ w.heap.size) (hk : SqrIs w) (hg1 : 3 < B) (hg2 : 4 < B)
    (h2 : 2 ≤ (wds N).length) (h12 : (wds N).length < 12) (stk : Value) :
    Calls Tryz.prog 133 #[.slice A (wds M).length c, stk, .slice X (wds N).length cx] w (OwnX B w A (N * N)) := by
  have hN : N ≠ 0 := fun h => by rw [h, wds_zero] at h2; simp at h2
  have HAL := Lib.hid (aliasX_walk B N M A X c cx w hz hx hN hap)
  have hrm := hx.nat.room
  have hvx := wds_val N
  have hwx := wds_lt N
  have hlow := fun k (h : blkOf A k) => (hz.lt h).1
  have HX := Lib.hid hx
  have HZ := Lib.hid hz
  have HAP := Lib.hid hap
  have HK := Lib.hid hk
  have HLOW := Lib.hid hlow
  obtain ⟨xs, hxs⟩ : ∃ xs, wds N = xs := ⟨_, rfl⟩
  rw [hxs] at HAL h2 h12 hrm hvx hwx ⊢
  have HXS := Lib.hid hxs
  obtain ⟨n, hn⟩ : ∃ n, xs.length = n := ⟨_, rfl⟩
  rw [hn] at HAL h2 h12 hrm ⊢
  have HXL := Lib.hid hn
  have HV := Lib.hid hvx
  have HWX := Lib.hid hwx
  have HM : Hid (∀ n1, Calls Tryz.prog 121 #[.slice A (wds M).length c, .int .i64 (2 * (n : Int))] (w.drewN n1) (MakeX B (w.drewN n1) A (2 * n))) := Lib.hid fun n1 => by
    have h := makeX_walk B A c M (2 * n) (w.drewN n1) (HZ.out.heap rfl) hB (by omega) (by omega)
    rw [show ((2 * n : Nat) : Int) = 2 * (n : Int) by omega] at h
    exact h
  have hn0 : ((n : Int) == 0) = false := beq_eq_false_iff_ne.2 (by omega)
  have hn1 : ((n : Int) == 1) = false := beq_eq_false_iff_ne.2 (by omega)
  have hn12 : (n : Int) < 12 := by omega
  have hn80 : (n : Int) < 80 := by omega
  obtain ⟨m, hm⟩ : ∃ m, (wds M).length = m := ⟨_, rfl⟩
  rw [hm] at HAL HM ⊢
  clear hk hn hvx hwx hxs hz hx hap hlow hN hm
  go_enter Tryz.func133, Tryz.ntmps133
  go_wp2_with fail
  refine HAL.out.mono ?_
  rintro e w8 ⟨rfl, n1, rfl⟩
  go_wp2_with fail
  refine (HM.out n1).mono ?_
  rintro e w1 ⟨g, zs, rfl, hrow, hzw, hnz, hzl, hBg, hbg, hx1⟩
  have hx1' : Ext (blkOf A) w w1 := ((Ext.refl _ w).drewN n1).trans hx1
  have hX1 := HX.out.ext hx1' (fun k h1 h2 => HAP.out k h2 h1)
  have hka : w1.cell? ⟨3, 0, none⟩ = some (.int .i64 12) := (World.cell?_of_block (hx1'.block _ (World.block_lt_of_cell? w _ HK.out.1) (fun h => absurd (HLOW.out _ h) (Nat.not_le.2 hg1)))).trans HK.out.1
  have hkb : w1.cell? ⟨4, 0, none⟩ = some (.int .i64 80) := (World.cell?_of_block (hx1'.block _ (World.block_lt_of_cell? w _ HK.out.2) (fun h => absurd (HLOW.out _ h) (Nat.not_le.2 hg2)))).trans HK.out.2
  have hfx : ∀ a, X = some a → a.block ≠ g := by
    intro a ha he
    have hbx : blkOf X g := ⟨a, ha, he.symm⟩
    rcases hbg with h | h
    · exact HAP.out g h hbx
    · have := (HX.out.lt hbx).2
      exact Nat.lt_irrefl _ (Nat.lt_of_lt_of_le this h)
  have hrd := hX1.nat.rd
  rw [HXS.out] at hrd
  have hBM := basicMul_walk g zs xs xs X X zs.length cx cx w1 hrow hzw hrd hfx hrd hfx HWX.out HWX.out (by rw [HXL.out]; omega) hzl (by rw [HXL.out]; omega) hzl (by rw [HXL.out]; omega)
  rw [HXL.out, show n + n = 2 * n by omega] at hBM
  have HBM := Lib.hid hBM
  have HX1 := Lib.hid hx1'
  have HZW := Lib.hid hzw
  have HBG := Lib.hid hbg
  clear hrow hzw hbg hx1 hx1' hX1 hfx hrd hBM
  go_wp2_with fail
  refine HBM.out.mono ?_
  rintro e w2 ⟨rfl, T, hrow2, hTl, hTw, hv2, hx2, hs2⟩
  have hl3 : (T.take (2 * n)).length = 2 * n := by rw [List.length_take]; omega
  have hov : over T 0 (T.take (2 * n)) = T := by
    unfold over
    rw [Nat.zero_add, hl3, List.take_zero, List.nil_append, List.take_append_drop]
  rw [HXL.out, HV.out, show n + n = 2 * n by omega] at hv2
  have hg' : blkOf A g ∨ w.heap.size ≤ g := HBG.out
  obtain ⟨hown, htr, hrd⟩ := ownX_end (B := B) (A := A) (w := w) (zs := T) (outs := T.take (2 * n)) (S := N * N) (by rw [hov]; exact hrow2) (fun d hd => hTw d (List.mem_of_mem_take hd)) hTw (by rw [hl3]; omega) (by omega) (by omega) hBg hv2 hg'
    (HX1.out.trans' hx2 (fun i hi h => by rcases hg' with h3 | h3; (rw [h]; exact h3); exact absurd hi (by omega)))
  rw [hTl] at hown
  have hNW := norm_walk (some ⟨g, 0, none⟩) zs.length (T.take (2 * n)) w2 (by omega) (by omega) hrd
  rw [htr, hl3] at hNW
  have HNW := Lib.hid hNW
  have HOWN := Lib.hid hown
  clear hNW hown hrow2 hTw hx2 hs2 hv2 htr hrd hl3 hov hTl hg'
  go_wp2_with fail
  refine HNW.out.mono ?_
  rintro e w5 ⟨rfl, rfl⟩
  go_wp2_with fail
  go_ret
  exact HOWN.out

set_option maxRecDepth 100000 in
set_option maxHeartbeats 2000000 in
theorem natSqr1X_walk (B y M : Nat) (A X : Option Addr) (c cx : Nat) (w : World) (hz : OwnB B w A c M) (hx : OwnB B w X cx y) (hB : B ≤ w.heap.size) (hw1 : wds y = [y]) (stk : Value) :
    Calls Tryz.prog 133 #[.slice A (wds M).length c, stk, .slice X 1 cx] w (OwnX B w A (y * y)) := by
  have hyw : y < 18446744073709551616 := wds_lt y y (by rw [hw1]; simp)
  have hr := hx.nat.rd
  have hrm := hx.nat.room
  rw [hw1] at hr hrm
  have hrm1 : 1 ≤ cx := hrm.1
  obtain ⟨a, rfl, ha⟩ := rd_cell hr (j := 0) (by simp)
  have e0 : a.add 0 = a := by unfold Addr.add; rw [if_pos rfl]
  rw [e0] at ha
  have ha2 : w.cell? a = some (.int .u64 (y : Int)) := ha
  have hc1 : (1 : Int) ≤ cx := by omega
  have hM := makeX_walk B A c M 2 w hz hB (by decide) (by decide)
  have HM := Lib.hid hM
  obtain ⟨m, hm⟩ : ∃ m, (wds M).length = m := ⟨_, rfl⟩
  rw [hm] at HM ⊢
  have HMW := Lib.hid (fun w1 => mulWW_walk y y w1 hyw hyw)
  obtain ⟨hi, hhi⟩ : ∃ a, y * y / 18446744073709551616 = a := ⟨_, rfl⟩
  obtain ⟨lo, hlo⟩ : ∃ a, y * y % 18446744073709551616 = a := ⟨_, rfl⟩
  rw [hhi, hlo] at HMW
  have hhiw : hi < 18446744073709551616 := by
    rw [← hhi]
    exact Nat.div_lt_of_lt_mul (Nat.mul_lt_mul'' hyw hyw)
  have hlow : lo < 18446744073709551616 := by rw [← hlo]; exact Nat.mod_lt _ (by decide)
  have hval : lo + 18446744073709551616 * hi = y * y := by rw [← hhi, ← hlo]; exact Nat.mod_add_div _ _
  have HVAL := Lib.hid hval
  have HHW := Lib.hid (And.intro hhiw hlow)
  clear hM hz hx hr hrm ha e0 hhi hlo hyw hhiw hlow hval hw1 hm
  go_enter Tryz.func133, Tryz.ntmps133
  go_wp2_with fail
  refine HM.out.mono ?_
  rintro e w1 ⟨g, zs, rfl, hrow, hzw, hnz, hzl, hBg, hbg, hx1⟩
  have c1 := hrow.cell (j := 1) (by omega)
  have f1 := hrow.free 1
  have hrow2 := hrow.set 1 hi
  have c0 := hrow2.cell (j := 0) (by rw [List.length_set]; omega)
  have f0 := hrow2.free 0
  have hrow3 := hrow2.set 0 lo
  have hov : (zs.set 1 hi).set 0 lo = over zs 0 [lo, hi] := by
    match zs, hnz with
    | [], h => simp at h
    | [a], h => simp at h
    | a :: b :: t, h => simp [over]
  rw [hov] at hrow3
  obtain ⟨hown, htr, hrd⟩ := ownX_end (B := B) (A := A) (w := w) (S := y * y) hrow3 (fun d hd => by simp at hd; rcases hd with h | h; (rw [h]; exact HHW.out.2); (rw [h]; exact HHW.out.1)) hzw (by simpa using hnz) (by omega) hzl hBg (by simp [valD]; exact HVAL.out) hbg
    ((hx1.setCell (p := ⟨g, 1, none⟩) (fun h => by rcases hbg with h2 | h2; exact h2; exact absurd h (by show ¬ g < _; omega)) _).setCell (p := ⟨g, 0, none⟩) (fun h => by rcases hbg with h2 | h2; exact h2; exact absurd h (by show ¬ g < _; omega)) _)
  have hNW := norm_walk (some ⟨g, 0, none⟩) zs.length [lo, hi] _ hnz (by omega) hrd
  rw [htr] at hNW
  have hl2 : [lo, hi].length = 2 := rfl
  rw [hl2] at hNW
  have HNW := Lib.hid hNW
  have HOWN := Lib.hid hown
  have i2 : (2 : Int) ≤ zs.length := by omega
  clear hNW hown hrow hrow2 hrow3 hrd htr hov hl2 hzw hbg hx1
  go_wp2_with fail
  refine (HMW.out w1).mono ?_
  rintro e w3 ⟨rfl, h3⟩
  subst h3
  go_wp2_with fail
  refine HNW.out.mono ?_
  rintro e w5 ⟨rfl, h5⟩
  subst h5
  go_wp2_with fail
  go_ret
  exact HOWN.out

set_option maxRecDepth 100000 in
theorem natSqrX_walk (B N M : Nat) (A X : Option Addr) (c cx : Nat) (w : World) (hz : OwnB B w A c M) (hx : OwnB B w X cx N) (hap : ∀ k, blkOf A k → ¬ blkOf X k) (hB : B ≤ w.heap.size) (hk : SqrIs w) (hg1 : 3 < B) (hg2 : 4 < B)
    (hN : N ≠ 0) (h12 : (wds N).length < 12) (stk : Value) :
    Calls Tryz.prog 133 #[.slice A (wds M).length c, stk, .slice X (wds N).length cx] w (OwnX B w A (N * N)) := by
  by_cases h2 : 2 ≤ (wds N).length
  · exact natSqrBigX_walk B N M A X c cx w hz hx hap hB hk hg1 hg2 h2 h12 stk
  · have h0 : (wds N).length ≠ 0 := fun h => hN ((toD_nil_iff (b := 18446744073709551616) (by decide)).1 (List.length_eq_zero_iff.1 h))
    have h1 : (wds N).length = 1 := by omega
    obtain ⟨y, hy⟩ := List.length_eq_one_iff.1 h1
    have hv := wds_val N
    rw [hy] at hv
    have e1 : valD 18446744073709551616 [y] = y := by simp [valD]
    rw [e1] at hv
    subst hv
    rw [h1]
    exact natSqr1X_walk B y M A X c cx w hz hx hB hy stk

set_option maxRecDepth 100000 in
set_option maxHeartbeats 2000000 in
/-- mulAddWW(x, y, 0) into A. -/
theorem mulAddWWX_walk (B N M y : Nat) (A X : Option Addr) (c cx : Nat) (w : World) (hz : OwnB B w A c M) (hx : OwnB B w X cx N) (hap : ∀ k, blkOf A k → ¬ blkOf X k) (hB : B ≤ w.heap.size) (hN : N ≠ 0) (hl : (wds N).length ≤ 80000) (hy0 : y ≠ 0) (hy : y < 18446744073709551616) :
    Calls Tryz.prog 165 #[.slice A (wds M).length c, .slice X (wds N).length cx, .int .u64 y, .int .u64 0] w (OwnX B w A (N * y)) := by
  have hm0 : (wds N).length ≠ 0 := fun h1 => hN ((toD_nil_iff (by decide)).1 (List.length_eq_zero_iff.1 h1))
  have hval := wds_val N
  have hwl := wds_lt N
  have hrm := hx.nat.room
  have HM : Hid (Calls Tryz.prog 121 #[.slice A (wds M).length c, .int .i64 (((wds N).length : Int) + 1)] w (MakeX B w A ((wds N).length + 1))) := Lib.hid (by
    have h := makeX_walk B A c M ((wds N).length + 1) w hz hB (by omega) (by omega)
    rw [show (((wds N).length + 1 : Nat) : Int) = ((wds N).length : Int) + 1 by omega] at h
    exact h)
  have HX := Lib.hid hx
  have HAP := Lib.hid hap
  obtain ⟨xs, hxs⟩ : ∃ xs, wds N = xs := ⟨_, rfl⟩
  rw [hxs] at hm0 hl hrm hval hwl HM ⊢
  have HXS := Lib.hid hxs
  have HV := Lib.hid hval
  have HWL := Lib.hid hwl
  obtain ⟨m, hm⟩ : ∃ m, (wds M).length = m := ⟨_, rfl⟩
  rw [hm] at HM ⊢
  have hml : ((xs.length : Int) == 0) = false := beq_eq_false_iff_ne.2 (by omega)
  have hyb : ((y : Int) == 0) = false := beq_eq_false_iff_ne.2 (by omega)
  have hi3 : (0 : Int) ≤ xs.length := by omega
  have hi4 : (xs.length : Int) < (xs.length : Int) + 1 := by omega
  clear hz hx hap hN hval hwl hxs hm
  go_enter Tryz.func165, Tryz.ntmps165
  go_wp2_with fail
  refine HM.out.mono ?_
  rintro e w1 ⟨g, zs, rfl, hrow, hzw, hnz, hzl, hBg, hbg, hx1⟩
  have hX1 := HX.out.ext hx1 (fun k h1 h2 => HAP.out k h2 h1)
  have hfx : ∀ a, X = some a → a.block ≠ g := by
    intro a ha he
    have hbx : blkOf X g := ⟨a, ha, he.symm⟩
    rcases hbg with h | h
    · exact HAP.out g h hbx
    · have := (HX.out.lt hbx).2
      exact Nat.lt_irrefl _ (Nat.lt_of_lt_of_le this h)
  have hrd := hX1.nat.rd
  rw [HXS.out] at hrd
  have HAV := Lib.hid (mulAddVWW_walk g 0 zs xs X zs.length cx y 0 w1 hrow (.inr ⟨hrd, hfx⟩) (by omega) HWL.out hy (by decide) (by omega) (by decide))
  have HX1 := Lib.hid hx1
  have HZW := Lib.hid hzw
  have HBG := Lib.hid hbg
  have hi2 : (xs.length : Int) ≤ zs.length := by omega
  clear hrow hzw hbg hx1 hX1 hfx hrd
  go_wp2_with fail
  refine HAV.out.mono ?_
  rintro e w2 ⟨cr, outs, rfl, hcr, hol, how, hrow2, hx2, hsz2, hv2⟩
  have hlen2 : (over zs 0 outs).length = zs.length := over_length (by omega)
  obtain ⟨old, c2⟩ : ∃ old : Nat, w2.cell? ⟨g, xs.length, none⟩ = some (.int .u64 old) := ⟨_, hrow2.cell (j := xs.length) (by omega)⟩
  have f2 := hrow2.free xs.length
  have HR2 := Lib.hid hrow2
  have HV2 := Lib.hid hv2
  have HO := Lib.hid how
  have HOL := Lib.hid hol
  have HX2 := Lib.hid hx2
  have HSZ2 := Lib.hid hsz2
  clear hrow2 hv2 how hol hx2 hsz2 hlen2
  go_wp2_with fail
  have hset := over_set (zs := zs) (outs := outs) (o := 0) (v := cr) (by rw [HOL.out]; omega)
  rw [Nat.zero_add, HOL.out] at hset
  have hst : Row (w2.setCell ⟨g, xs.length, none⟩ (.int .u64 (cr : Int))) g .u64 106 (over zs 0 (outs ++ [cr])) := by rw [← hset]; exact HR2.out.set _ _
  have hvv : valD 18446744073709551616 (outs ++ [cr]) = N * y := by
    rw [valD_append, HOL.out]
    have e1 : valD 18446744073709551616 [cr] = cr := by simp [valD]
    rw [e1]
    have := HV2.out
    rw [HV.out, Nat.add_zero] at this
    exact this
  have hl3 : (outs ++ [cr]).length = xs.length + 1 := by rw [List.length_append, HOL.out]; rfl
  have hg' : blkOf A g ∨ w.heap.size ≤ g := HBG.out
  obtain ⟨hown, htr, hrd⟩ := ownX_end (B := B) (A := A) (w := w) hst (fun d hd => by
    rcases List.mem_append.1 hd with h | h
    · exact HO.out d h
    · simp at h; omega) HZW.out (by rw [hl3]; exact hnz) (by omega) hzl hBg hvv hg'
    ((HX1.out.trans' HX2.out (fun i hi h => by rcases hg' with h3 | h3; (rw [h]; exact h3); exact absurd hi (by omega))).setCell (p := ⟨g, xs.length, none⟩) (fun h => by rcases hg' with h3 | h3; exact h3; exact absurd h (by show ¬ g < _; omega)) _)
  have hNW := norm_walk (some ⟨g, 0, none⟩) zs.length (outs ++ [cr]) _ (by rw [hl3]; exact hnz) (by omega) hrd
  rw [htr, hl3] at hNW
  have HNW := Lib.hid hNW
  have HOWN := Lib.hid hown
  clear hNW hown hst hvv hl3 htr hrd hset hg'
  refine HNW.out.mono ?_
  rintro e w5 ⟨rfl, rfl⟩
  go_wp2_with fail
  go_ret
  exact HOWN.out

set_option maxRecDepth 100000 in
set_option maxHeartbeats 2000000 in
/-- mul by a number of one word into A. -/
theorem natMul1X_walk (B N M y : Nat) (A X Y : Option Addr) (c cx cy : Nat) (w : World) (hz : OwnB B w A c M) (hx : OwnB B w X cx N) (hap : ∀ k, blkOf A k → ¬ blkOf X k) (hB : B ≤ w.heap.size) (hN : N ≠ 0) (hl : (wds N).length ≤ 80000) (hy0 : y ≠ 0) (hy : y < 18446744073709551616) (hcy : 1 ≤ cy) (hcym : cy ≤ 9223372036854775807) (hr : Rd w Y (nums .u64 [y])) (stk : Value) :
    Calls Tryz.prog 134 #[.slice A (wds M).length c, stk, .slice X (wds N).length cx, .slice Y 1 cy] w (OwnX B w A (N * y)) := by
  have hm0 : (wds N).length ≠ 0 := fun h1 => hN ((toD_nil_iff (by decide)).1 (List.length_eq_zero_iff.1 h1))
  have HW := Lib.hid (mulAddWWX_walk B N M y A X c cx w hz hx hap hB hN hl hy0 hy)
  obtain ⟨a, rfl, ha⟩ := rd_cell hr (j := 0) (by simp)
  have e0 : a.add 0 = a := by unfold Addr.add; rw [if_pos rfl]
  rw [e0] at ha
  have ha2 : w.cell? a = some (.int .u64 (y : Int)) := ha
  obtain ⟨n, hn⟩ : ∃ n, (wds N).length = n := ⟨_, rfl⟩
  obtain ⟨m, hm⟩ : ∃ m, (wds M).length = m := ⟨_, rfl⟩
  rw [hn] at HW hm0 ⊢
  rw [hm] at HW ⊢
  have h1 : ¬ (n : Int) < 1 := by omega
  have h2 : ((n : Int) == 0) = false := beq_eq_false_iff_ne.2 (by omega)
  have h3 : (1 : Int) ≤ cy := by omega
  clear hz hx hap hN hl hr ha e0 hn hm
  go_enter Tryz.func134, Tryz.ntmps134
  go_wp2_with fail
  refine HW.out.mono ?_
  rintro e w1 ⟨A1, c1, rfl, hp⟩
  go_wp2_with fail
  go_ret
  exact ⟨A1, c1, rfl, hp⟩

set_option maxRecDepth 100000 in
set_option maxHeartbeats 1000000 in
/-- nat(nil).set(x) of one word. -/
theorem setOne_walk (y : Nat) (X : Option Addr) (cx : Nat) (w : World) (_hc : 1 ≤ cx) (_hcm : cx ≤ 9223372036854775807) (hr : Rd w X (nums .u64 [y])) (hw1 : wds y = [y]) :
    Calls Tryz.prog 97 #[.slice none 0 0, .slice X 1 cx] w fun e w' => ∃ A c, e = .returned (.slice A 1 c) ∧ OwnB w.heap.size w' A c y ∧ Below w.heap.size w w' := by
  have hyw : y < 18446744073709551616 := wds_lt y y (by rw [hw1]; simp)
  have HM := Lib.hid (make_new_walk none 0 0 1 w (by omega) (by omega) (Nat.le_refl _))
  have hR : roomFor 1 = 1 := rfl
  rw [hR] at HM
  have HR := Lib.hid hr
  have HW1 := Lib.hid hw1
  clear hr hw1 hR
  go_enter Tryz.func97, Tryz.ntmps97
  go_wp2_with fail
  refine HM.out.mono ?_
  rintro e w1 ⟨rfl, rfl⟩
  have hrow := row_made w .u64 1 106
  have hrd := HR.out.below (below_a1 w (.cells (madeCells #[.int .u64 0] 1) 106))
  obtain ⟨w1, hw1⟩ : ∃ w1, w.alloc (.cells (madeCells #[.int .u64 0] 1) 106) = w1 := ⟨_, rfl⟩
  have hb1 : Below w.heap.size w w1 := by rw [← hw1]; exact below_a1 _ _
  have hs1 : w1.heap.size = w.heap.size + 1 := by rw [← hw1]; exact heap_size_alloc _ _
  rw [hw1] at hrow hrd ⊢
  have HROW := Lib.hid hrow
  have HRD := Lib.hid hrd
  have HB1 := Lib.hid hb1
  have HS1 := Lib.hid hs1
  clear hrow hrd hb1 hs1 hw1
  go_wp2_with (with_reducible refine wpList_copy_words rfl _ _ 78 78 rfl 106 Tryz.underlying78 infoWordSize _ _ _ _ _ _ rfl rfl w.heap.size 0 (List.replicate 1 0) .u64 106 HROW.out [y] (by simp [Nat.min_def]) (fun h => ⟨rfl, HRD.out⟩) (by simp) ?_)
  intro w2 HG2 hx2 hs2
  go_wp2_with fail
  go_ret
  have hrow2 := HG2.out
  have hov : over [0] 0 [y] = [y] := rfl
  rw [hov] at hrow2
  exact ⟨_, _, rfl, .inr ⟨w.heap.size, [y], rfl, rfl, hrow2, ⟨[], by rw [HW1.out]; rfl⟩, fun d hd => by simp at hd; rw [hd]; exact hyw, Nat.le_refl _, by simp, by simp⟩, HB1.out.trans (hx2.below (by have := HS1.out; omega) (fun k hk => by omega))⟩
end Go.Proofs.YtapfolgiafnllaaGreatDoor
