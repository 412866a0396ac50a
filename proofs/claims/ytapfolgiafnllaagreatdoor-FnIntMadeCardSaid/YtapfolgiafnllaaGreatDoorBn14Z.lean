/-
  (*big.Int).Mul of two numbers into a new one.
-/
import Derived.Test.YtapfolgiafnllaaGreatDoorBn02Z
import Derived.BigRegion
import Derived.Test.YtapfolgiafnllaaGreatDoorBn20Z
import Derived.Test.YtapfolgiafnllaaGreatDoorBn09Z
import Derived.Test.YtapfolgiafnllaaGreatDoorBn17Z
namespace Go.Proofs.YtapfolgiafnllaaGreatDoor
open Go.RowKit

theorem bigMul_sign {x y : Int} (h : x.natAbs * y.natAbs ≠ 0) : ((decide (x < 0)) != (decide (y < 0))) = decide (x * y < 0) := by
  have hx : x ≠ 0 := by rintro rfl; exact h (by rw [Int.natAbs_zero, Nat.zero_mul])
  have hy : y ≠ 0 := by rintro rfl; exact h (by rw [Int.natAbs_zero, Nat.mul_zero])
  rcases Int.lt_or_gt_of_ne hx with h1 | h1 <;> rcases Int.lt_or_gt_of_ne hy with h2 | h2
  · rw [decide_eq_true h1, decide_eq_true h2, decide_eq_false (Int.not_lt.2 (Int.le_of_lt (Int.mul_pos_of_neg_of_neg h1 h2)))]; rfl
  · rw [decide_eq_true h1, decide_eq_false (Int.not_lt.2 (Int.le_of_lt h2)), decide_eq_true (Int.mul_neg_of_neg_of_pos h1 h2)]; rfl
  · rw [decide_eq_false (Int.not_lt.2 (Int.le_of_lt h1)), decide_eq_true h2, decide_eq_true (Int.mul_neg_of_pos_of_neg h1 h2)]; rfl
  · rw [decide_eq_false (Int.not_lt.2 (Int.le_of_lt h1)), decide_eq_false (Int.not_lt.2 (Int.le_of_lt h2)), decide_eq_false (Int.not_lt.2 (Int.le_of_lt (Int.mul_pos h1 h2)))]; rfl

/-- The words of a product have been laid down; its sign not yet. -/
def MulMid (w : World) (gz N : Nat) (wx : World) : Prop :=
  ∃ A c, wx.heap[gz]? = some (.cells #[.bool false, .slice A (wds N).length c] 80 (0, 0)) ∧ (wds N).length ≤ c ∧ c ≤ 9223372036854775807 ∧ Wd wx A (wds N) ∧ (∀ a, A = some a → a.block ≠ gz) ∧ Ext (fun b => b = gz) w wx

set_option maxRecDepth 100000 in
set_option maxHeartbeats 4000000 in
theorem intMul0_walk (gz gx gy : Nat) (x y : Int) (stk : Value) (w : World) (hz : IntNew w gz) (hx : IntAt w gx x) (hy : IntAt w gy y) (hne : gy ≠ gx) (hgx : gx ≠ gz) (hgy : gy ≠ gz) (hk : KaraIs w) (hlx : (wds x.natAbs).length < 40) (hly : (wds y.natAbs).length < 40) :
    Calls Tryz.prog 108 #[.pointer (some ⟨gz, 0, none⟩), stk, .pointer (some ⟨gx, 0, none⟩), .pointer (some ⟨gy, 0, none⟩)] w fun e w' => e = .returned (.tuple #[]) ∧ IntAt w' gz (x * y) ∧ Ext (fun b => b = gz) w w' := by
  obtain ⟨A, c, hkx, h2, h3, h4⟩ := hx
  obtain ⟨B, d, hky, i2, i3, i4⟩ := hy
  have hnq := (int_neq hne hkx hky).2
  have c0 := num_cell0 hz
  have c1 := num_cell1 hz
  have d0 := num_cell0 hkx
  have d1 := num_cell1 hkx
  have e0 := num_cell0 hky
  have e1 := num_cell1 hky
  have HM := Lib.hid (fun (w2 : World) (hh : w2.heap = w.heap) => natMul_walk x.natAbs y.natAbs A B c d w2 h2 h3 i2 i3 (rd_heap h4.rd hh) (rd_heap i4.rd hh) ((cell_heap hh _ _).trans hk) hlx hly stk)
  have HZ := Lib.hid hz
  have HKX := Lib.hid hkx
  have HKY := Lib.hid hky
  have hlt := iter_lt hz
  have HLT := Lib.hid hlt
  obtain ⟨nx, hnx2⟩ : ∃ nx, decide (x < 0) = nx := ⟨_, rfl⟩
  obtain ⟨ny, hny2⟩ : ∃ ny, decide (y < 0) = ny := ⟨_, rfl⟩
  have hsg := fun h => bigMul_sign (x := x) (y := y) h
  rw [hnx2, hny2] at hsg
  rw [hnx2] at d0 HKX
  rw [hny2] at e0 HKY
  have HSG := Lib.hid hsg
  have HSS := Lib.hid (Int.natAbs_mul x y)
  clear h4 i4 hz hkx hky hnx2 hny2 hsg hk
  go_enter Tryz.func108, Tryz.ntmps108
  go_upto_region 3 with fail
  go_cut [41] (fun _ wx => MulMid w gz (x.natAbs * y.natAbs) wx)
  case first =>
    go_region_with ((go_at_call 134; refine (HM.out _ (by first | exact heap_drew' _ | exact heap_drewN' _ _)).mono ?_; rintro e w1 ⟨A1, c1', rfl, hown, hb, hs1⟩; have hk1 : w1.heap[gz]? = some (.cells #[.bool false, .slice none 0 0] 80 (0, 0)) := (hb.block gz (HLT.out)).trans HZ.out; have g0 := num_cell0 hk1; have g1 := num_cell1 hk1; have f0 := one_free hk1 0; have f1 := one_free hk1 1; have HK1 := Lib.hid hk1; have HO := Lib.hid hown; have HB := Lib.hid hb; clear hk1 hown hb))
    all_goals (go_wp2_with fail)
    all_goals go_meet
    all_goals
      have ho2 : OwnNat (gz + 1) w1 A1 c1' (x.natAbs * y.natAbs) := own_low HO.out (by exact HLT.out)
      have hx2 : Ext (fun b => b = gz) w w1 := ext_any (heap_drew' _) rfl rfl rfl HB.out
      have hge := ho2.ge
      exact ⟨A1, c1', cells_set HK1.out 1 _, ho2.room.1, by have := ho2.room; omega, ho2.wd.other _ (fun a ha => by have := hge a ha; show a.block ≠ gz; omega), fun a ha => by have := hge a ha; omega, Ext.setCell (D := fun b => b = gz) (p := ⟨gz, 1, none⟩) hx2 (fun _ => rfl) _⟩
  case rest =>
    obtain ⟨A1, c1', hk1, hl1, hm1, hwd, hfar, hx⟩ := hcut
    have p0 := num_cell0 ((hx.block gx (iter_lt HKX.out) (by exact hgx)).trans HKX.out)
    have p1 := num_cell0 ((hx.block gy (iter_lt HKY.out) (by exact hgy)).trans HKY.out)
    have p2 := num_cell1 hk1
    have p3 := one_free hk1 0
    have p4 := num_cell0 hk1
    have HK1 := Lib.hid hk1
    have HX := Lib.hid hx
    have HWD := Lib.hid hwd
    have HFR := Lib.hid hfar
    have fin : ∀ (wy : World) (b : Bool), wy.heap = wc.heap → b = decide (x * y < 0) → IntAt (wy.setCell ⟨gz, 0, none⟩ (.bool b)) gz (x * y) := by
      intro wy b hh hb
      have hk2 : wy.heap[gz]? = some (.cells #[.bool false, .slice A1 (wds (x.natAbs * y.natAbs)).length c1'] 80 (0, 0)) := by rw [hh]; exact HK1.out
      have hk3 := cells_set hk2 0 (.bool b)
      refine ⟨A1, c1', ?_, by rw [HSS.out]; exact hl1, hm1, ?_⟩
      · rw [HSS.out, ← hb]; exact hk3
      · rw [HSS.out]
        exact (HWD.out.of_heap hh).other _ (fun a ha => HFR.out a ha)
    have FIN := Lib.hid fin
    clear hk1 hx hwd hfar fin d0 d1 e0 e1 c0 c1 hnq
    by_cases h0 : x.natAbs * y.natAbs = 0
    · have hlen2 : (wds (x.natAbs * y.natAbs)).length = 0 := by rw [h0, wds_zero]; rfl
      have hng : false = decide (x * y < 0) := by
        have := Int.natAbs_mul x y
        rw [h0] at this
        rw [Int.natAbs_eq_zero.1 this]
        rfl
      have HNG := Lib.hid hng
      rw [hlen2] at p2
      clear h0 hlen2 hng hl1
      go_wp2_with fail
      refine wp_region_still_tail 20 (by kernel_rfl) (by kernel_rfl) ?_
      simp only [List.take_succ_cons, List.take_zero, List.drop_succ_cons, List.drop_zero]
      iterate 6 still_step
      refine wpStill_step (fun K hK => ?_)
      go_simp
      obtain ⟨bb, hbb⟩ : ∃ bb, false = bb := ⟨_, rfl⟩
      rw [hbb]
      have HBB := Lib.hid hbb
      clear hbb
      refine hK _ ?_
      clear hK K
      still_step
      iterate 9
        refine wpStill_step (fun K hK => ?_)
        rw [if_neg (by simp [Region.wanted, yielded, ← HBB.out])]
        go_simp
        refine hK _ ?_
        clear hK K
      still_step
      have hpk : (if bb = true then undef else Value.bool false) = Value.bool false := by rw [← HBB.out]; rfl
      rw [hpk]
      clear hpk
      still_step
      still_step
      refine wpStill_nil ?_
      change wpList _ _ _ _ _ wc.drew
      go_wp2_with fail
      go_end0
      exact ⟨rfl, FIN.out wc.drew _ rfl HNG.out, Ext.setCell (D := fun b => b = gz) (p := ⟨gz, 0, none⟩) HX.out.drew (fun _ => rfl) _⟩
    · have hlen := wds_pos.2 h0
      have HFN := Lib.hid (HSG.out h0)
      obtain ⟨n, hn⟩ : ∃ n, (wds (x.natAbs * y.natAbs)).length = n := ⟨_, rfl⟩
      rw [hn] at p2 hlen
      have hd0 : decide (0 < n) = true := decide_eq_true hlen
      clear h0 hn hl1
      go_wp2_with fail
      go_still_tail 20, (by kernel_rfl)
      change wpList _ _ _ _ _ wc.drew
      go_wp2_with fail
      go_end0
      exact ⟨rfl, FIN.out wc.drew _ rfl HFN.out, Ext.setCell (D := fun b => b = gz) (p := ⟨gz, 0, none⟩) HX.out.drew (fun _ => rfl) _⟩

set_option maxRecDepth 100000 in
set_option maxHeartbeats 1000000 in
theorem intMul_walk (gz gx gy : Nat) (x y : Int) (w : World) (hz : IntNew w gz) (hx : IntAt w gx x) (hy : IntAt w gy y) (hne : gy ≠ gx) (hgx : gx ≠ gz) (hgy : gy ≠ gz) (hk : KaraIs w) (hlx : (wds x.natAbs).length < 40) (hly : (wds y.natAbs).length < 40) :
    Calls Tryz.prog 82 #[.pointer (some ⟨gz, 0, none⟩), .pointer (some ⟨gx, 0, none⟩), .pointer (some ⟨gy, 0, none⟩)] w fun e w' => e = .returned (.pointer (some ⟨gz, 0, none⟩)) ∧ IntAt w' gz (x * y) ∧ Ext (fun b => b = gz) w w' := by
  have HM := Lib.hid (intMul0_walk gz gx gy x y (.pointer none) w hz hx hy hne hgx hgy hk hlx hly)
  clear hz hx hy hk
  go_enter Tryz.func82, Tryz.ntmps82
  go_wp2_with fail
  refine HM.out.mono ?_
  rintro e w1 ⟨rfl, hp⟩
  have HP := Lib.hid hp
  clear hp
  go_wp2_with fail
  go_ret
  exact ⟨rfl, HP.out⟩
end Go.Proofs.YtapfolgiafnllaaGreatDoor

/-
  A round of the schoolbook division, in numbers; mulWW, greaterThan.
-/
namespace Go.Proofs.YtapfolgiafnllaaGreatDoor
open Go.RowKit

/-- What holds when the digits from t on are known. -/
structure DbInv (V U0 n m : Nat) (us ds : List Nat) (t : Nat) : Prop where
  ulen : us.length = n + m
  uw : ∀ d ∈ us, d < 18446744073709551616
  dlen : ds.length = m - min t m
  dw : ∀ d ∈ ds, d < 18446744073709551616
  tle : t ≤ m + 1
  lt : valD 18446744073709551616 us < V * 18446744073709551616 ^ (min t m)
  eq : valD 18446744073709551616 us + V * (18446744073709551616 ^ (min t m) * valD 18446744073709551616 ds) = U0
/-- The words of u that a round changes. -/
def winL (n m j : Nat) : Nat := if j < m then n + 1 else n
theorem win_zero {us : List Nat} {n m j : Nat} (h : us.length = n + m) (hj : j ≤ m) : valD 18446744073709551616 (((us ++ [0]).drop j).take (n + 1)) = valD 18446744073709551616 ((us.drop j).take (winL n m j)) := by
  rw [List.drop_append_of_le_length (by omega)]
  unfold winL
  split
  · rw [List.take_append_of_le_length (by rw [List.length_drop]; omega)]
  · rw [List.take_of_length_le (by simp; omega), List.take_of_length_le (by simp; omega), valD_zero_end]
/-- What a round begins with. -/
structure DbOpen (V : Nat) (us vs : List Nat) (n m j S u0 u1 u2 v1 v2 : Nat) : Prop where
  sect : valD 18446744073709551616 ((us.drop j).take (winL n m j)) = S
  us_eq : valD 18446744073709551616 us = valD 18446744073709551616 (us.take j) + 18446744073709551616 ^ j * S
  u0_le : u0 ≤ v1
  words : u0 < 18446744073709551616 ∧ u1 < 18446744073709551616 ∧ u2 < 18446744073709551616 ∧ v1 < 18446744073709551616 ∧ v2 < 18446744073709551616
  big : 9223372036854775808 ≤ v1
  less : u0 < v1 → S / V ≤ ((u0 * 18446744073709551616 + u1) * 18446744073709551616 + u2) / (v1 * 18446744073709551616 + v2) ∧ ((u0 * 18446744073709551616 + u1) * 18446744073709551616 + u2) / (v1 * 18446744073709551616 + v2) ≤ S / V + 1 ∧ u0 * 18446744073709551616 + u1 < v1 * 18446744073709551616 + v2 ∧ ((u0 * 18446744073709551616 + u1) * 18446744073709551616 + u2) / (v1 * 18446744073709551616 + v2) < 18446744073709551616
  same : u0 = v1 → S / V ≤ 18446744073709551615 ∧ 18446744073709551615 ≤ S / V + 1
  top : j = m → S < V
  Vpos : 0 < V
theorem db_open {V U0 n m j k : Nat} {us ds vs : List Nat} (h : DbInv V U0 n m us ds (j + 1)) (hv : ∀ d ∈ vs, d < 18446744073709551616) (hV : valD 18446744073709551616 vs = V) (hk : vs.length = k + 2) (hn : n = k + 2) (hb : 9223372036854775808 ≤ vs[k + 1]) :
    ∃ S, DbOpen V us vs n m j S (us.getD (j + n) 0) (us[j + k + 1]'(by have := h.ulen; have := h.tle; omega)) (us[j + k]'(by have := h.ulen; have := h.tle; omega)) vs[k + 1] vs[k] := by
  have hj : j ≤ m := by have := h.tle; omega
  have hl := h.ulen
  subst hn
  have hu : ∀ d ∈ us ++ [0], d < 18446744073709551616 := by
    intro d hd
    rcases List.mem_append.1 hd with h1 | h1
    · exact h.uw d h1
    · rw [List.mem_singleton.1 h1]; decide
  have hlt : valD 18446744073709551616 (us ++ [0]) < valD 18446744073709551616 vs * 18446744073709551616 ^ (j + 1) := by
    rw [valD_zero_end, hV]
    exact Nat.lt_of_lt_of_le h.lt (Nat.mul_le_mul_left _ (Nat.pow_le_pow_right (by decide) (Nat.min_le_left _ _)))
  obtain ⟨S, V2, hD⟩ := digit_of hu hv hk (j := j) (by simp; omega) hlt
  have hV2 : V2 = V := by rw [← hV, hD.vs_eq]
  subst hV2
  have e0 : (us ++ [0])[j + (k + 2)]'(by simp; omega) = us.getD (j + (k + 2)) 0 := by
    rw [List.getD_eq_getElem?_getD]
    by_cases h1 : j + (k + 2) < us.length
    · rw [List.getElem_append_left h1, List.getElem?_eq_getElem h1]; rfl
    · rw [List.getElem_append_right (by omega), List.getElem?_eq_none (by omega)]; simp
  have e1 : (us ++ [0])[j + (k + 1)]'(by simp; omega) = us[j + k + 1]'(by omega) := List.getElem_append_left (by omega)
  have e2 : (us ++ [0])[j + k]'(by simp; omega) = us[j + k]'(by omega) := List.getElem_append_left (by omega)
  rw [e0, e1, e2] at hD
  have hsect := hD.sect
  rw [show k + 3 = (k + 2) + 1 from rfl, win_zero hl hj] at hsect
  have hus := hD.us_eq
  rw [valD_zero_end, List.take_append_of_le_length (by omega)] at hus
  have hVp : 0 < V2 := by
    rcases Nat.eq_zero_or_pos V2 with h0 | h0
    · have := hD.lt; rw [h0, Nat.zero_mul] at this; exact absurd this (Nat.not_lt_zero _)
    · exact h0
  refine ⟨S, ⟨hsect, hus, hD.u0_le, hD.words, hb, fun h1 => hD.guess hb h1, fun h1 => hD.most hb h1, ?_, hVp⟩⟩
  intro hjm
  subst hjm
  have h2 := h.lt
  rw [Nat.min_eq_right (Nat.le_succ _), hus, Nat.mul_comm V2] at h2
  exact Nat.lt_of_mul_lt_mul_left (a := 18446744073709551616 ^ j) (by omega)
theorem mem_over {zs outs : List Nat} {o : Nat} (hz : ∀ d ∈ zs, d < 18446744073709551616) (ho : ∀ d ∈ outs, d < 18446744073709551616) : ∀ d ∈ over zs o outs, d < 18446744073709551616 := by
  intro d hd
  unfold over at hd
  simp only [List.mem_append] at hd
  rcases hd with (h | h) | h
  · exact hz d (List.mem_of_mem_take h)
  · exact ho d h
  · exact hz d (List.mem_of_mem_drop h)
/-- What a round leaves. -/
theorem db_done {V U0 n m j S u0 u1 u2 v1 v2 : Nat} {us ds vs R : List Nat} (h : DbInv V U0 n m us ds (j + 1)) (ho : DbOpen V us vs n m j S u0 u1 u2 v1 v2) (hR : R.length = winL n m j) (hRw : ∀ d ∈ R, d < 18446744073709551616) (hv : valD 18446744073709551616 R = S % V) (hq : S / V < 18446744073709551616) :
    DbInv V U0 n m (over us j R) (if j < m then S / V :: ds else ds) j ∧ (¬ j < m → S / V = 0) := by
  have hj : j ≤ m := by have := h.tle; omega
  have hl := h.ulen
  have hjR : j + R.length ≤ us.length := by rw [hR]; unfold winL; split <;> omega
  have hov := over_val hjR
  rw [hR, ho.sect, hv] at hov
  have hlow : valD 18446744073709551616 (us.take j) < 18446744073709551616 ^ j := by
    have := valD_lt_pow (all_take h.uw j)
    rwa [List.length_take, Nat.min_eq_left (by omega)] at this
  obtain ⟨s1, s2⟩ := db_step (D := valD 18446744073709551616 ds) ho.us_eq hov (Nat.div_add_mod S V).symm (Nat.mod_lt _ ho.Vpos) hlow
  by_cases hjm : j < m
  · rw [if_pos hjm]
    refine ⟨⟨by rw [over_length hjR]; exact hl, mem_over h.uw hRw, ?_, ?_, by omega, by rw [Nat.min_eq_left hj]; exact s1, ?_⟩, fun hn => absurd hjm hn⟩
    · rw [List.length_cons, h.dlen, Nat.min_eq_left hj, Nat.min_eq_left (by omega)]; omega
    · intro d hd
      rcases List.mem_cons.1 hd with rfl | hd
      · exact hq
      · exact h.dw d hd
    · rw [Nat.min_eq_left hj]
      have h3 := h.eq
      rw [Nat.min_eq_left (by omega)] at h3
      show _ + V * (18446744073709551616 ^ j * (S / V + 18446744073709551616 * valD 18446744073709551616 ds)) = _
      rw [s2, h3]
  · obtain rfl : j = m := by omega
    have hS := ho.top rfl
    rw [if_neg hjm]
    have hmod : S % V = S := Nat.mod_eq_of_lt hS
    rw [hmod] at hov
    have hov2 : valD 18446744073709551616 (over us j R) = valD 18446744073709551616 us := by omega
    refine ⟨⟨by rw [over_length hjR]; exact hl, mem_over h.uw hRw, ?_, h.dw, by omega, ?_, ?_⟩, fun _ => Nat.div_eq_of_lt hS⟩
    · rw [h.dlen, Nat.min_eq_right (by omega), Nat.min_self]
    · have h3 := h.lt
      rw [Nat.min_eq_right (by omega)] at h3
      rw [hov2, Nat.min_self]
      exact h3
    · have h3 := h.eq
      rw [Nat.min_eq_right (by omega)] at h3
      rw [hov2, Nat.min_self]
      exact h3

set_option maxRecDepth 100000 in
set_option maxHeartbeats 1000000 in
theorem mulWW_walk (x y : Nat) (w : World) (hx : x < 18446744073709551616) (hy : y < 18446744073709551616) :
    Calls Tryz.prog 161 #[.int .u64 x, .int .u64 y] w fun e w' => e = .returned (.tuple #[.int .u64 ((x * y / 18446744073709551616 : Nat) : Int), .int .u64 ((x * y % 18446744073709551616 : Nat) : Int)]) ∧ w = w' := by
  have HM := Lib.hid (bitsMul_walk x y w hx hy)
  obtain ⟨a, ha⟩ : ∃ a, x * y / 18446744073709551616 = a := ⟨_, rfl⟩
  obtain ⟨b, hb⟩ : ∃ b, x * y % 18446744073709551616 = b := ⟨_, rfl⟩
  rw [ha, hb] at HM ⊢
  clear ha hb
  go_enter Tryz.func161, Tryz.ntmps161
  go_wp2_with fail
  refine HM.out.mono ?_
  rintro e w1 ⟨rfl, rfl⟩
  go_wp2_with fail
  go_ret2
  exact ⟨rfl, rfl⟩

set_option maxRecDepth 100000 in
set_option maxHeartbeats 1000000 in
theorem greaterThan_walk (x1 x2 y1 y2 : Nat) (w : World) (hx : x2 < 18446744073709551616) (hy : y2 < 18446744073709551616) :
    Calls Tryz.prog 234 #[.int .u64 x1, .int .u64 x2, .int .u64 y1, .int .u64 y2] w fun e w' => e = .returned (.bool (decide (y1 * 18446744073709551616 + y2 < x1 * 18446744073709551616 + x2))) ∧ w = w' := by
  obtain ⟨b, hb⟩ : ∃ b, decide (y1 * 18446744073709551616 + y2 < x1 * 18446744073709551616 + x2) = b := ⟨_, rfl⟩
  rw [hb]
  by_cases h1 : y1 < x1
  · have e : b = true := by rw [← hb, decide_eq_true_eq]; omega
    subst e
    have h1i : (y1 : Int) < x1 := by omega
    go_enter Tryz.func234, Tryz.ntmps234
    go_wp2_with fail
    go_ret
    exact ⟨rfl, rfl⟩
  · by_cases h2 : x1 = y1
    · subst h2
      have e : decide (y2 < x2) = b := by rw [← hb]; exact decide_eq_decide.2 (by omega)
      go_enter Tryz.func234, Tryz.ntmps234
      go_wp2_with fail
      go_ret
      exact ⟨rfl, rfl⟩
    · have e : b = false := by rw [← hb, decide_eq_false_iff_not]; omega
      subst e
      have h1i : ¬ (y1 : Int) < x1 := by omega
      have h2i : ((x1 : Int) == y1) = false := beq_eq_false_iff_ne.2 (by omega)
      go_enter Tryz.func234, Tryz.ntmps234
      go_wp2_with fail
      go_ret
      exact ⟨rfl, rfl⟩
end Go.Proofs.YtapfolgiafnllaaGreatDoor

/-
  math/big's rshVU: a number of words, shifted down in its own place.
-/
namespace Go.Proofs.YtapfolgiafnllaaGreatDoor
open Go.RowKit

theorem rshC_at {s : Nat} {xs : List Nat} {i : Nat} (h : i < xs.length) : (rshC s xs)[i]'(by rw [rshC_length]; exact h) = xs[i] / 2 ^ s + xs.getD (i + 1) 0 * 2 ^ (64 - s) % 18446744073709551616 := by
  have h1 := rshC_get s xs i h
  rw [List.getElem?_eq_getElem (by rw [rshC_length]; exact h)] at h1
  exact Option.some.inj h1
theorem over_next {zs L : List Nat} {k : Nat} (hk : k < L.length) (hz : L.length ≤ zs.length) : (over zs 0 (L.take k)).set k (L[k]) = over zs 0 (L.take (k + 1)) := by
  have hl : (L.take k).length = k := by rw [List.length_take]; omega
  have e := over_set (zs := zs) (outs := L.take k) (o := 0) (v := L[k]) (by rw [hl]; omega)
  rw [hl, Nat.zero_add] at e
  rw [e, List.take_succ_eq_append_getElem hk]
theorem over_same {zs L : List Nat} {k i : Nat} (hi : k ≤ i) (hk : k ≤ L.length) (hz : L.length ≤ zs.length) : (over zs 0 (L.take k))[i]? = zs[i]? := by
  have hl : (L.take k).length = k := by rw [List.length_take]; omega
  rw [over_getElem? (by rw [hl]; omega), if_neg (by omega), hl, if_neg (by omega)]
/-- The read of a word that the loop has left alone. -/
theorem row_same {w : World} {g : Nat} {zs L : List Nat} {k i : Nat} (h : Row w g .u64 106 (over zs 0 (L.take k))) (hi : k ≤ i) (hk : k ≤ L.length) (hz : L.length ≤ zs.length) (hiz : i < zs.length) : w.cell? ⟨g, i, none⟩ = some (.int .u64 (zs[i] : Int)) := by
  have h1 := over_same (zs := zs) hi hk hz
  have hlen : i < (over zs 0 (L.take k)).length := by rw [over_length (by rw [List.length_take]; omega)]; exact hiz
  rw [List.getElem?_eq_getElem hiz, List.getElem?_eq_getElem hlen] at h1
  rw [h.cell hlen, Option.some.inj h1]

/-- rshVU's loop: the words below i - 1 have been shifted. -/
def RshRel (w : World) (g : Nat) (zs : List Nat) (n s : Nat) (iv : Value) (wr : World) : Prop :=
  ∃ i : Nat, iv = .int .i64 (i : Int) ∧ 1 ≤ i ∧ i ≤ n ∧ Row wr g .u64 106 (over zs 0 ((rshC s (zs.take n)).take (i - 1))) ∧ Ext (fun b => b = g) w wr ∧ wr.heap.size = w.heap.size
def RshPost (w : World) (g : Nat) (zs : List Nat) (n s : Nat) (e : Ending) (w' : World) : Prop :=
  (∃ c : Nat, e = .returned (.int .u64 (c : Int))) ∧ Row w' g .u64 106 (over zs 0 (rshC s (zs.take n))) ∧ Ext (fun b => b = g) w w' ∧ w'.heap.size = w.heap.size

set_option maxRecDepth 100000 in
set_option maxHeartbeats 4000000 in
theorem rshVU_g_walk (g : Nat) (zs : List Nat) (n cz cx s : Nat) (w : World) (hrow : Row w g .u64 106 zs) (hz : n ≤ zs.length)
    (hxw : ∀ d ∈ zs, d < 18446744073709551616) (hl : n ≤ 1000000) (hl0 : 0 < n) (hs1 : 1 ≤ s) (hs2 : s < 64) :
    Calls Tryz.prog 236 #[.slice (some ⟨g, 0, none⟩) n cz, .slice (some ⟨g, 0, none⟩) n cx, .int .u64 s] w (RshPost w g zs n s) := by
  have hsb : ((s : Int) == 0) = false := beq_eq_false_iff_ne.2 (by omega)
  have hs3 : (1 : Int) ≤ s := by omega
  have hs4 : (s : Int) < 64 := by omega
  have hm1 := mask63 s hs2
  obtain ⟨t, ht⟩ : ∃ t, 64 - s = t := ⟨_, rfl⟩
  have hm2 := mask63 t (by omega)
  have hts : (64 : Int) - s = (t : Int) := by omega
  have ht0 : (0 : Int) ≤ t := by omega
  have ht1 : (t : Int) < 64 := by omega
  have hnn : (n : Int) ≤ 1000000 := by omega
  have hn0 : (0 : Int) < n := by omega
  have hnb : ((n : Int) == 0) = false := beq_eq_false_iff_ne.2 (by omega)
  have hc0 := hrow.cell (j := 0) (by omega)
  obtain ⟨x0, hx0⟩ : ∃ x0, zs[0]'(by omega) = x0 := ⟨_, rfl⟩
  rw [hx0] at hc0
  obtain ⟨c0, hc00⟩ : ∃ c0, x0 * 2 ^ t % 18446744073709551616 = c0 := ⟨_, rfl⟩
  have q1 := shl_int x0 t c0 hc00
  have HXW := Lib.hid hxw
  have HR := Lib.hid hrow
  have HT := Lib.hid ht
  have HZ := Lib.hid hz
  clear hxw hrow hx0 hc00 ht
  unfold RshPost
  go_enter Tryz.func236, Tryz.ntmps236
  go_wp2_with fail
  clear q1 hm1 hm2 hts hc0
  go_loopw [8] (fun iv wr => RshRel w g zs n s iv wr) (fun iv _ => n - idxN iv)
  case atStart => exact ⟨1, rfl, Nat.le_refl _, hl0, by rw [Nat.sub_self, List.take_zero, over_nil]; exact HR.out, Ext.refl _ _, rfl⟩
  case round =>
    obtain ⟨i, rfl, hi1, hi, hrow, hx, hsz⟩ := hrel
    obtain ⟨k, hki⟩ : ∃ k, i - 1 = k := ⟨_, rfl⟩
    rw [hki] at hrow
    have hik1 : i = k + 1 := by omega
    have hLl : (rshC s (zs.take n)).length = n := by rw [rshC_length, List.length_take]; have := HZ.out; omega
    have hkn : k < (zs.take n).length := by rw [List.length_take]; have := HZ.out; omega
    have hLk := rshC_at (s := s) hkn
    have hkL : k < (rshC s (zs.take n)).length := by rw [hLl]; omega
    have hkz : k < zs.length := by have := HZ.out; omega
    have ck := row_same hrow (Nat.le_refl k) (Nat.le_of_lt hkL) (by rw [hLl]; exact HZ.out) hkz
    have hst : ∀ (w2 : World) (v : Nat), (rshC s (zs.take n))[k]'hkL = v → Row w2 g .u64 106 (over zs 0 ((rshC s (zs.take n)).take k)) → Row (w2.setCell ⟨g, k, none⟩ (.int .u64 (v : Int))) g .u64 106 (over zs 0 ((rshC s (zs.take n)).take (k + 1))) := by
      intro w2 v hv h2
      rw [← over_next hkL (by rw [hLl]; exact HZ.out), ← hv]
      exact h2.set _ _
    have HST := Lib.hid hst
    have hxk : zs[k] < 18446744073709551616 := HXW.out _ (List.getElem_mem _)
    rw [List.getElem_take] at hLk
    obtain ⟨xk, hxke⟩ : ∃ xk, zs[k] = xk := ⟨_, rfl⟩
    rw [hxke] at hxk hLk ck
    obtain ⟨av, hav⟩ : ∃ av, xk / 2 ^ s = av := ⟨_, rfl⟩
    have g1 := shr_int xk s av hav
    have fk := hrow.free k
    have HROW := Lib.hid hrow
    have hik : (i : Int) - 1 = (k : Int) := by omega
    have hwk : IntKind.i64.wrap (k : Int) = (k : Int) := by rw [IntKind.wrap_i64]; omega
    have hk0 : (0 : Int) ≤ k := by omega
    have hk1 : (k : Int) < (n : Int) := by omega
    have hi0 : (0 : Int) ≤ i := by omega
    have hi2 : (i : Int) ≤ n := by omega
    by_cases hin : i = n
    · subst hin
      have hg0 : (zs.take i).getD (k + 1) 0 = 0 := by
        rw [List.getD_eq_getElem?_getD, List.getElem?_eq_none (by rw [List.length_take]; omega)]
        rfl
      rw [hg0, Nat.zero_mul, Nat.zero_mod, Nat.add_zero, hav] at hLk
      have HLK := Lib.hid hLk
      have hfin : over zs 0 ((rshC s (zs.take i)).take (k + 1)) = over zs 0 (rshC s (zs.take i)) := by rw [List.take_of_length_le (by rw [hLl]; omega)]
      have HF := Lib.hid hfin
      clear hrow hki hik1 hLl hLk hkz hst hxke hav hg0 hfin hxk
      go_wp2_with fail
      go_ret
      have h3 := HST.out wr _ HLK.out HROW.out
      rw [HF.out] at h3
      exact ⟨⟨_, rfl⟩, h3, Ext.setCell (D := fun b => b = g) (p := ⟨g, k, none⟩) hx (fun _ => rfl) _, by simpa [World.setCell] using hsz⟩
    · have hiz : i < zs.length := by have := HZ.out; omega
      have ci := row_same hrow (i := i) (by omega) (Nat.le_of_lt hkL) (by rw [hLl]; exact HZ.out) hiz
      have hxi : zs[i] < 18446744073709551616 := HXW.out _ (List.getElem_mem _)
      have hgi : (zs.take n).getD (k + 1) 0 = zs[i] := by
        rw [← hik1, List.getD_eq_getElem?_getD, List.getElem?_take, if_pos (by omega), List.getElem?_eq_getElem hiz]
        rfl
      rw [hgi] at hLk
      obtain ⟨xi, hxie⟩ : ∃ xi, zs[i] = xi := ⟨_, rfl⟩
      rw [hxie] at hLk ci hxi
      rw [HT.out] at hLk
      obtain ⟨bv, hbv⟩ : ∃ bv, xi * 2 ^ t % 18446744073709551616 = bv := ⟨_, rfl⟩
      have hts2 : 64 - t = s := by have := HT.out; omega
      obtain ⟨_, j1, j3⟩ := sh_join (s := t) (x := xi) (y := xk) (a := bv) (b := av) (by omega) hxk hbv (by rw [hts2]; exact hav)
      have g2 := shl_int xi t bv hbv
      rw [hbv, hav] at hLk
      rw [← hLk] at j1
      obtain ⟨lv, hlv⟩ : ∃ lv, (rshC s (zs.take n))[k]'hkL = lv := ⟨_, rfl⟩
      rw [hlv] at j1
      have HLV := Lib.hid hlv
      have hin2 : (i : Int) < n := by omega
      have HIN := Lib.hid (show i < n by omega)
      have HIK := Lib.hid hik1
      have hone : (i : Int) + 1 = ((i + 1 : Nat) : Int) := by omega
      have HONE := Lib.hid hone
      clear hrow hki hik1 hLl hLk hkz hst hxke hav hxk hin hiz hgi hxie hbv hts2 hlv hxi hone
      go_wp2_with fail
      go_still_tail 18, (by kernel_rfl)
      change wpList _ _ _ _ _ wr.drew
      go_wp2_with fail
      have h3 := HST.out wr.drew _ HLV.out (HROW.out.drew 1)
      have hin := HIN.out
      rw [HONE.out]
      exact ⟨⟨i + 1, rfl, by omega, by omega, by rw [Nat.add_sub_cancel, HIK.out]; exact h3, Ext.setCell (D := fun b => b = g) (p := ⟨g, k, none⟩) hx.drew (fun _ => rfl) _, by simpa [World.setCell] using hsz⟩, by simp only [idxN]; omega⟩

set_option maxRecDepth 100000 in
set_option maxHeartbeats 1000000 in
theorem rshAll_walk (g : Nat) (zs : List Nat) (n cz cx s : Nat) (w : World) (hrow : Row w g .u64 106 zs) (hz : n ≤ zs.length)
    (hxw : ∀ d ∈ zs, d < 18446744073709551616) (hl : n ≤ 1000000) (hl0 : 0 < n) (hs1 : 1 ≤ s) (hs2 : s < 64) :
    Calls Tryz.prog 213 #[.slice (some ⟨g, 0, none⟩) n cz, .slice (some ⟨g, 0, none⟩) n cx, .int .u64 s] w (RshPost w g zs n s) := by
  have HG := Lib.hid (rshVU_g_walk g zs n cz cx s w hrow hz hxw hl hl0 hs1 hs2)
  clear hrow hxw
  go_enter Tryz.func213, Tryz.ntmps213
  go_wp2_with fail
  refine HG.out.mono ?_
  rintro e w1 ⟨⟨c, rfl⟩, hp⟩
  have HP := Lib.hid hp
  clear hp
  go_wp2_with fail
  go_ret
  exact ⟨⟨c, rfl⟩, HP.out⟩
end Go.Proofs.YtapfolgiafnllaaGreatDoor

/-
  nat.sqr of numbers below 12 words, into a new number.
-/
namespace Go.Proofs.YtapfolgiafnllaaGreatDoor
open Go.RowKit

/-- basicSqrThreshold is 12, karatsubaSqrThreshold is 80. -/
def SqrIs (w : World) : Prop := w.cell? ⟨3, 0, none⟩ = some (.int .i64 12) ∧ w.cell? ⟨4, 0, none⟩ = some (.int .i64 80)
theorem SqrIs.below {w w' : World} (h : SqrIs w) (hb : Below w.heap.size w w') : SqrIs w' :=
  ⟨(hb.cell (by exact World.block_lt_of_cell? w _ h.1)).trans h.1, (hb.cell (by exact World.block_lt_of_cell? w _ h.2)).trans h.2⟩

set_option maxRecDepth 100000 in
set_option maxHeartbeats 8000000 in
theorem natSqrBig_walk (N : Nat) (A : Option Addr) (c : Nat) (w : World) (_hc : (wds N).length ≤ c) (_hcm : c ≤ 9223372036854775807) (hr : Rd w A (nums .u64 (wds N))) (hk : SqrIs w)
    (h2 : 2 ≤ (wds N).length) (h12 : (wds N).length < 12) (stk : Value) :
    Calls Tryz.prog 133 #[.slice none 0 0, stk, .slice A (wds N).length c] w (OwnPost w.heap.size w (N * N)) := by
  have hvx := wds_val N
  have hwx := wds_lt N
  obtain ⟨xs, hxs⟩ : ∃ xs, wds N = xs := ⟨_, rfl⟩
  rw [hxs] at _hc hr h2 h12 hvx hwx ⊢
  have hfx := rd_far hr (by intro e; rw [e] at h2; simp at h2)
  obtain ⟨n, hn⟩ : ∃ n, xs.length = n := ⟨_, rfl⟩
  rw [hn] at h2 h12 _hc ⊢
  have HRD := Lib.hid hr
  have HK := Lib.hid hk
  have HXL := Lib.hid hn
  have HV := Lib.hid hvx
  have HFX := Lib.hid hfx
  have HWX := Lib.hid hwx
  have hn0 : ((n : Int) == 0) = false := beq_eq_false_iff_ne.2 (by omega)
  have hn1 : ((n : Int) == 1) = false := beq_eq_false_iff_ne.2 (by omega)
  have hn12 : (n : Int) < 12 := by omega
  have hn80 : (n : Int) < 80 := by omega
  clear hr hk hn hvx hfx hwx hxs
  go_enter Tryz.func133, Tryz.ntmps133
  go_wp2_with fail
  refine (aliasNil_walk A n c _).mono ?_
  rintro e w8 ⟨rfl, n1, rfl⟩
  obtain ⟨w0, hw0⟩ : ∃ w0, w.drewN n1 = w0 := ⟨_, rfl⟩
  have hh : w0.heap = w.heap := by rw [← hw0]; rfl
  have hb0 : Below w.heap.size w w0 := by rw [← hw0]; exact below_drewN (Below.refl _ _) _
  have hr := rd_heap HRD.out hh
  have hk : SqrIs w0 := HK.out.below hb0
  have hfx : ∀ a, A = some a → a.block ≠ w0.heap.size := by rw [hh]; exact HFX.out
  have hM := make_new_walk none 0 0 (2 * n) w0 (by omega) (by omega) (Nat.le_refl _)
  have hroom : 2 * n ≤ roomFor (2 * n) ∧ roomFor (2 * n) ≤ 2 * n + 4 := by unfold roomFor; split <;> omega
  obtain ⟨R, hR⟩ : ∃ R, roomFor (2 * n) = R := ⟨_, rfl⟩
  rw [hR] at hM hroom
  have hi1 : ((2 * n : Nat) : Int) = 2 * (n : Int) := by omega
  rw [hi1] at hM
  have hrow := row_made w0 .u64 R 106
  have hr1 := hr.below (below_a1 w0 (.cells (madeCells #[.int .u64 0] R) 106))
  have hk1 := hk.below (below_a1 w0 (.cells (madeCells #[.int .u64 0] R) 106))
  have hb1 := below_a1 w0 (.cells (madeCells #[.int .u64 0] R) 106)
  have hz1 := heap_size_alloc w0 (.cells (madeCells #[.int .u64 0] R) 106)
  obtain ⟨w1, hw1⟩ : ∃ w1, w0.alloc (.cells (madeCells #[.int .u64 0] R) 106) = w1 := ⟨_, rfl⟩
  rw [hw1] at hM hrow hr1 hk1 hb1 hz1
  rw [hh] at hM hrow hfx hb1 hz1
  have hzl : (List.replicate R 0).length = R := List.length_replicate
  have hBM := basicMul_walk w.heap.size (List.replicate R 0) xs xs A A R c c w1 hrow (fun d hd => by rw [List.eq_of_mem_replicate hd]; decide) hr1 hfx hr1 hfx HWX.out HWX.out (by rw [hzl, HXL.out]; omega) (by rw [hzl]; omega) (by rw [HXL.out]; omega) (by omega) (by rw [HXL.out]; omega)
  have hnn : n + n = 2 * n := by omega
  rw [HXL.out, hzl, hnn] at hBM
  have HM := Lib.hid hM
  have HBM := Lib.hid hBM
  have HB1 := Lib.hid (hb0.trans hb1)
  have HZ1 := Lib.hid hz1
  have hka : w1.cell? ⟨3, 0, none⟩ = some (.int .i64 12) := hk1.1
  have hkb : w1.cell? ⟨4, 0, none⟩ = some (.int .i64 80) := hk1.2
  rw [hw0]
  clear hM hBM hrow hr hr1 hb1 hb0 hz1 hfx hzl hw1 hw0 hh hR hi1 hk hk1 hnn
  go_wp2_with fail
  refine HM.out.mono ?_
  rintro e w9 ⟨rfl, hw9⟩
  obtain rfl : w1 = w9 := hw9.symm
  clear hw9
  go_wp2_with fail
  refine HBM.out.mono ?_
  rintro e w2 ⟨rfl, T, hrow2, hTl, hTw, hv2, hx2, hs2⟩
  have hl3 : (T.take (2 * n)).length = 2 * n := by rw [List.length_take]; omega
  have hov : over T 0 (T.take (2 * n)) = T := by
    unfold over
    rw [Nat.zero_add, hl3, List.take_zero, List.nil_append, List.take_append_drop]
  rw [HXL.out, HV.out, show n + n = 2 * n by omega] at hv2
  obtain ⟨hown, htr, hrd⟩ := own_trim (zs := T) (outs := T.take (2 * n)) (B := w.heap.size) (S := N * N) (by rw [hov]; exact hrow2) (fun d hd => hTw d (List.mem_of_mem_take hd)) (by rw [hl3]; omega) (by omega) (Nat.le_refl _) hv2
  rw [hTl] at hown
  have hNW := norm_walk (some ⟨w.heap.size, 0, none⟩) R (T.take (2 * n)) w2 (by omega) (by omega) hrd
  rw [htr, hl3] at hNW
  have HNW := Lib.hid hNW
  have HOWN := Lib.hid hown
  have hbw : Below w.heap.size w w2 := HB1.out.trans (hx2.below (by have := HZ1.out; omega) (fun k hk => by omega))
  have HBW := Lib.hid hbw
  have hsz : w.heap.size ≤ w2.heap.size := by have := HZ1.out; omega
  have HSZ := Lib.hid hsz
  clear hNW hown hbw hrow2 hTw hx2 hs2 hv2 htr hrd hl3 hov hTl hsz
  go_wp2_with fail
  refine HNW.out.mono ?_
  rintro e w5 ⟨rfl, rfl⟩
  go_wp2_with fail
  go_ret
  exact ⟨_, R, rfl, HOWN.out, HBW.out, HSZ.out⟩
set_option maxRecDepth 100000 in
set_option maxHeartbeats 2000000 in
theorem natSqr1_walk (y : Nat) (A : Option Addr) (c : Nat) (w : World) (hc : 1 ≤ c) (_hcm : c ≤ 9223372036854775807) (hr : Rd w A (nums .u64 [y])) (hyw : y < 18446744073709551616) (stk : Value) :
    Calls Tryz.prog 133 #[.slice none 0 0, stk, .slice A 1 c] w (OwnPost w.heap.size w (y * y)) := by
  obtain ⟨a, rfl, ha⟩ := rd_cell hr (j := 0) (by simp)
  have e0 : a.add 0 = a := by unfold Addr.add; rw [if_pos rfl]
  rw [e0] at ha
  have ha2 : w.cell? a = some (.int .u64 (y : Int)) := ha
  have hc1 : (1 : Int) ≤ c := by omega
  have hM := make_new_walk none 0 0 2 w (by omega) (by omega) (Nat.le_refl _)
  have hroom : roomFor 2 = 6 := rfl
  rw [hroom] at hM
  have hrow := row_made w .u64 6 106
  have hb1 := below_a1 w (.cells (madeCells #[.int .u64 0] 6) 106)
  have hz1 := heap_size_alloc w (.cells (madeCells #[.int .u64 0] 6) 106)
  obtain ⟨w1, hw1⟩ : ∃ w1, w.alloc (.cells (madeCells #[.int .u64 0] 6) 106) = w1 := ⟨_, rfl⟩
  rw [hw1] at hM hrow hb1 hz1
  obtain ⟨g, hg⟩ : ∃ g, w.heap.size = g := ⟨_, rfl⟩
  rw [hg] at hM hrow hb1 hz1 ⊢
  have HM := Lib.hid hM
  have HW := Lib.hid (mulWW_walk y y w1 hyw hyw)
  obtain ⟨hi, hhi⟩ : ∃ a, y * y / 18446744073709551616 = a := ⟨_, rfl⟩
  obtain ⟨lo, hlo⟩ : ∃ a, y * y % 18446744073709551616 = a := ⟨_, rfl⟩
  rw [hhi, hlo] at HW
  have hhiw : hi < 18446744073709551616 := by
    rw [← hhi]
    exact Nat.div_lt_of_lt_mul (Nat.mul_lt_mul'' hyw hyw)
  have hlow : lo < 18446744073709551616 := by rw [← hlo]; exact Nat.mod_lt _ (by decide)
  have hval : lo + 18446744073709551616 * hi = y * y := by rw [← hhi, ← hlo]; exact Nat.mod_add_div _ _
  have c1 := hrow.cell (j := 1) (by simp)
  have f1 := hrow.free 1
  have hrow2 := hrow.set 1 hi
  have c0 := hrow2.cell (j := 0) (by simp)
  have f0 := hrow2.free 0
  have hrow3 := hrow2.set 0 lo
  have hov : ((List.replicate 6 0).set 1 hi).set 0 lo = over (List.replicate 6 0) 0 [lo, hi] := rfl
  rw [hov] at hrow3
  obtain ⟨hown, htr, hrd⟩ := own_trim (B := g) (S := y * y) hrow3 (fun d hd => by simp at hd; omega) (by simp) (by simp) (Nat.le_refl _) (by simp [valD]; exact hval)
  have hzl : (List.replicate 6 0).length = 6 := rfl
  rw [hzl] at hown
  have hNW := norm_walk (some ⟨g, 0, none⟩) 6 [lo, hi] _ (by simp) (by omega) hrd
  rw [htr] at hNW
  have hl2 : [lo, hi].length = 2 := rfl
  rw [hl2] at hNW
  have HNW := Lib.hid hNW
  have HOWN := Lib.hid hown
  have HB := Lib.hid ((hb1.setCell (p := ⟨g, 1, none⟩) (Nat.le_refl _) (.int .u64 (hi : Int))).setCell (p := ⟨g, 0, none⟩) (Nat.le_refl _) (.int .u64 (lo : Int)))
  have HSZ : Hid (g ≤ ((w1.setCell ⟨g, 1, none⟩ (.int .u64 (hi : Int))).setCell ⟨g, 0, none⟩ (.int .u64 (lo : Int))).heap.size) := Lib.hid (by rw [World.size_setCell, World.size_setCell]; omega)
  clear hM hNW hown hrow hrow2 hrow3 hrd htr hov hval hhi hlo hw1 hb1 hz1 hr ha e0 hhiw hlow hzl hl2 hyw hroom
  go_enter Tryz.func133, Tryz.ntmps133
  go_wp2_with fail
  refine HM.out.mono ?_
  rintro e w9 ⟨rfl, hw9⟩
  obtain rfl : w1 = w9 := hw9.symm
  clear hw9
  go_wp2_with fail
  refine HW.out.mono ?_
  rintro e w3 ⟨rfl, h3⟩
  subst h3
  go_wp2_with fail
  refine HNW.out.mono ?_
  rintro e w5 ⟨rfl, h5⟩
  subst h5
  go_wp2_with fail
  go_ret
  subst hg
  exact ⟨_, 6, rfl, HOWN.out, HB.out, HSZ.out⟩

set_option maxRecDepth 100000 in
set_option maxHeartbeats 2000000 in
theorem natSqr_walk (N : Nat) (A : Option Addr) (c : Nat) (w : World) (hc : (wds N).length ≤ c) (hcm : c ≤ 9223372036854775807) (hr : Rd w A (nums .u64 (wds N))) (hk : SqrIs w) (h12 : (wds N).length < 12) (stk : Value) :
    Calls Tryz.prog 133 #[.slice none 0 0, stk, .slice A (wds N).length c] w (OwnPost w.heap.size w (N * N)) := by
  by_cases h2 : 2 ≤ (wds N).length
  · exact natSqrBig_walk N A c w hc hcm hr hk h2 h12 stk
  · by_cases h0 : (wds N).length = 0
    · have hN : N = 0 := (toD_nil_iff (b := 18446744073709551616) (by decide)).1 (List.length_eq_zero_iff.1 h0)
      subst hN
      rw [h0, Nat.mul_zero]
      clear hr hk hc h0 h2 h12
      go_enter Tryz.func133, Tryz.ntmps133
      go_wp2_with fail
      go_ret
      exact ⟨none, 0, by rw [wds_zero]; rfl, .inl ⟨rfl, rfl, rfl⟩, Below.refl _ _, Nat.le_refl _⟩
    · have h1 : (wds N).length = 1 := by omega
      obtain ⟨y, hy⟩ := List.length_eq_one_iff.1 h1
      have hv := wds_val N
      have hw := wds_lt N
      rw [hy] at hv hw hr
      have e1 : valD 18446744073709551616 [y] = y := by simp [valD]
      rw [e1] at hv
      subst hv
      rw [h1]
      exact natSqr1_walk y A c w (by omega) hcm hr (hw y (by simp)) stk
end Go.Proofs.YtapfolgiafnllaaGreatDoor
