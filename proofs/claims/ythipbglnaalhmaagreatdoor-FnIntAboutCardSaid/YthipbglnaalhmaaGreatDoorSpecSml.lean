/-
  The reference's Small and Sign.
-/
import Derived.Test.YthipbglnaalhmaaGreatDoorSpecUns
namespace Go.Proofs.YthipbglnaalhmaaGreatDoor
open Go.RowKit

set_option maxRecDepth 100000 in
set_option maxHeartbeats 1000000 in
theorem sign_walk (v : Value) (z : Int) (w : World) (hv : IsNum w v z) :
    Calls Tryz.prog 34 #[v] w fun e w' => e = .returned (.int .i64 (sgnC z)) ∧ Below w.heap.size w w' := by
  have hze := fun (w' : World) (v : Value) (h : IsNum w' v z) => zero_walk v z w' h
  obtain ⟨A, c, rfl, hc, hcm, hr⟩ := hv.open
  have HZ := Lib.hid (hze _ _ (hv.below (below_a1 w (.cells #[.bool (decide (z < 0)), .slice A (toD 10 z.natAbs).length c] 29))))
  have HK := Lib.hid (heap_here w (.cells #[.bool (decide (z < 0)), .slice A (toD 10 z.natAbs).length c] 29))
  obtain ⟨k, hk⟩ : ∃ k, (toD 10 z.natAbs).length = k := ⟨_, rfl⟩
  rw [hk] at HZ HK ⊢
  clear hr hv hc hcm hze hk
  by_cases h0 : z = 0
  · have hs : sgnC z = 0 := by unfold sgnC; rw [if_neg (by omega), if_pos h0]
    have hd : decide (z = 0) = true := decide_eq_true h0
    rw [hd] at HZ
    rw [hs]
    obtain ⟨b, hb⟩ : ∃ b, decide (z < 0) = b := ⟨_, rfl⟩
    rw [hb] at HZ HK ⊢
    clear hs hd hb h0
    go_enter Tryz.func34, Tryz.ntmps34
    go_wp2_with fail
    refine HZ.out.mono ?_
    rintro e w1 ⟨rfl, hb1⟩
    have HB1 := Lib.hid hb1
    clear hb1
    go_wp2_with fail
    go_ret
    exact ⟨rfl, bt (below_a1 _ _) HB1.out⟩
  · have hd : decide (z = 0) = false := decide_eq_false h0
    rw [hd] at HZ
    by_cases hn : z < 0
    · have hs : sgnC z = -1 := by unfold sgnC; rw [if_pos hn]
      have hb : decide (z < 0) = true := decide_eq_true hn
      rw [hs]
      rw [hb] at HZ HK ⊢
      clear hs hd hb h0 hn
      go_enter Tryz.func34, Tryz.ntmps34
      go_wp2_with fail
      refine HZ.out.mono ?_
      rintro e w1 ⟨rfl, hb1⟩
      have c0 := num_cell0 ((hb1.block w.heap.size (by rw [heap_size_alloc]; omega)).trans HK.out)
      have HB1 := Lib.hid hb1
      clear hb1
      go_wp2_with fail
      go_ret
      exact ⟨rfl, bt (below_a1 _ _) HB1.out⟩
    · have hs : sgnC z = 1 := by unfold sgnC; rw [if_neg hn, if_neg h0]
      have hb : decide (z < 0) = false := decide_eq_false hn
      rw [hs]
      rw [hb] at HZ HK ⊢
      clear hs hd hb h0 hn
      go_enter Tryz.func34, Tryz.ntmps34
      go_wp2_with fail
      refine HZ.out.mono ?_
      rintro e w1 ⟨rfl, hb1⟩
      have c0 := num_cell0 ((hb1.block w.heap.size (by rw [heap_size_alloc]; omega)).trans HK.out)
      have HB1 := Lib.hid hb1
      clear hb1
      go_wp2_with fail
      go_ret
      exact ⟨rfl, bt (below_a1 _ _) HB1.out⟩

/-- The number as an int64. -/
def smlOk (z : Int) : Bool := decide (-9223372036854775808 ≤ z) && decide (z ≤ 9223372036854775807)
def smlZ (z : Int) : Int := if smlOk z = true then z else 0
def sgnOf (b : Bool) (n : Int) : Int := if b = true then -n else n
def SmlRel (N : Nat) (A : Option Addr) (b : Bool) (k0 c : Nat) (w : World) (n i : Value) (wr : World) : Prop :=
  ∃ k : Nat, n = .int .i64 (sgnOf b ((N / 10 ^ k : Nat) : Int)) ∧ i = .int .i64 ((k : Int) - 1) ∧ k ≤ k0 ∧ Below w.heap.size w wr ∧ wr.heap[w.heap.size]? = some (.cells #[.bool b, .slice A k0 c] 29 (0, 0))

set_option maxRecDepth 100000 in
set_option maxHeartbeats 8000000 in
theorem small_walk (v : Value) (z : Int) (w : World) (hv : IsNum w v z) (hl : (toD 10 z.natAbs).length ≤ 1000000) :
    Calls Tryz.prog 35 #[v] w fun e w' => e = .returned (.tuple #[.int .i64 (smlZ z), .bool (smlOk z)]) ∧ Below w.heap.size w w' := by
  obtain ⟨A, c, rfl, hc, hcm, hr⟩ := hv.open
  have HV := Lib.hid hv
  have HR := Lib.hid hr
  obtain ⟨b, hb⟩ : ∃ b, decide (z < 0) = b := ⟨_, rfl⟩
  obtain ⟨k0, hk0⟩ : ∃ k0, (toD 10 z.natAbs).length = k0 := ⟨_, rfl⟩
  rw [hb, hk0] at HV ⊢
  have hkept : (w.alloc (.cells #[.bool b, .slice A k0 c] 29)).cell? ⟨w.heap.size, 0, none⟩ = some (.bool b) ∧ (w.alloc (.cells #[.bool b, .slice A k0 c] 29)).cell? ⟨w.heap.size, 1, none⟩ = some (.slice A k0 c) ∧
      Below (w.alloc (.cells #[.bool b, .slice A k0 c] 29)).heap.size (w.alloc (.cells #[.bool b, .slice A k0 c] 29)) (w.alloc (.cells #[.bool b, .slice A k0 c] 29)) :=
    ⟨num_cell0 (heap_here _ _), num_cell1 (heap_here _ _), Below.refl _ _⟩
  have hkh := heap_here w (.cells #[.bool b, .slice A k0 c] 29)
  have hba := below_a1 w (.cells #[.bool b, .slice A k0 c] 29)
  obtain ⟨wa, hwa⟩ : ∃ wa, w.alloc (.cells #[.bool b, .slice A k0 c] 29) = wa := ⟨_, rfl⟩
  rw [hwa] at hkept hkh hba
  have HWA := Lib.hid hwa
  have HKH := Lib.hid hkh
  have HBA := Lib.hid hba
  have HK0 := Lib.hid hk0
  have HBB := Lib.hid hb
  have HL : Hid (k0 ≤ 1000000) := Lib.hid (by rw [← hk0]; exact hl)
  obtain ⟨s1, hs1⟩ : ∃ s1, sgnC (z - (-9223372036854775808)) = s1 := ⟨_, rfl⟩
  obtain ⟨s2, hs2⟩ : ∃ s2, sgnC (z - 9223372036854775807) = s2 := ⟨_, rfl⟩
  have HC1 := Lib.hid hs1
  have HC2 := Lib.hid hs2
  clear hr hv hwa hkh hba hk0 hl hb hc
  cases ho : smlOk z with
  | false =>
    have hu : smlZ z = 0 := by unfold smlZ; rw [ho]; rfl
    rw [hu]
    by_cases hlow : z < -9223372036854775808
    · have h1 : s1 < 0 := by rw [← hs1]; unfold sgnC; rw [if_pos (by omega)]; decide
      clear hu ho hs1 hs2 hlow
      go_enter Tryz.func35, Tryz.ntmps35
      go_upto_region 1 with fail
      rw [HWA.out]
      have c0 := hkept.1
      have c1 := hkept.2.1
      first
        | (go_region_with (first
            | (go_at_call 22; (with_reducible refine (of_walk (-9223372036854775808) _ (by decide)).mono ?_); rintro e w7 ⟨v7, rfl, hv7, hgr⟩; have HV7 := Lib.hid hv7; have HG7 := Lib.hid hgr; have c07 := (hgr.cell (by exact World.block_lt_of_cell? _ _ c0)).trans c0; have c17 := (hgr.cell (by exact World.block_lt_of_cell? _ _ c1)).trans c1; clear hv7 hgr)
            | (go_at_call 38; (with_reducible refine (cmp_walk _ v7 z (-9223372036854775808) _ (HV.out.below (bt HBA.out.drew HG7.out)) HV7.out).mono ?_); rw [HC1.out]; rintro e w8 ⟨rfl, hgr⟩; have HG8 := Lib.hid hgr; clear hgr)))
        | fail
      all_goals
        go_wp2_with fail
        exact bodyPost_ret (v := .tuple #[.int .i64 0, .bool false]) (by simp [results, Tryz.results35, go_sem]) rfl ⟨rfl, bt (bt HBA.out.drew HG7.out) HG8.out⟩
    · have h1 : decide (s1 < 0) = false := decide_eq_false (by rw [← hs1]; unfold sgnC; rw [if_neg (by omega)]; split <;> decide)
      have h2 : 0 < s2 := by
        have h := ho
        unfold smlOk at h
        rw [decide_eq_true (by omega : -9223372036854775808 ≤ z), Bool.true_and, decide_eq_false_iff_not] at h
        rw [← hs2]; unfold sgnC; rw [if_neg (by omega), if_neg (by omega)]; decide
      clear hu ho hs1 hs2 hlow
      go_enter Tryz.func35, Tryz.ntmps35
      go_upto_region 1 with fail
      rw [HWA.out]
      go_region_held3 (fun w' => w'.cell? ⟨w.heap.size, 0, none⟩ = some (.bool b) ∧ w'.cell? ⟨w.heap.size, 1, none⟩ = some (.slice A k0 c) ∧ Below wa.heap.size wa w')
        (first | exact un_drew hkept | exact un_grow (by assumption) hgr | assumption)
        (first
          | (go_at_call 22; (with_reducible refine (of_walk (-9223372036854775808) _ (by decide)).mono ?_); rintro e w7 ⟨v7, rfl, hv7, hgr⟩; have HV7 := Lib.hid hv7; clear hv7)
          | (go_at_call 22; (with_reducible refine (of_walk 9223372036854775807 _ (by decide)).mono ?_); rintro e w9 ⟨v9, rfl, hv9, hgr⟩; have HV9 := Lib.hid hv9; clear hv9)
          | (go_at_call 38; (with_reducible refine (cmp_walk _ v9 z 9223372036854775807 _ (HV.out.below (bt HBA.out (by go_split_ands; assumption))) HV9.out).mono ?_); rw [HC2.out]; rintro e w8 ⟨rfl, hgr⟩)
          | (go_at_call 38; (with_reducible refine (cmp_walk _ v7 z (-9223372036854775808) _ (HV.out.below (bt HBA.out (by go_split_ands; assumption))) HV7.out).mono ?_); rw [HC1.out]; rintro e w8 ⟨rfl, hgr⟩))
      all_goals
        have hB := (‹_ ∧ _ ∧ Below wa.heap.size wa w8›).2.2
        go_wp2_with fail
        exact bodyPost_ret (v := .tuple #[.int .i64 0, .bool false]) (by simp [results, Tryz.results35, go_sem]) rfl ⟨rfl, bt HBA.out hB⟩
  | true =>
    have hu : smlZ z = z := by unfold smlZ; rw [if_pos ho]
    have hzz : -9223372036854775808 ≤ z ∧ z ≤ 9223372036854775807 := by
      have h := ho
      unfold smlOk at h
      rw [Bool.and_eq_true, decide_eq_true_eq, decide_eq_true_eq] at h
      exact h
    have h1 : decide (s1 < 0) = false := decide_eq_false (by rw [← hs1]; unfold sgnC; rw [if_neg (by omega)]; split <;> decide)
    have h2 : decide (0 < s2) = false := decide_eq_false (by rw [← hs2]; unfold sgnC; split <;> (try split) <;> omega)
    obtain ⟨N, hN⟩ : ∃ N, z.natAbs = N := ⟨_, rfl⟩
    have hzs : z = sgnOf b (N : Int) := by
      have h := HBB.out
      unfold sgnOf
      cases b with
      | true => rw [if_pos rfl]; have := of_decide_eq_true h; omega
      | false => rw [if_neg (by decide)]; have := of_decide_eq_false h; omega
    have HZS := Lib.hid hzs
    have hNb : N ≤ 9223372036854775808 ∧ (b = false → N ≤ 9223372036854775807) := by
      refine ⟨by omega, fun hbf => ?_⟩
      have h := HBB.out
      rw [hbf] at h
      have := of_decide_eq_false h
      omega
    have HNB := Lib.hid hNb
    rw [hu]
    rw [hN] at HR HK0
    clear hu ho hs1 hs2 hzz hzs hNb hN
    go_enter Tryz.func35, Tryz.ntmps35
    go_upto_region 1 with fail
    rw [HWA.out]
    go_region_held3 (fun w' => w'.cell? ⟨w.heap.size, 0, none⟩ = some (.bool b) ∧ w'.cell? ⟨w.heap.size, 1, none⟩ = some (.slice A k0 c) ∧ Below wa.heap.size wa w')
      (first | exact un_drew hkept | exact un_grow (by assumption) hgr | assumption)
      (first
        | (go_at_call 22; (with_reducible refine (of_walk (-9223372036854775808) _ (by decide)).mono ?_); rintro e w7 ⟨v7, rfl, hv7, hgr⟩; have HV7 := Lib.hid hv7; clear hv7)
        | (go_at_call 22; (with_reducible refine (of_walk 9223372036854775807 _ (by decide)).mono ?_); rintro e w9 ⟨v9, rfl, hv9, hgr⟩; have HV9 := Lib.hid hv9; clear hv9)
        | (go_at_call 38; (with_reducible refine (cmp_walk _ v9 z 9223372036854775807 _ (HV.out.below (bt HBA.out (by go_split_ands; assumption))) HV9.out).mono ?_); rw [HC2.out]; rintro e w8 ⟨rfl, hgr⟩)
        | (go_at_call 38; (with_reducible refine (cmp_walk _ v7 z (-9223372036854775808) _ (HV.out.below (bt HBA.out (by go_split_ands; assumption))) HV7.out).mono ?_); rw [HC1.out]; rintro e w8 ⟨rfl, hgr⟩))
    all_goals
      have hB := (‹_ ∧ _ ∧ Below wa.heap.size wa w8›)
      have c0 := hB.1
      have c1 := hB.2.1
      have HB8 := Lib.hid (bt HBA.out hB.2.2)
      have HK8 := Lib.hid ((hB.2.2.block _ (iter_lt HKH.out)).trans HKH.out)
      have hl0 := HL.out
      clear hB
      go_wp2_with fail
      clear c0 c1
      go_loopw [4, 5] (fun n i wr => SmlRel N A b k0 c w n i wr) (fun _ i _ => (intOf i + 1).toNat)
      case atStart => exact ⟨k0, by rw [Nat.div_eq_of_lt (by rw [← HK0.out]; exact toD_lt_pow (by decide) N)]; unfold sgnOf; split <;> rfl, rfl, Nat.le_refl _, HB8.out, HK8.out⟩
      case round =>
        obtain ⟨k, rfl, rfl, hk, hbr, hkr⟩ := hrel
        have c0 := num_cell0 hkr
        have c1 := num_cell1 hkr
        have HK2 := Lib.hid hkr
        clear hkr
        match k with
        | 0 =>
          have h00 : ((0 : Nat) : Int) - 1 = -1 := by omega
          rw [h00, Nat.pow_zero, Nat.div_one, ← HZS.out]
          clear h00
          go_wp2_with fail
          exact bodyPost_ret (v := .tuple #[.int .i64 z, .bool true]) (by simp [results, Tryz.results35, go_sem]) rfl ⟨rfl, hbr⟩
        | m + 1 =>
          have e1 : ((m + 1 : Nat) : Int) - 1 = (m : Int) := by omega
          have hm1 : m < (toD 10 N).length := by rw [HK0.out]; omega
          have hg := toD_get m N hm1
          obtain ⟨d, hd⟩ : ∃ d, N / 10 ^ m % 10 = d := ⟨_, rfl⟩
          have hd10 : d < 10 := by rw [← hd]; exact Nat.mod_lt _ (by decide)
          have hst := div_step N m
          have hle : N / 10 ^ m ≤ N := Nat.div_le_self _ _
          have hN := HNB.out
          obtain ⟨q, hq⟩ : ∃ q, N / 10 ^ (m + 1) = q := ⟨_, rfl⟩
          obtain ⟨r, hr2⟩ : ∃ r, N / 10 ^ m = r := ⟨_, rfl⟩
          rw [hd, hq, hr2] at hst
          rw [hr2] at hle
          have hcell : ∃ x, A = some x ∧ wr.cell? (x.add m) = some (.int .u8 d) := by
            rcases HR.out.below hbr with h | ⟨x, rfl, h⟩
            · have := congrArg List.length h
              rw [u8s_length, List.length_nil] at this
              omega
            · exact ⟨x, rfl, h m _ (by simp [u8s, List.getElem?_eq_getElem hm1, hg, hd])⟩
          obtain ⟨x, rfl, hcell⟩ := hcell
          have hm3 : (0 : Int) ≤ (m : Int) := by omega
          have hm4 : (m : Int) < (k0 : Int) := by omega
          have hd0 : (0 : Int) ≤ (d : Int) := by omega
          have hd1 : (d : Int) < 10 := by omega
          have HR2 := Lib.hid hr2
          rw [e1, hq]
          cases b with
          | true =>
            have hr1 : r ≤ 9223372036854775808 := Nat.le_trans hle hN.1
            have hsq : sgnOf true (q : Int) = -(q : Int) := if_pos rfl
            have hsr : sgnOf true (r : Int) = -(r : Int) := if_pos rfl
            have hw1 : IntKind.i64.wrap (10 * -(q : Int)) = 10 * -(q : Int) := by rw [IntKind.wrap_i64]; omega
            have hw2 : IntKind.i64.wrap (10 * -(q : Int) - (d : Int)) = -(r : Int) := by rw [IntKind.wrap_i64]; omega
            have HSR := Lib.hid hsr
            rw [hsq]
            clear hst hle hN hq hr2 hd hg e1 hm1 hsr hsq
            go_wp2_with fail
            refine ⟨⟨m, by rw [HR2.out, HSR.out], rfl, by omega, hbr, HK2.out⟩, ?_⟩
            simp [intOf]
          | false =>
            have hr1 : r ≤ 9223372036854775807 := Nat.le_trans hle (hN.2 rfl)
            have hsq : sgnOf false (q : Int) = (q : Int) := if_neg (by decide)
            have hsr : sgnOf false (r : Int) = (r : Int) := if_neg (by decide)
            have hw1 : IntKind.i64.wrap (10 * (q : Int)) = 10 * (q : Int) := by rw [IntKind.wrap_i64]; omega
            have hw2 : IntKind.i64.wrap (10 * (q : Int) + (d : Int)) = (r : Int) := by rw [IntKind.wrap_i64]; omega
            have HSR := Lib.hid hsr
            rw [hsq]
            clear hst hle hN hq hr2 hd hg e1 hm1 hsr hsq
            go_wp2_with fail
            refine ⟨⟨m, by rw [HR2.out, HSR.out], rfl, by omega, hbr, HK2.out⟩, ?_⟩
            simp [intOf]
end Go.Proofs.YthipbglnaalhmaaGreatDoor
