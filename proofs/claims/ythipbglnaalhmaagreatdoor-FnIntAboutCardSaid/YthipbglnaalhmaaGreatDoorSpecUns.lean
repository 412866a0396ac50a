/-
  The reference's Unsigned and Zero.
-/
import Derived.Test.YthipbglnaalhmaaGreatDoorSpecFits
import Derived.Deep.RegionHeld3
import Derived.Deep.RegionWith
namespace Go.Proofs.YthipbglnaalhmaaGreatDoor
open Go.RowKit

theorem toD_get : ∀ (m N : Nat) (h : m < (toD 10 N).length), (toD 10 N)[m] = N / 10 ^ m % 10
  | 0, N, h => by
    have h0 : N ≠ 0 := by intro e; subst e; rw [toD_zero] at h; simp at h
    simp [toD_pos (b := 10) (by decide) h0]
  | m + 1, N, h => by
    have h0 : N ≠ 0 := by intro e; subst e; rw [toD_zero] at h; simp at h
    have e := toD_pos (b := 10) (by decide) h0
    simp only [e, List.getElem_cons_succ]
    rw [toD_get m (N / 10), Nat.div_div_eq_div_mul, Nat.pow_succ, Nat.mul_comm 10]
theorem div_step (N m : Nat) : 10 * (N / 10 ^ (m + 1)) + N / 10 ^ m % 10 = N / 10 ^ m := by
  rw [Nat.pow_succ, ← Nat.div_div_eq_div_mul]
  omega

set_option maxRecDepth 100000 in
set_option maxHeartbeats 1000000 in
theorem zero_walk (v : Value) (z : Int) (w : World) (hv : IsNum w v z) :
    Calls Tryz.prog 26 #[v] w fun e w' => e = .returned (.bool (decide (z = 0))) ∧ Below w.heap.size w w' := by
  obtain ⟨A, c, rfl, hc, hcm, hr⟩ := hv.open
  have hz : decide (z = 0) = ((toD 10 z.natAbs).length == 0) := by
    by_cases h : z = 0
    · subst h; rw [decide_eq_true rfl]; simp [toD_zero]
    · rw [decide_eq_false h]
      symm
      rw [beq_eq_false_iff_ne]
      intro h2
      have := (toD_nil_iff (by decide)).1 (List.eq_nil_of_length_eq_zero h2)
      omega
  rw [hz]
  clear hr hv hz
  go_enter Tryz.func26, Tryz.ntmps26
  go_wp2_with fail
  go_ret
  exact ⟨by congr 2; simp [Int.natCast_eq_zero, BEq.beq], below_a1 _ _⟩

/-- The number as a uint64. -/
def unsOk (z : Int) : Bool := decide (0 ≤ z) && decide (z < 18446744073709551616)
def unsZ (z : Int) : Int := if unsOk z = true then z else 0
theorem uns_cmp {z : Int} (h0 : 0 ≤ z) (h : unsOk z = false) : sgnC (z - ((18446744073709551615 : Nat) : Int)) = 1 := by
  unfold unsOk at h
  rw [decide_eq_true h0, Bool.true_and, decide_eq_false_iff_not] at h
  unfold sgnC
  rw [if_neg (by omega), if_neg (by omega)]
def UnsRel (N : Nat) (A : Option Addr) (b : Bool) (k0 c : Nat) (w : World) (n i : Value) (wr : World) : Prop :=
  ∃ k : Nat, n = .int .u64 ((N / 10 ^ k : Nat) : Int) ∧ i = .int .i64 ((k : Int) - 1) ∧ k ≤ k0 ∧ Below w.heap.size w wr ∧ wr.heap[w.heap.size]? = some (.cells #[.bool b, .slice A k0 c] 29 (0, 0))
theorem un_drew {w0 w1 : World} {a b : Addr} {u v : Value} (h : w1.cell? a = some u ∧ w1.cell? b = some v ∧ Below w0.heap.size w0 w1) : w1.drew.cell? a = some u ∧ w1.drew.cell? b = some v ∧ Below w0.heap.size w0 w1.drew := ⟨h.1, h.2.1, h.2.2.drew⟩
theorem un_grow {w0 w1 w2 : World} {a b : Addr} {u v : Value} (h : w1.cell? a = some u ∧ w1.cell? b = some v ∧ Below w0.heap.size w0 w1) (k : Below w1.heap.size w1 w2) : w2.cell? a = some u ∧ w2.cell? b = some v ∧ Below w0.heap.size w0 w2 :=
  ⟨(k.cell (by exact World.block_lt_of_cell? w1 _ h.1)).trans h.1, (k.cell (by exact World.block_lt_of_cell? w1 _ h.2.1)).trans h.2.1, bt h.2.2 k⟩

set_option maxRecDepth 100000 in
set_option maxHeartbeats 4000000 in
theorem unsigned64_walk (v : Value) (z : Int) (w : World) (hv : IsNum w v z) (hl : (toD 10 z.natAbs).length ≤ 1000000) :
    Calls Tryz.prog 24 #[v] w fun e w' => e = .returned (.tuple #[.int .u64 (unsZ z), .bool (unsOk z)]) ∧ Below w.heap.size w w' := by
  obtain ⟨A, c, rfl, hc, hcm, hr⟩ := hv.open
  by_cases hz : z < 0
  · have hb : decide (z < 0) = true := decide_eq_true hz
    have ho : unsOk z = false := by unfold unsOk; rw [decide_eq_false (by omega)]; rfl
    have hu : unsZ z = 0 := by unfold unsZ; rw [ho]; rfl
    rw [hb, ho, hu]
    clear hr hv
    go_enter Tryz.func24, Tryz.ntmps24
    go_upto_region 1 with fail
    have c0 := num_cell0 (heap_here w (.cells #[.bool true, .slice A (toD 10 z.natAbs).length c] 29))
    go_region
    go_wp2_with fail
    exact bodyPost_ret (v := .tuple #[.int .u64 0, .bool false]) (by simp [results, Tryz.results24, go_sem]) rfl ⟨rfl, (below_a1 _ _).drew⟩
  · have hb : decide (z < 0) = false := decide_eq_false hz
    have HV := Lib.hid hv
    have HR := Lib.hid hr
    rw [hb] at HV ⊢
    obtain ⟨k0, hk0⟩ : ∃ k0, (toD 10 z.natAbs).length = k0 := ⟨_, rfl⟩
    have hkept : (w.alloc (.cells #[.bool false, .slice A k0 c] 29)).cell? ⟨w.heap.size, 0, none⟩ = some (.bool false) ∧ (w.alloc (.cells #[.bool false, .slice A k0 c] 29)).cell? ⟨w.heap.size, 1, none⟩ = some (.slice A k0 c) ∧
        Below (w.alloc (.cells #[.bool false, .slice A k0 c] 29)).heap.size (w.alloc (.cells #[.bool false, .slice A k0 c] 29)) (w.alloc (.cells #[.bool false, .slice A k0 c] 29)) :=
      ⟨num_cell0 (heap_here _ _), num_cell1 (heap_here _ _), Below.refl _ _⟩
    have hkh := heap_here w (.cells #[.bool false, .slice A k0 c] 29)
    have hba := below_a1 w (.cells #[.bool false, .slice A k0 c] 29)
    obtain ⟨wa, hwa⟩ : ∃ wa, w.alloc (.cells #[.bool false, .slice A k0 c] 29) = wa := ⟨_, rfl⟩
    rw [hwa] at hkept hkh hba
    rw [hk0] at HV ⊢
    have HWA := Lib.hid hwa
    have HKH := Lib.hid hkh
    have HBA := Lib.hid hba
    have HK0 := Lib.hid hk0
    have HL : Hid (k0 ≤ 1000000) := Lib.hid (by rw [← hk0]; exact hl)
    clear hr hv hwa hkh hba hk0 hl hb
    cases ho : unsOk z with
    | false =>
      have hu : unsZ z = 0 := by unfold unsZ; rw [ho]; rfl
      have HC := Lib.hid (uns_cmp (by omega) ho)
      rw [hu]
      clear hu ho
      go_enter Tryz.func24, Tryz.ntmps24
      go_upto_region 1 with fail
      rw [HWA.out]
      go_region_held3 (fun w' => w'.cell? ⟨w.heap.size, 0, none⟩ = some (.bool false) ∧ w'.cell? ⟨w.heap.size, 1, none⟩ = some (.slice A k0 c) ∧ Below wa.heap.size wa w')
        (first | exact un_drew hkept | exact un_grow (by assumption) hgr | assumption)
        (first
          | (go_at_call 14; refine (ofUint_walk 18446744073709551615 _ (by decide)).mono ?_; rintro e w7 ⟨v7, rfl, hv7, hgr⟩; rw [dec10_eq] at hv7; have HV7 : Hid (IsNum w7 v7 ((18446744073709551615 : Nat) : Int)) := Lib.hid hv7; clear hv7)
          | (go_at_call 38; refine (cmp_walk _ v7 z ((18446744073709551615 : Nat) : Int) _ (HV.out.below (bt HBA.out (by go_split_ands; assumption))) HV7.out).mono ?_; rw [HC.out]; rintro e w8 ⟨rfl, hgr⟩))
      all_goals
        have hB := (‹_ ∧ _ ∧ Below wa.heap.size wa w8›).2.2
        go_wp2_with fail
        exact bodyPost_ret (v := .tuple #[.int .u64 0, .bool false]) (by simp [results, Tryz.results24, go_sem]) rfl ⟨rfl, bt HBA.out hB⟩
    | true =>
      have hu : unsZ z = z := by unfold unsZ; rw [if_pos ho]
      rw [hu]
      have hz2 : z < 18446744073709551616 ∧ 0 ≤ z := by
        have h := ho
        unfold unsOk at h
        rw [Bool.and_eq_true, decide_eq_true_eq, decide_eq_true_eq] at h
        exact ⟨h.2, h.1⟩
      obtain ⟨s, hs⟩ : ∃ s, sgnC (z - ((18446744073709551615 : Nat) : Int)) = s := ⟨_, rfl⟩
      have hsn : s ≤ 0 := by rw [← hs]; unfold sgnC; split <;> (try split) <;> omega
      have hsb : ¬ (0 < s) := by omega
      have HC := Lib.hid hs
      obtain ⟨N, rfl⟩ := Int.eq_ofNat_of_zero_le hz2.2
      have hN : N < 18446744073709551616 := by omega
      have HN := Lib.hid hN
      rw [Int.natAbs_natCast] at HR HK0
      clear hu ho hs hz hz2 hN
      go_enter Tryz.func24, Tryz.ntmps24
      go_upto_region 1 with fail
      rw [HWA.out]
      go_region_held3 (fun w' => w'.cell? ⟨w.heap.size, 0, none⟩ = some (.bool false) ∧ w'.cell? ⟨w.heap.size, 1, none⟩ = some (.slice A k0 c) ∧ Below wa.heap.size wa w')
        (first | exact un_drew hkept | exact un_grow (by assumption) hgr | assumption)
        (first
          | (go_at_call 14; refine (ofUint_walk 18446744073709551615 _ (by decide)).mono ?_; rintro e w7 ⟨v7, rfl, hv7, hgr⟩; rw [dec10_eq] at hv7; have HV7 : Hid (IsNum w7 v7 ((18446744073709551615 : Nat) : Int)) := Lib.hid hv7; clear hv7)
          | (go_at_call 38; refine (cmp_walk _ v7 (N : Int) ((18446744073709551615 : Nat) : Int) _ (HV.out.below (bt HBA.out (by go_split_ands; assumption))) HV7.out).mono ?_; rw [HC.out]; rintro e w8 ⟨rfl, hgr⟩))
      all_goals
        have hB := (‹_ ∧ _ ∧ Below wa.heap.size wa w8›)
        have c0 := hB.1
        have c1 := hB.2.1
        have HB8 := Lib.hid (bt HBA.out hB.2.2)
        have HK8 := Lib.hid ((hB.2.2.block _ (iter_lt HKH.out)).trans HKH.out)
        have hl0 := HL.out
        clear hB
        go_wp2_with fail
        clear c0 c1
        go_loopw [4, 5] (fun n i wr => UnsRel N A false k0 c w n i wr) (fun _ i _ => (intOf i + 1).toNat)
        case atStart => exact ⟨k0, by rw [Nat.div_eq_of_lt (by rw [← HK0.out]; exact toD_lt_pow (by decide) N)]; rfl, rfl, Nat.le_refl _, HB8.out, HK8.out⟩
        case round =>
          obtain ⟨k, rfl, rfl, hk, hbr, hkr⟩ := hrel
          have c0 := num_cell0 hkr
          have c1 := num_cell1 hkr
          have HK2 := Lib.hid hkr
          clear hkr
          match k with
          | 0 =>
            have h00 : ((0 : Nat) : Int) - 1 = -1 := by omega
            rw [h00, Nat.pow_zero, Nat.div_one]
            clear h00
            go_wp2_with fail
            exact bodyPost_ret (v := .tuple #[.int .u64 (N : Int), .bool true]) (by simp [results, Tryz.results24, go_sem]) rfl ⟨rfl, hbr⟩
          | m + 1 =>
            have e1 : ((m + 1 : Nat) : Int) - 1 = (m : Int) := by omega
            have hm1 : m < (toD 10 N).length := by rw [HK0.out]; omega
            have hg := toD_get m N hm1
            obtain ⟨d, hd⟩ : ∃ d, N / 10 ^ m % 10 = d := ⟨_, rfl⟩
            have hd10 : d < 10 := by rw [← hd]; exact Nat.mod_lt _ (by decide)
            have hst := div_step N m
            have hle : N / 10 ^ m ≤ N := Nat.div_le_self _ _
            have hN := HN.out
            obtain ⟨q, hq⟩ : ∃ q, N / 10 ^ (m + 1) = q := ⟨_, rfl⟩
            obtain ⟨r, hr2⟩ : ∃ r, N / 10 ^ m = r := ⟨_, rfl⟩
            rw [hd, hq, hr2] at hst
            rw [hr2] at hle
            have hcell : ∃ x, A = some x ∧ wr.cell? (x.add m) = some (.int .u8 d) := by
              rcases HR.out.below hbr with h | ⟨x, rfl, h⟩
              · have := congrArg List.length h
                rw [u8s_length, List.length_nil] at this
                omega
              · exact ⟨x, rfl, h m _ (by simp [u8s, List.getElem?_eq_getElem hm1, hg, hd])⟩
            obtain ⟨x, rfl, hcell⟩ := hcell
            have hw1 : IntKind.u64.wrap (10 * (q : Int)) = ((10 * q : Nat) : Int) := by rw [IntKind.wrap_u64]; omega
            have hw2 : IntKind.u64.wrap (((10 * q : Nat) : Int) + (d : Int)) = (r : Int) := by rw [IntKind.wrap_u64]; omega
            have hw3 : IntKind.u64.wrap (10 * (q : Int) + (d : Int)) = (r : Int) := by rw [IntKind.wrap_u64]; omega
            have hm3 : (0 : Int) ≤ (m : Int) := by omega
            have hm4 : (m : Int) < (k0 : Int) := by omega
            have hd0 : (0 : Int) ≤ (d : Int) := by omega
            have hd1 : (d : Int) < 10 := by omega
            have HR2 := Lib.hid hr2
            rw [e1, hq]
            clear hst hle hN hq hr2 hd hg e1 hm1
            go_wp2_with fail
            refine ⟨⟨m, by rw [HR2.out], rfl, by omega, hbr, HK2.out⟩, ?_⟩
            simp [intOf]
end Go.Proofs.YthipbglnaalhmaaGreatDoor
