/-
  The reference's Two and Fits.
-/
import Derived.Test.YtapfolgiafnllaaGreatDoorBn22Z
import Derived.Deep.RegionWith
namespace Go.Proofs.YtapfolgiafnllaaGreatDoor
open Go.RowKit

/-- Block g holds the number z. -/
def NumAt (w : World) (g : Nat) (z : Int) : Prop :=
  ∃ A c, w.heap[g]? = some (.cells #[.bool (decide (z < 0)), .slice A (toD 10 z.natAbs).length c] 25 (0, 0)) ∧ (toD 10 z.natAbs).length ≤ c ∧ c ≤ 9223372036854775807 ∧ Rd w A (u8s (toD 10 z.natAbs))
theorem NumAt.below {w w' : World} {g : Nat} {z : Int} (h : NumAt w g z) (hb : Below w.heap.size w w') : NumAt w' g z := by
  obtain ⟨A, c, h1, h2, h3, h4⟩ := h
  exact ⟨A, c, (hb.block g (iter_lt h1)).trans h1, h2, h3, h4.below hb⟩
theorem NumAt.put {w : World} {g : Nat} {b : Bool} {B : Option Addr} {n d : Nat} {A : Option Addr} {c : Nat} {z : Int} (hk : w.heap[g]? = some (.cells #[.bool b, .slice B n d] 25 (0, 0)))
    (h2 : (toD 10 z.natAbs).length ≤ c) (h3 : c ≤ 9223372036854775807) (h4 : Rd w A (u8s (toD 10 z.natAbs))) :
    NumAt ((w.setCell ⟨g, 0, none⟩ (.bool (decide (z < 0)))).setCell ⟨g, 1, none⟩ (.slice A (toD 10 z.natAbs).length c)) g z :=
  ⟨A, c, cells_set (cells_set hk 0 _) 1 _, h2, h3, rd_set2 hk h4⟩
theorem NumAt.new {w : World} {A : Option Addr} {c : Nat} {z : Int} (h2 : (toD 10 z.natAbs).length ≤ c) (h3 : c ≤ 9223372036854775807) (h4 : Rd w A (u8s (toD 10 z.natAbs))) :
    NumAt (w.alloc (.cells #[.bool (decide (z < 0)), .slice A (toD 10 z.natAbs).length c] 25)) w.heap.size z :=
  ⟨A, c, heap_here _ _, h2, h3, h4.below (below_a1 _ _)⟩

/-- The result's block, as yet untouched. -/
def Blank (w : World) (g : Nat) : Prop := w.heap[g]? = some (.cells #[.bool false, .slice none 0 0] 25 (0, 0))
theorem Blank.below {w w' : World} {g : Nat} (h : Blank w g) (hb : Below w.heap.size w w') : Blank w' g := (hb.block g (iter_lt h)).trans h
theorem Blank.set {w : World} {g k : Nat} (h : Blank w g) (u v : Value) (hne : g ≠ k) : Blank ((w.setCell ⟨k, 0, none⟩ u).setCell ⟨k, 1, none⟩ v) g := (one_other hne).trans ((one_other hne).trans h)

theorem shl_of {m : Nat} (h : m < 63) : IntKind.i64.wrap (2 ^ min (IntKind.u64.wrap (m : Int)).toNat 64) = ((2 ^ m : Nat) : Int) := by
  have e : IntKind.u64.wrap (m : Int) = m := by rw [IntKind.wrap_u64]; omega
  rw [e, Int.toNat_natCast, Nat.min_eq_left (by omega), IntKind.wrap_i64]
  have h2 : 2 ^ m ≤ 2 ^ 62 := Nat.pow_le_pow_right (by decide) (by omega)
  have e2 : (2 : Int) ^ m = ((2 ^ m : Nat) : Int) := by simp
  rw [e2]
  obtain ⟨p, hp⟩ : ∃ p, 2 ^ m = p := ⟨_, rfl⟩
  rw [hp] at h2 ⊢
  omega
def TwoRel (n0 : Nat) (w : World) (gx : Nat) (nv : Value) (wr : World) : Prop := ∃ (m k : Nat), nv = .int .i64 m ∧ 50 * k + m = n0 ∧ NumAt wr gx ((2 ^ (50 * k) : Nat) : Int) ∧ Below w.heap.size w wr ∧ Blank wr w.heap.size
set_option exponentiation.threshold 2000 in
theorem two_len {k : Nat} (h : k ≤ 1000) : (toD 10 ((2 ^ k : Nat) : Int).natAbs).length ≤ 1000 := by
  apply toD_length_le (by decide)
  have h1 : 2 ^ k ≤ 2 ^ 1000 := Nat.pow_le_pow_right (by decide) h
  have h2 : 2 ^ 1000 < 10 ^ 1000 := by decide +kernel
  simp only [Int.natAbs_natCast]
  omega

set_option maxRecDepth 100000 in
set_option maxHeartbeats 1000000 in
theorem two_walk (n0 : Nat) (w : World) (hn : n0 ≤ 900) :
    Calls Tryz.prog 56 #[.int .i64 n0] w (IsPost w ((2 ^ n0 : Nat) : Int)) := by
  have hn' : (n0 : Int) ≤ 900 := by omega
  go_enter Tryz.func56, Tryz.ntmps56
  go_wp2_with fail
  refine (of_walk 1 _ (by decide)).mono ?_
  rintro e w1 ⟨v1, rfl, ⟨A, c, rfl, hc, hcm, hr⟩, hb1⟩
  have HA1 := Lib.hid (NumAt.new (z := 1) hc hcm hr)
  have HR := Lib.hid hr
  have hbk : Blank w1 w.heap.size := (hb1.block _ (by rw [heap_size_alloc]; omega)).trans (heap_here _ _)
  have HBK := Lib.hid hbk
  have hb0 : Below w.heap.size w w1 := bt (below_a1 _ _) hb1
  clear hr hbk hb1
  go_wp2_with fail
  obtain ⟨gx, hgx⟩ : ∃ gx, w1.heap.size = gx := ⟨_, rfl⟩
  have HA2 : Hid (NumAt (w1.alloc (Obj.cells #[Value.bool false, Value.slice A (toD 10 1).length c] 25)) gx 1) := Lib.hid (by rw [← hgx]; exact HA1.out)
  have hgw : w.heap.size < gx := by have := HBK.out; have := iter_lt this; omega
  clear HA1 HR
  rw [hgx]
  go_loopw [0] (fun nv wr => TwoRel n0 w gx nv wr) (fun nv _ => natOf nv)
  case atStart => exact ⟨n0, 0, rfl, by omega, HA2.out, hb0.alloc hb0.size _, HBK.out.below (below_a1 _ _)⟩
  case round =>
    obtain ⟨m, k, rfl, hmk, hnum, hb, hbk⟩ := hrel
    have hzl := two_len (k := 50 * k) (by omega)
    have hz2 : ((2 ^ (50 * k) : Nat) : Int) * ((2 ^ 50 : Nat) : Int) = ((2 ^ (50 * (k + 1)) : Nat) : Int) := by rw [← Int.natCast_mul, ← Nat.pow_add]; rfl
    have hz3 : ((2 ^ (50 * k) : Nat) : Int) * ((2 ^ m : Nat) : Int) = ((2 ^ n0 : Nat) : Int) := by rw [← Int.natCast_mul, ← Nat.pow_add, hmk]
    obtain ⟨z, hz⟩ : ∃ z : Int, ((2 ^ (50 * k) : Nat) : Int) = z := ⟨_, rfl⟩
    rw [hz] at hnum hzl hz2 hz3
    have HZ2 := Lib.hid hz2
    have HZ3 := Lib.hid hz3
    clear hz hz2 hz3
    obtain ⟨B, d, hk, hd, hdm, hs⟩ := hnum
    have c0 := num_cell0 hk
    have c1 := num_cell1 hk
    have HK := Lib.hid hk
    have HS := Lib.hid hs
    have HBK2 := Lib.hid hbk
    clear hk hs hbk HA2 HBK
    have h50l : (toD 10 (1125899906842624 : Int).natAbs).length ≤ 1000 := two_len (k := 50) (by decide)
    by_cases h50 : 50 ≤ m
    · have h50' : (50 : Int) ≤ m := by omega
      go_wp2_with fail
      go_region_with (first
        | (go_at_call 15
           refine (of_walk 1125899906842624 _ (by decide)).mono ?_
           rintro e w2 ⟨v2, rfl, hv2, hb2'⟩
           have hb2 : Below wr.heap.size wr w2 := bt ((Below.refl _ _).drew) hb2'
           have c02 := (hb2.cell (p := ⟨gx, 0, none⟩) (iter_lt HK.out)).trans c0
           have c12 := (hb2.cell (p := ⟨gx, 1, none⟩) (iter_lt HK.out)).trans c1)
        | (go_at_call 18
           refine (mul_walk _ _ z 1125899906842624 _ ⟨B, d, rfl, hd, hdm, HS.out.below hb2⟩ hv2 hzl h50l).mono ?_
           rintro e w3 ⟨v3, rfl, ⟨C, f, rfl, hf, hfm, ht⟩, hb3⟩
           have HT := Lib.hid ht
           have hb4 : Below wr.heap.size wr w3 := bt hb2 hb3
           have k3 := (hb4.block gx (iter_lt HK.out)).trans HK.out
           have c03 := num_cell0 k3
           have c13 := num_cell1 k3
           have f03 := one_free k3 0
           have f13 := one_free k3 1
           have HK3 := Lib.hid k3
           clear ht k3))
      all_goals
        go_wp2_with fail
        have h1 : NumAt ((w3.setCell ⟨gx, 0, none⟩ (.bool (decide (z * 1125899906842624 < 0)))).setCell ⟨gx, 1, none⟩ (.slice C (toD 10 (z * 1125899906842624).natAbs).length f)) gx (z * 1125899906842624) := NumAt.put HK3.out hf hfm HT.out
        have h2 : z * 1125899906842624 = ((2 ^ (50 * (k + 1)) : Nat) : Int) := HZ2.out
        have hb5 := bt hb hb4
        refine ⟨⟨m - 50, k + 1, by go_num, by omega, by rw [← h2]; exact h1, (hb5.setCell (p := ⟨gx, 0, none⟩) (Nat.le_of_lt hgw) _).setCell (p := ⟨gx, 1, none⟩) (Nat.le_of_lt hgw) _, (HBK2.out.below hb4).set _ _ (Nat.ne_of_lt hgw)⟩, by simp [natOf]; omega⟩
    · have h50' : ¬ (50 : Int) ≤ m := by omega
      go_wp2_with fail
      have HSH := Lib.hid (shl_of (m := m) (by omega))
      have hpm : 2 ^ m ≤ 2 ^ 50 := Nat.pow_le_pow_right (by decide) (by omega)
      have hml := two_len (k := m) (by omega)
      obtain ⟨y, hy⟩ : ∃ y : Int, ((2 ^ m : Nat) : Int) = y := ⟨_, rfl⟩
      have hy2 : -9223372036854775808 ≤ y ∧ y ≤ 9223372036854775807 := by
        have h1 : ((2 ^ m : Nat) : Int) ≤ ((2 ^ 50 : Nat) : Int) := Int.ofNat_le.2 hpm
        have h2 : (0 : Int) ≤ ((2 ^ m : Nat) : Int) := Int.natCast_nonneg _
        rw [hy] at h1 h2
        have h3 : ((2 ^ 50 : Nat) : Int) = 1125899906842624 := by decide
        omega
      rw [hy] at HSH HZ3 hml
      clear hy hpm
      go_region_with (first
        | (go_at_call 15
           rw [HSH.out]
           refine (of_walk y _ hy2).mono ?_
           rintro e w2 ⟨v2, rfl, hv2, hb2'⟩
           have hb2 : Below wr.heap.size wr w2 := bt ((Below.refl _ _).drew) hb2'
           have c02 := (hb2.cell (p := ⟨gx, 0, none⟩) (iter_lt HK.out)).trans c0
           have c12 := (hb2.cell (p := ⟨gx, 1, none⟩) (iter_lt HK.out)).trans c1)
        | (go_at_call 18
           refine (mul_walk _ _ z y _ ⟨B, d, rfl, hd, hdm, HS.out.below hb2⟩ hv2 hzl hml).mono ?_
           rintro e w3 ⟨v3, rfl, ⟨C, f, rfl, hf, hfm, ht⟩, hb3⟩
           have HT := Lib.hid ht
           have hb4 : Below wr.heap.size wr w3 := bt hb2 hb3
           have HB3 := Lib.hid (HBK2.out.below hb4)
           have c03 := num_cell0 HB3.out
           have c13 := num_cell1 HB3.out
           have f03 := one_free HB3.out 0
           have f13 := one_free HB3.out 1
           clear ht))
      all_goals
        go_wp2_with fail
        have k0 := cells_set (cells_set HB3.out 0 (.bool (decide (z * y < 0)))) 1 (.slice C (toD 10 (z * y).natAbs).length f)
        have d0 := num_cell0 k0
        have d1 := num_cell1 k0
        have hb5 := bt hb hb4
        exact bodyPost_ret (v := .agg #[.bool (decide (z * y < 0)), .slice C (toD 10 (z * y).natAbs).length f]) (by simp [results, Tryz.results56, go_sem, d0, d1]) rfl
          ⟨_, rfl, by rw [← HZ3.out]; exact ⟨C, f, rfl, hf, hfm, rd_set2 HB3.out HT.out⟩,
            (hb5.setCell (p := ⟨w.heap.size, 0, none⟩) (Nat.le_refl _) _).setCell (p := ⟨w.heap.size, 1, none⟩) (Nat.le_refl _) _⟩

set_option maxRecDepth 100000 in
set_option maxHeartbeats 1000000 in
theorem fits_walk (v : Value) (x : Int) (w : World) (hv : IsNum w v x) :
    Calls Tryz.prog 25 #[v] w fun e w' => e = .returned (.bool (decide (x.natAbs < 2 ^ 256))) ∧ Below w.heap.size w w' := by
  obtain ⟨A, c, rfl, hc, hcm, hr⟩ := hv.open
  have HV := Lib.hid hv
  clear hv hr
  obtain ⟨R, hR⟩ : ∃ R, decide (x.natAbs < 2 ^ 256) = R := ⟨_, rfl⟩
  rw [hR]
  have HRR := Lib.hid hR
  clear hR
  go_enter Tryz.func25, Tryz.ntmps25
  go_wp2_with fail
  refine (abs_walk _ x _ (HV.out.below (below_a1 _ _))).mono ?_
  rintro e w1 ⟨v1, rfl, hv1, hb1⟩
  go_wp2_with fail
  refine (two_walk 256 _ (by decide)).mono ?_
  rintro e w2 ⟨v2, rfl, hv2, hb2⟩
  go_wp2_with fail
  refine (cmp_walk _ _ _ _ _ (hv1.below hb2) hv2).mono ?_
  rintro e w3 ⟨rfl, hb3⟩
  have hs : decide (sgnC ((x.natAbs : Int) - ((2 ^ 256 : Nat) : Int)) < 0) = R := by
    rw [← HRR.out]
    unfold sgnC
    by_cases h : x.natAbs < 2 ^ 256
    · rw [if_pos (by omega), decide_eq_true h]; rfl
    · rw [if_neg (by omega), decide_eq_false h]
      split <;> rfl
  have HSS := Lib.hid hs
  clear hs
  obtain ⟨q, hq⟩ : ∃ q, sgnC ((x.natAbs : Int) - ((2 ^ 256 : Nat) : Int)) = q := ⟨_, rfl⟩
  rw [hq] at HSS ⊢
  clear hq
  go_wp2_with fail
  go_ret
  exact ⟨by rw [HSS.out]; rfl, bt (bt (bt (below_a1 _ _) hb1) hb2) hb3⟩
end Go.Proofs.YtapfolgiafnllaaGreatDoor
