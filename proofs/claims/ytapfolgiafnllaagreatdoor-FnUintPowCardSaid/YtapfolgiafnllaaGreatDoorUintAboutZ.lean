/-
  Uint.IsNil, IsZero, Uint64 of cosmosmath; impl.UintAbout.
-/
import Derived.Test.YtapfolgiafnllaaGreatDoorMostTopZ
import Derived.Test.YtapfolgiafnllaaGreatDoorBn03Z
import Derived.Test.YtapfolgiafnllaaGreatDoorBn08Z
namespace Go.Proofs.YtapfolgiafnllaaGreatDoor
open Go.RowKit

theorem wds_small {N : Nat} (h0 : N ≠ 0) (h : N < 18446744073709551616) : wds N = [N] := by
  unfold wds
  rw [toD_pos (by decide) h0, Nat.div_eq_of_lt h, toD_zero, Nat.mod_eq_of_lt h]
theorem wds_le1 (N : Nat) : (wds N).length ≤ 1 ↔ N < 18446744073709551616 := by
  constructor
  · intro h
    have h1 := toD_lt_pow (b := 18446744073709551616) (by decide) N
    have h2 : (18446744073709551616 : Nat) ^ (wds N).length ≤ 18446744073709551616 ^ 1 := Nat.pow_le_pow_right (by decide) h
    rw [Nat.pow_one] at h2
    exact Nat.lt_of_lt_of_le h1 h2
  · intro h
    exact toD_length_le (by decide) 1 _ (by simpa using h)
set_option maxRecDepth 100000 in
set_option maxHeartbeats 1000000 in
theorem equal_walk (gx gy : Nat) (x y : Int) (w : World) (hx : IntAt w gx x) (hy : IntAt w gy y) (hne : gy ≠ gx) (px : ¬ x < 0) (py : ¬ y < 0) :
    Calls Tryz.prog 95 #[.pointer (some ⟨gx, 0, none⟩), .pointer (some ⟨gy, 0, none⟩)] w fun e w' => e = .returned (.bool (decide (x = y))) ∧ Below w.heap.size w w' := by
  have HC := Lib.hid (intCmp_walk gx gy x y w hx hy hne px py)
  have hs : (sgnC (x - y) == 0) = decide (x = y) := by
    unfold sgnC
    by_cases h : x = y
    · rw [decide_eq_true h, if_neg (by omega), if_pos (by omega)]; rfl
    · rw [decide_eq_false h]
      split
      · rfl
      · rw [if_neg (by omega)]; rfl
  rw [← hs]
  obtain ⟨s, hss⟩ : ∃ s, sgnC (x - y) = s := ⟨_, rfl⟩
  rw [hss] at HC ⊢
  clear hx hy hs hss
  go_enter Tryz.func95, Tryz.ntmps95
  go_wp2_with fail
  refine HC.out.mono ?_
  rintro e w1 ⟨rfl, hb⟩
  go_wp2_with fail
  go_ret
  exact ⟨rfl, hb⟩

set_option maxRecDepth 100000 in
set_option maxHeartbeats 1000000 in
theorem uintEqual_walk (gx gy : Nat) (x y : Int) (w : World) (hx : IntAt w gx x) (hy : IntAt w gy y) (hne : gy ≠ gx) (px : ¬ x < 0) (py : ¬ y < 0) :
    Calls Tryz.prog 63 #[.agg #[.pointer (some ⟨gx, 0, none⟩)], .agg #[.pointer (some ⟨gy, 0, none⟩)]] w fun e w' => e = .returned (.bool (decide (x = y))) ∧ Below w.heap.size w w' := by
  have k0 : ((w.alloc (.cells #[.pointer (some ⟨gx, 0, none⟩)] 52)).alloc (.cells #[.pointer (some ⟨gy, 0, none⟩)] 52)).heap[w.heap.size]? = some (.cells #[.pointer (some ⟨gx, 0, none⟩)] 52 (0, 0)) := heap_old (heap_here _ _)
  have k1 : ((w.alloc (.cells #[.pointer (some ⟨gx, 0, none⟩)] 52)).alloc (.cells #[.pointer (some ⟨gy, 0, none⟩)] 52)).heap[w.heap.size + 1]? = some (.cells #[.pointer (some ⟨gy, 0, none⟩)] 52 (0, 0)) := heap_at _ _ (heap_size_alloc _ _)
  have hb := below_a2 w (.cells #[.pointer (some ⟨gx, 0, none⟩)] 52) (.cells #[.pointer (some ⟨gy, 0, none⟩)] 52)
  have c0 := one_cell k0
  have c1 := one_cell k1
  have HE := Lib.hid (fun (w' : World) (h : Below w.heap.size w w') => equal_walk gx gy x y w' (hx.below h) (hy.below h) hne px py)
  have HB := Lib.hid hb
  clear hx hy k0 k1 hb
  go_enter Tryz.func63, Tryz.ntmps63
  go_wp2_with fail
  refine (HE.out _ HB.out).mono ?_
  rintro e w1 ⟨rfl, hb⟩
  go_wp2_with fail
  go_ret
  exact ⟨rfl, bt HB.out hb⟩

theorem iz_drew {w0 w1 : World} {a : Addr} {u : Value} (h : w1.cell? a = some u ∧ Below w0.heap.size w0 w1) : w1.drew.cell? a = some u ∧ Below w0.heap.size w0 w1.drew := ⟨h.1, h.2.drew⟩
theorem iz_grow {w0 w1 w2 : World} {a : Addr} {u : Value} (h : w1.cell? a = some u ∧ Below w0.heap.size w0 w1) (k : Below w1.heap.size w1 w2) : w2.cell? a = some u ∧ Below w0.heap.size w0 w2 :=
  ⟨(k.cell (by exact World.block_lt_of_cell? w1 _ h.1)).trans h.1, bt h.2 k⟩
set_option maxRecDepth 100000 in
set_option maxHeartbeats 1000000 in
theorem isZero_walk (g : Nat) (z : Int) (w : World) (hz : IntAt w g z) (hp : ¬ z < 0) :
    Calls Tryz.prog 59 #[.agg #[.pointer (some ⟨g, 0, none⟩)]] w fun e w' => e = .returned (.bool (decide (z = 0))) ∧ Below w.heap.size w w' := by
  have hlt := hz.lt
  have HZ := Lib.hid (hz.below (below_a1 w (.cells #[.pointer (some ⟨g, 0, none⟩)] 52)))
  have HE := Lib.hid (fun (g2 : Nat) (w' : World) (h1 : IntAt w' g z) (h2 : IntAt w' g2 0) (hne : g2 ≠ g) => uintEqual_walk g g2 z 0 w' h1 h2 hne hp (by omega))
  have hkept : (w.alloc (.cells #[.pointer (some ⟨g, 0, none⟩)] 52)).cell? ⟨w.heap.size, 0, none⟩ = some (.pointer (some ⟨g, 0, none⟩)) ∧ Below (w.alloc (.cells #[.pointer (some ⟨g, 0, none⟩)] 52)).heap.size (w.alloc (.cells #[.pointer (some ⟨g, 0, none⟩)] 52)) (w.alloc (.cells #[.pointer (some ⟨g, 0, none⟩)] 52)) := ⟨one_cell (heap_here _ _), Below.refl _ _⟩
  have hba := below_a1 w (.cells #[.pointer (some ⟨g, 0, none⟩)] 52)
  have hsa := heap_size_alloc w (.cells #[.pointer (some ⟨g, 0, none⟩)] 52)
  obtain ⟨wa, hwa⟩ : ∃ wa, w.alloc (.cells #[.pointer (some ⟨g, 0, none⟩)] 52) = wa := ⟨_, rfl⟩
  rw [hwa] at hkept HZ hba hsa
  have HWA := Lib.hid hwa
  have HBA := Lib.hid hba
  clear hz hwa hba
  go_enter Tryz.func59, Tryz.ntmps59
  go_upto_region 1 with fail
  rw [HWA.out]
  go_region_held3 (fun w' => w'.cell? ⟨w.heap.size, 0, none⟩ = some (.pointer (some ⟨g, 0, none⟩)) ∧ Below wa.heap.size wa w')
    (first | exact iz_drew hkept | exact iz_grow (by assumption) hgr | assumption)
    (first
      | (go_at_call 61; refine (zeroUint_walk _).mono ?_; rintro e w7 ⟨g7, rfl, hi7, hgr, hf7⟩; have HI7 := Lib.hid hi7; have hs7 : g < g7 := Nat.lt_of_lt_of_le hlt (Nat.le_trans HBA.out.size (Nat.le_trans (by go_split_ands; exact Below.size (by assumption)) hf7)); clear hi7 hf7)
      | (go_at_call 63; refine (HE.out g7 _ (HZ.out.below (by go_split_ands; assumption)) HI7.out (by omega)).mono ?_; rintro e w8 ⟨rfl, hgr⟩))
  all_goals
    have hB := (‹_ ∧ Below wa.heap.size wa w8›).2
    go_wp2_with fail
    go_ret
    exact ⟨rfl, bt HBA.out hB⟩

/-- The number as a uint64; 0 where it is none. -/
def lowZ (z : Int) : Int := if z < 18446744073709551616 then z else 0
/-- What holds on the way in impl.UintAbout's closure. -/
structure AbM (B bx g : Nat) (z : Int) (v1 v2 v3 v4 : Value) (w0 w : World) : Prop where
  k1 : w.heap[B + 1]? = some (.cells #[v1] 4 (0, 0))
  k2 : w.heap[B + 1 + 1]? = some (.cells #[v2] 4 (0, 0))
  k3 : w.heap[B + 1 + 1 + 1]? = some (.cells #[v3] 22 (0, 0))
  k4 : w.heap[B + 1 + 1 + 1 + 1]? = some (.cells #[v4] 4 (0, 0))
  kx : w.heap[bx]? = some (.cells #[.pointer (some ⟨g, 0, none⟩)] 52 (0, 0))
  hi : IntAt w g z
  lx : B + 1 + 1 + 1 + 1 < bx
  ext : Ext (fun k => B + 1 ≤ k ∧ k ≤ B + 1 + 1 + 1 + 1) w0 w
theorem AbM.below {B bx g : Nat} {z : Int} {v1 v2 v3 v4 : Value} {w0 w w' : World} (h : AbM B bx g z v1 v2 v3 v4 w0 w) (hb : Below w.heap.size w w') : AbM B bx g z v1 v2 v3 v4 w0 w' :=
  ⟨(hb.block _ (iter_lt h.k1)).trans h.k1, (hb.block _ (iter_lt h.k2)).trans h.k2, (hb.block _ (iter_lt h.k3)).trans h.k3, (hb.block _ (iter_lt h.k4)).trans h.k4, (hb.block _ (iter_lt h.kx)).trans h.kx, h.hi.below hb, h.lx, h.ext.then_below hb⟩
theorem AbM.set1 {B bx g : Nat} {z : Int} {v1 v2 v3 v4 : Value} {w0 w : World} (h : AbM B bx g z v1 v2 v3 v4 w0 w) (v : Value) : AbM B bx g z v v2 v3 v4 w0 (w.setCell ⟨B + 1, 0, none⟩ v) := by
  have hl := h.lx
  exact ⟨one_set h.k1, (one_other (by show B + 1 + 1 ≠ B + 1; omega)).trans h.k2, (one_other (by show B + 1 + 1 + 1 ≠ B + 1; omega)).trans h.k3, (one_other (by show B + 1 + 1 + 1 + 1 ≠ B + 1; omega)).trans h.k4, (one_other (by show bx ≠ B + 1; omega)).trans h.kx, h.hi.store h.k1 (by decide) (by decide) _, h.lx,
    h.ext.setCell (p := ⟨B + 1, 0, none⟩) (fun _ => ⟨Nat.le_refl _, by show B + 1 ≤ B + 1 + 1 + 1 + 1; omega⟩) _⟩
theorem AbM.set2 {B bx g : Nat} {z : Int} {v1 v2 v3 v4 : Value} {w0 w : World} (h : AbM B bx g z v1 v2 v3 v4 w0 w) (v : Value) : AbM B bx g z v1 v v3 v4 w0 (w.setCell ⟨B + 1 + 1, 0, none⟩ v) := by
  have hl := h.lx
  exact ⟨(one_other (by show B + 1 ≠ B + 1 + 1; omega)).trans h.k1, one_set h.k2, (one_other (by show B + 1 + 1 + 1 ≠ B + 1 + 1; omega)).trans h.k3, (one_other (by show B + 1 + 1 + 1 + 1 ≠ B + 1 + 1; omega)).trans h.k4, (one_other (by show bx ≠ B + 1 + 1; omega)).trans h.kx, h.hi.store h.k2 (by decide) (by decide) _, h.lx,
    h.ext.setCell (p := ⟨B + 1 + 1, 0, none⟩) (fun _ => ⟨by show B + 1 ≤ B + 1 + 1; omega, by show B + 1 + 1 ≤ B + 1 + 1 + 1 + 1; omega⟩) _⟩

/-- The four results' cells. -/
structure FourM (B : Nat) (v1 v2 v3 v4 : Value) (w0 w : World) : Prop where
  k1 : w.heap[B + 1]? = some (.cells #[v1] 4 (0, 0))
  k2 : w.heap[B + 1 + 1]? = some (.cells #[v2] 4 (0, 0))
  k3 : w.heap[B + 1 + 1 + 1]? = some (.cells #[v3] 22 (0, 0))
  k4 : w.heap[B + 1 + 1 + 1 + 1]? = some (.cells #[v4] 4 (0, 0))
  below : Below B w0 w
theorem FourM.s {B : Nat} {v1 v2 v3 v4 : Value} {w0 w : World} (h : FourM B v1 v2 v3 v4 w0 w) :
    w.cell? ⟨B + 1, 0, none⟩ = some v1 ∧ w.cell? ⟨B + 1 + 1, 0, none⟩ = some v2 ∧ w.cell? ⟨B + 1 + 1 + 1, 0, none⟩ = some v3 ∧ w.cell? ⟨B + 1 + 1 + 1 + 1, 0, none⟩ = some v4 ∧
    w.frozen? ⟨B + 1, 0, none⟩ = false ∧ w.frozen? ⟨B + 1 + 1, 0, none⟩ = false ∧ w.frozen? ⟨B + 1 + 1 + 1, 0, none⟩ = false ∧ w.frozen? ⟨B + 1 + 1 + 1 + 1, 0, none⟩ = false ∧ FourM B v1 v2 v3 v4 w0 w :=
  ⟨one_cell h.k1, one_cell h.k2, one_cell h.k3, one_cell h.k4, one_free h.k1 0, one_free h.k2 0, one_free h.k3 0, one_free h.k4 0, h⟩
theorem FourM.set1 {B : Nat} {v1 v2 v3 v4 : Value} {w0 w : World} (h : FourM B v1 v2 v3 v4 w0 w) : FourM B v1 v2 v3 v4 w0 (w.setCell ⟨B + 1, 0, none⟩ v1) :=
  ⟨one_set h.k1, (one_other (by show B + 1 + 1 ≠ B + 1; omega)).trans h.k2, (one_other (by show B + 1 + 1 + 1 ≠ B + 1; omega)).trans h.k3, (one_other (by show B + 1 + 1 + 1 + 1 ≠ B + 1; omega)).trans h.k4, h.below.setCell (p := ⟨B + 1, 0, none⟩) (by show B ≤ B + 1; omega) _⟩
theorem FourM.set2 {B : Nat} {v1 v2 v3 v4 : Value} {w0 w : World} (h : FourM B v1 v2 v3 v4 w0 w) : FourM B v1 v2 v3 v4 w0 (w.setCell ⟨B + 1 + 1, 0, none⟩ v2) :=
  ⟨(one_other (by show B + 1 ≠ B + 1 + 1; omega)).trans h.k1, one_set h.k2, (one_other (by show B + 1 + 1 + 1 ≠ B + 1 + 1; omega)).trans h.k3, (one_other (by show B + 1 + 1 + 1 + 1 ≠ B + 1 + 1; omega)).trans h.k4, h.below.setCell (p := ⟨B + 1 + 1, 0, none⟩) (by show B ≤ B + 1 + 1; omega) _⟩
theorem FourM.set3 {B : Nat} {v1 v2 v3 v4 : Value} {w0 w : World} (h : FourM B v1 v2 v3 v4 w0 w) : FourM B v1 v2 v3 v4 w0 (w.setCell ⟨B + 1 + 1 + 1, 0, none⟩ v3) :=
  ⟨(one_other (by show B + 1 ≠ B + 1 + 1 + 1; omega)).trans h.k1, (one_other (by show B + 1 + 1 ≠ B + 1 + 1 + 1; omega)).trans h.k2, one_set h.k3, (one_other (by show B + 1 + 1 + 1 + 1 ≠ B + 1 + 1 + 1; omega)).trans h.k4, h.below.setCell (p := ⟨B + 1 + 1 + 1, 0, none⟩) (by show B ≤ B + 1 + 1 + 1; omega) _⟩
theorem FourM.set4 {B : Nat} {v1 v2 v3 v4 : Value} {w0 w : World} (h : FourM B v1 v2 v3 v4 w0 w) : FourM B v1 v2 v3 v4 w0 (w.setCell ⟨B + 1 + 1 + 1 + 1, 0, none⟩ v4) :=
  ⟨(one_other (by show B + 1 ≠ B + 1 + 1 + 1 + 1; omega)).trans h.k1, (one_other (by show B + 1 + 1 ≠ B + 1 + 1 + 1 + 1; omega)).trans h.k2, (one_other (by show B + 1 + 1 + 1 ≠ B + 1 + 1 + 1 + 1; omega)).trans h.k3, one_set h.k4, h.below.setCell (p := ⟨B + 1 + 1 + 1 + 1, 0, none⟩) (by show B ≤ B + 1 + 1 + 1 + 1; omega) _⟩
theorem FourM.drew {B : Nat} {v1 v2 v3 v4 : Value} {w0 w : World} (h : FourM B v1 v2 v3 v4 w0 w) : FourM B v1 v2 v3 v4 w0 w.drew := ⟨h.k1, h.k2, h.k3, h.k4, h.below.drew⟩

end Go.Proofs.YtapfolgiafnllaaGreatDoor
