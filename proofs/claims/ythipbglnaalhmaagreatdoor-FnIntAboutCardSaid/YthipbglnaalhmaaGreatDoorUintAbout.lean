/-
  Uint.IsNil, IsZero, Uint64 of cosmosmath; impl.UintAbout.
-/
import Derived.Test.YthipbglnaalhmaaGreatDoorMostTop
import Derived.Test.YthipbglnaalhmaaGreatDoorUintStep
import Derived.Test.YthipbglnaalhmaaGreatDoorUintRead
namespace Go.Proofs.YthipbglnaalhmaaGreatDoor
open Go.RowKit

theorem wds_small {N : Nat} (h0 : N ≠ 0) (h : N < 18446744073709551616) : wds N = [N] := by
  unfold wds
  rw [toD_pos (by decide) h0, Nat.div_eq_of_lt h, toD_zero, Nat.mod_eq_of_lt h]
theorem wds_le1 (N : Nat) : (wds N).length ≤ 1 ↔ N < 18446744073709551616 := by
  constructor
  · intro h
    have h1 := toD_lt_pow (b := 18446744073709551616) (by decide) N
    have h2 : (18446744073709551616 : Nat) ^ (wds N).length ≤ 18446744073709551616 ^ 1 := Nat.pow_le_pow_right (by decide) h
    rw [Nat.pow_one] at h2
    exact Nat.lt_of_lt_of_le h1 h2
  · intro h
    exact toD_length_le (by decide) 1 _ (by simpa using h)
set_option maxRecDepth 100000 in
set_option maxHeartbeats 1000000 in
theorem low64_walk (N : Nat) (A : Option Addr) (c : Nat) (w : World) (hN : N < 18446744073709551616) (hr : Wd w A (wds N)) :
    Calls Tryz.prog 150 #[.slice A (wds N).length c] w fun e w' => e = .returned (.int .u64 N) ∧ Below w.heap.size w w' := by
  by_cases h0 : N = 0
  · subst h0
    rw [wds_zero]
    go_enter Tryz.func150, Tryz.ntmps150
    go_wp2_with fail
    go_ret
    exact ⟨rfl, Below.refl _ _⟩
  · have e := wds_small h0 hN
    rw [e] at hr ⊢
    rcases hr with h | ⟨g, zs, r, rfl, hrow, rfl⟩
    · cases h
    · have c0 : w.cell? ⟨g, 0, none⟩ = some (.int .u64 N) := hrow.cell (j := 0) (by simp)
      clear hrow e
      go_enter Tryz.func150, Tryz.ntmps150
      go_wp2_with fail
      go_ret
      exact ⟨rfl, Below.refl _ _⟩

set_option maxRecDepth 100000 in
set_option maxHeartbeats 1000000 in
theorem isUint64_walk (g : Nat) (z : Int) (w : World) (hz : IntAt w g z) (hp : ¬ z < 0) :
    Calls Tryz.prog 110 #[.pointer (some ⟨g, 0, none⟩)] w fun e w' => e = .returned (.bool (decide (z < 18446744073709551616))) ∧ Below w.heap.size w w' := by
  obtain ⟨A, c, hk, h2, h3, h4⟩ := hz
  have c0 := num_cell0 hk
  have c1 := num_cell1 hk
  rw [decide_eq_false hp] at c0
  have hd : decide (((wds z.natAbs).length : Int) ≤ 1) = decide (z < 18446744073709551616) := by
    have := wds_le1 z.natAbs
    congr 1
    apply propext
    omega
  clear hk h4
  go_enter Tryz.func110, Tryz.ntmps110
  go_wp2_with fail
  go_ret
  exact ⟨by rw [← hd]; rfl, Below.refl _ _⟩

set_option maxRecDepth 100000 in
set_option maxHeartbeats 1000000 in
theorem intUint64_walk (g : Nat) (z : Int) (w : World) (hz : IntAt w g z) (hp : ¬ z < 0) (hlt : z < 18446744073709551616) :
    Calls Tryz.prog 111 #[.pointer (some ⟨g, 0, none⟩)] w fun e w' => e = .returned (.int .u64 z) ∧ Below w.heap.size w w' := by
  obtain ⟨A, c, hk, h2, h3, h4⟩ := hz
  have c1 := num_cell1 hk
  have hzz : ((z.natAbs : Nat) : Int) = z := by omega
  have HL := Lib.hid (low64_walk z.natAbs A c w (by omega) h4)
  rw [hzz] at HL
  clear hk h4 hzz
  go_enter Tryz.func111, Tryz.ntmps111
  go_wp2_with fail
  refine HL.out.mono ?_
  rintro e w1 ⟨rfl, hb⟩
  go_wp2_with fail
  go_ret
  exact ⟨rfl, hb⟩

set_option maxRecDepth 100000 in
set_option maxHeartbeats 1000000 in
theorem uintUint64_walk (g : Nat) (z : Int) (w : World) (hz : IntAt w g z) (hp : ¬ z < 0) (hlt : z < 18446744073709551616) :
    Calls Tryz.prog 61 #[.agg #[.pointer (some ⟨g, 0, none⟩)]] w fun e w' => e = .returned (.int .u64 z) ∧ Below w.heap.size w w' := by
  have HI := Lib.hid (isUint64_walk g z _ (hz.below (below_a1 w (.cells #[.pointer (some ⟨g, 0, none⟩)] 62))) hp)
  have HU := Lib.hid (fun (w' : World) (h : Below (w.alloc (.cells #[.pointer (some ⟨g, 0, none⟩)] 62)).heap.size (w.alloc (.cells #[.pointer (some ⟨g, 0, none⟩)] 62)) w') => intUint64_walk g z w' ((hz.below (below_a1 w (.cells #[.pointer (some ⟨g, 0, none⟩)] 62))).below h) hp hlt)
  have hd : decide (z < 18446744073709551616) = true := decide_eq_true hlt
  rw [hd] at HI
  have HK := Lib.hid (heap_here w (.cells #[.pointer (some ⟨g, 0, none⟩)] 62))
  clear hz hd
  go_enter Tryz.func61, Tryz.ntmps61
  go_wp2_with fail
  refine HI.out.mono ?_
  rintro e w1 ⟨rfl, hb⟩
  have c0 := one_cell ((hb.block w.heap.size (by rw [heap_size_alloc]; omega)).trans HK.out)
  have HB := Lib.hid hb
  clear hb
  go_wp2_with fail
  refine (HU.out w1 HB.out).mono ?_
  rintro e w2 ⟨rfl, hb2⟩
  go_wp2_with fail
  go_ret
  exact ⟨rfl, bt (bt (below_a1 _ _) HB.out) hb2⟩

set_option maxRecDepth 100000 in
set_option maxHeartbeats 1000000 in
theorem uintUint64_panic (g : Nat) (z : Int) (w : World) (hz : IntAt w g z) (hp : ¬ z < 0) (hlt : ¬ z < 18446744073709551616) :
    Calls Tryz.prog 61 #[.agg #[.pointer (some ⟨g, 0, none⟩)]] w (PanicPost w) := by
  have HI := Lib.hid (isUint64_walk g z _ (hz.below (below_a1 w (.cells #[.pointer (some ⟨g, 0, none⟩)] 62))) hp)
  have hd : decide (z < 18446744073709551616) = false := decide_eq_false hlt
  rw [hd] at HI
  clear hz hd
  go_enter Tryz.func61, Tryz.ntmps61
  go_wp2_with fail
  refine HI.out.mono ?_
  rintro e w1 ⟨rfl, hb⟩
  have HB := Lib.hid (bt (below_a1 _ _) hb)
  clear hb
  go_wp2_with fail
  exact ⟨rfl, _, _, rfl, HB.out⟩

set_option maxRecDepth 100000 in
set_option maxHeartbeats 1000000 in
theorem isNil_walk (g : Nat) (w : World) :
    Calls Tryz.prog 58 #[.agg #[.pointer (some ⟨g, 0, none⟩)]] w fun e w' => e = .returned (.bool false) ∧ Below w.heap.size w w' := by
  go_enter Tryz.func58, Tryz.ntmps58
  go_wp2_with fail
  go_ret
  exact ⟨rfl, below_a1 _ _⟩

set_option maxRecDepth 100000 in
set_option maxHeartbeats 1000000 in
theorem equal_walk (gx gy : Nat) (x y : Int) (w : World) (hx : IntAt w gx x) (hy : IntAt w gy y) (hne : gy ≠ gx) (px : ¬ x < 0) (py : ¬ y < 0) :
    Calls Tryz.prog 149 #[.pointer (some ⟨gx, 0, none⟩), .pointer (some ⟨gy, 0, none⟩)] w fun e w' => e = .returned (.bool (decide (x = y))) ∧ Below w.heap.size w w' := by
  have HC := Lib.hid (intCmp_walk gx gy x y w hx hy hne px py)
  have hs : (sgnC (x - y) == 0) = decide (x = y) := by
    unfold sgnC
    by_cases h : x = y
    · rw [decide_eq_true h, if_neg (by omega), if_pos (by omega)]; rfl
    · rw [decide_eq_false h]
      split
      · rfl
      · rw [if_neg (by omega)]; rfl
  rw [← hs]
  obtain ⟨s, hss⟩ : ∃ s, sgnC (x - y) = s := ⟨_, rfl⟩
  rw [hss] at HC ⊢
  clear hx hy hs hss
  go_enter Tryz.func149, Tryz.ntmps149
  go_wp2_with fail
  refine HC.out.mono ?_
  rintro e w1 ⟨rfl, hb⟩
  go_wp2_with fail
  go_ret
  exact ⟨rfl, hb⟩

set_option maxRecDepth 100000 in
set_option maxHeartbeats 1000000 in
theorem uintEqual_walk (gx gy : Nat) (x y : Int) (w : World) (hx : IntAt w gx x) (hy : IntAt w gy y) (hne : gy ≠ gx) (px : ¬ x < 0) (py : ¬ y < 0) :
    Calls Tryz.prog 108 #[.agg #[.pointer (some ⟨gx, 0, none⟩)], .agg #[.pointer (some ⟨gy, 0, none⟩)]] w fun e w' => e = .returned (.bool (decide (x = y))) ∧ Below w.heap.size w w' := by
  have k0 : ((w.alloc (.cells #[.pointer (some ⟨gx, 0, none⟩)] 62)).alloc (.cells #[.pointer (some ⟨gy, 0, none⟩)] 62)).heap[w.heap.size]? = some (.cells #[.pointer (some ⟨gx, 0, none⟩)] 62 (0, 0)) := heap_old (heap_here _ _)
  have k1 : ((w.alloc (.cells #[.pointer (some ⟨gx, 0, none⟩)] 62)).alloc (.cells #[.pointer (some ⟨gy, 0, none⟩)] 62)).heap[w.heap.size + 1]? = some (.cells #[.pointer (some ⟨gy, 0, none⟩)] 62 (0, 0)) := heap_at _ _ (heap_size_alloc _ _)
  have hb := below_a2 w (.cells #[.pointer (some ⟨gx, 0, none⟩)] 62) (.cells #[.pointer (some ⟨gy, 0, none⟩)] 62)
  have c0 := one_cell k0
  have c1 := one_cell k1
  have HE := Lib.hid (fun (w' : World) (h : Below w.heap.size w w') => equal_walk gx gy x y w' (hx.below h) (hy.below h) hne px py)
  have HB := Lib.hid hb
  clear hx hy k0 k1 hb
  go_enter Tryz.func108, Tryz.ntmps108
  go_wp2_with fail
  refine (HE.out _ HB.out).mono ?_
  rintro e w1 ⟨rfl, hb⟩
  go_wp2_with fail
  go_ret
  exact ⟨rfl, bt HB.out hb⟩

theorem iz_drew {w0 w1 : World} {a : Addr} {u : Value} (h : w1.cell? a = some u ∧ Below w0.heap.size w0 w1) : w1.drew.cell? a = some u ∧ Below w0.heap.size w0 w1.drew := ⟨h.1, h.2.drew⟩
theorem iz_grow {w0 w1 w2 : World} {a : Addr} {u : Value} (h : w1.cell? a = some u ∧ Below w0.heap.size w0 w1) (k : Below w1.heap.size w1 w2) : w2.cell? a = some u ∧ Below w0.heap.size w0 w2 :=
  ⟨(k.cell (by exact World.block_lt_of_cell? w1 _ h.1)).trans h.1, bt h.2 k⟩
set_option maxRecDepth 100000 in
set_option maxHeartbeats 1000000 in
theorem isZero_walk (g : Nat) (z : Int) (w : World) (hz : IntAt w g z) (hp : ¬ z < 0) :
    Calls Tryz.prog 59 #[.agg #[.pointer (some ⟨g, 0, none⟩)]] w fun e w' => e = .returned (.bool (decide (z = 0))) ∧ Below w.heap.size w w' := by
  have hlt := hz.lt
  have HZ := Lib.hid (hz.below (below_a1 w (.cells #[.pointer (some ⟨g, 0, none⟩)] 62)))
  have HE := Lib.hid (fun (g2 : Nat) (w' : World) (h1 : IntAt w' g z) (h2 : IntAt w' g2 0) (hne : g2 ≠ g) => uintEqual_walk g g2 z 0 w' h1 h2 hne hp (by omega))
  have hkept : (w.alloc (.cells #[.pointer (some ⟨g, 0, none⟩)] 62)).cell? ⟨w.heap.size, 0, none⟩ = some (.pointer (some ⟨g, 0, none⟩)) ∧ Below (w.alloc (.cells #[.pointer (some ⟨g, 0, none⟩)] 62)).heap.size (w.alloc (.cells #[.pointer (some ⟨g, 0, none⟩)] 62)) (w.alloc (.cells #[.pointer (some ⟨g, 0, none⟩)] 62)) := ⟨one_cell (heap_here _ _), Below.refl _ _⟩
  have hba := below_a1 w (.cells #[.pointer (some ⟨g, 0, none⟩)] 62)
  have hsa := heap_size_alloc w (.cells #[.pointer (some ⟨g, 0, none⟩)] 62)
  obtain ⟨wa, hwa⟩ : ∃ wa, w.alloc (.cells #[.pointer (some ⟨g, 0, none⟩)] 62) = wa := ⟨_, rfl⟩
  rw [hwa] at hkept HZ hba hsa
  have HWA := Lib.hid hwa
  have HBA := Lib.hid hba
  clear hz hwa hba
  go_enter Tryz.func59, Tryz.ntmps59
  go_upto_region 1 with fail
  rw [HWA.out]
  go_region_held3 (fun w' => w'.cell? ⟨w.heap.size, 0, none⟩ = some (.pointer (some ⟨g, 0, none⟩)) ∧ Below wa.heap.size wa w')
    (first | exact iz_drew hkept | exact iz_grow (by assumption) hgr | assumption)
    (first
      | (go_at_call 109; refine (zeroUint_walk _).mono ?_; rintro e w7 ⟨g7, rfl, hi7, hgr, hf7⟩; have HI7 := Lib.hid hi7; have hs7 : g < g7 := Nat.lt_of_lt_of_le hlt (Nat.le_trans HBA.out.size (Nat.le_trans (by go_split_ands; exact Below.size (by assumption)) hf7)); clear hi7 hf7)
      | (go_at_call 108; refine (HE.out g7 _ (HZ.out.below (by go_split_ands; assumption)) HI7.out (by omega)).mono ?_; rintro e w8 ⟨rfl, hgr⟩))
  all_goals
    have hB := (‹_ ∧ Below wa.heap.size wa w8›).2
    go_wp2_with fail
    go_ret
    exact ⟨rfl, bt HBA.out hB⟩

/-- The number as a uint64; 0 where it is none. -/
def lowZ (z : Int) : Int := if z < 18446744073709551616 then z else 0
set_option maxRecDepth 100000 in
set_option maxHeartbeats 1000000 in
theorem aboutCC_walk (bx bn g : Nat) (z : Int) (w : World) (hx : w.heap[bx]? = some (.cells #[.pointer (some ⟨g, 0, none⟩)] 62 (0, 0))) (hn : w.heap[bn]? = some (.cells #[.int .u64 0] 22 (0, 0))) (hz : IntAt w g z) (hp : ¬ z < 0) (hlt : z < 18446744073709551616) :
    Calls Tryz.prog 60 #[.pointer (some ⟨bx, 0, none⟩), .pointer (some ⟨bn, 0, none⟩)] w fun e w' => e = .returned (.tuple #[]) ∧ Ext (fun k => k = bn) w w' ∧ w'.heap[bn]? = some (.cells #[.int .u64 z] 22 (0, 0)) := by
  have c0 := one_cell hx
  have HU := Lib.hid (uintUint64_walk g z w hz hp hlt)
  have HN := Lib.hid hn
  have ltn := iter_lt hn
  clear hx hn hz
  go_enter Tryz.func60, Tryz.ntmps60
  go_wp2_with fail
  refine HU.out.mono ?_
  rintro e w1 ⟨rfl, hb⟩
  have kn := (hb.block bn ltn).trans HN.out
  have c1 := one_cell kn
  have f1 := one_free kn 0
  have KN := Lib.hid kn
  have HB := Lib.hid hb
  clear kn hb
  go_wp2_with fail
  go_end0
  exact ⟨rfl, Ext.setCell (D := fun k => k = bn) (p := ⟨bn, 0, none⟩) (Ext.of_below HB.out) (fun _ => rfl) _, one_set KN.out⟩
set_option maxRecDepth 100000 in
set_option maxHeartbeats 1000000 in
theorem aboutCC_panic (bx bn g : Nat) (z : Int) (w : World) (hx : w.heap[bx]? = some (.cells #[.pointer (some ⟨g, 0, none⟩)] 62 (0, 0))) (hz : IntAt w g z) (hp : ¬ z < 0) (hlt : ¬ z < 18446744073709551616) :
    Calls Tryz.prog 60 #[.pointer (some ⟨bx, 0, none⟩), .pointer (some ⟨bn, 0, none⟩)] w (PanicPost w) := by
  have c0 := one_cell hx
  have HU := Lib.hid (uintUint64_panic g z w hz hp hlt)
  clear hx hz
  go_enter Tryz.func60, Tryz.ntmps60
  go_wp2_with fail
  refine HU.out.mono ?_
  rintro e w5 ⟨t5, v5, rfl, hb5⟩
  have HB5 := Lib.hid hb5
  clear hb5
  go_wp2_with fail
  have hp : PanicPost w (.panicked [{ v := .iface t5 v5, recovered := false }]) w5 := ⟨_, _, rfl, HB5.out⟩
  exact ⟨rfl, hp⟩
set_option maxRecDepth 100000 in
theorem callCC_about : ∀ (caps : Array Value) (w : World), (callFunc 60 caps).run Tryz.prog w = .ok (.enter 60 caps) w := fun _ _ => by rfl
theorem about_safe (bx bn g : Nat) (z : Int) (w : World) (hx : w.heap[bx]? = some (.cells #[.pointer (some ⟨g, 0, none⟩)] 62 (0, 0))) (hn : w.heap[bn]? = some (.cells #[.int .u64 0] 22 (0, 0))) (hz : IntAt w g z) (hp : ¬ z < 0) :
    Calls Tryz.prog 41 #[.func (.func 60) #[] #[.pointer (some ⟨bx, 0, none⟩), .pointer (some ⟨bn, 0, none⟩)]] w fun e w' => e = .returned (.bool (decide (z < 18446744073709551616))) ∧ Ext (fun k => k = bn) w w' ∧
      w'.heap[bn]? = some (.cells #[.int .u64 (lowZ z)] 22 (0, 0)) := by
  have ltn := iter_lt hn
  by_cases ho : z < 18446744073709551616
  · have e1 : lowZ z = z := if_pos ho
    rw [e1, decide_eq_true ho]
    refine safe_ret 60 _ w (fun w' => Ext (fun k => k = bn) w w' ∧ w'.heap[bn]? = some (.cells #[.int .u64 z] 22 (0, 0))) (callCC_about _) ?_
    refine (aboutCC_walk bx bn g z _ (heap_old hx) (heap_old hn) (hz.below (below_a1 _ _)) hp ho).mono ?_
    rintro e w1 ⟨rfl, he, k2⟩
    refine ⟨rfl, (he.block w.heap.size (by rw [heap_size_alloc]; omega) (by omega)).trans (heap_here _ _), ?_, ?_⟩
    · exact ((((Ext.refl _ w).alloc _).trans he).setCell (p := ⟨w.heap.size, 0, none⟩) (fun h => absurd h (Nat.lt_irrefl _)) _).setCell (p := ⟨w.heap.size, 0, none⟩) (fun h => absurd h (Nat.lt_irrefl _)) _
    · exact ((one_other (by show bn ≠ w.heap.size; omega)).trans (one_other (by show bn ≠ w.heap.size; omega))).trans k2
  · have e1 : lowZ z = 0 := if_neg ho
    rw [e1, decide_eq_false ho]
    refine safe_panics 60 _ w (fun w' => Ext (fun k => k = bn) w w' ∧ w'.heap[bn]? = some (.cells #[.int .u64 0] 22 (0, 0))) (callCC_about _) ?_
    refine (aboutCC_panic bx bn g z _ (heap_old hx) (hz.below (below_a1 _ _)) hp ho).mono ?_
    rintro e w1 ⟨t, v, rfl, hb⟩
    refine ⟨t, v, rfl, (hb.block w.heap.size (by rw [heap_size_alloc]; omega)).trans (heap_here _ _), ?_, ?_⟩
    · exact (((Ext.refl _ w).alloc _).trans (Ext.of_below hb)).setCell (p := ⟨w.heap.size, 0, none⟩) (fun h => absurd h (Nat.lt_irrefl _)) _
    · exact ((one_other (by show bn ≠ w.heap.size; omega)).trans (hb.block bn (by rw [heap_size_alloc]; omega))).trans (heap_old hn)

/-- What holds on the way in impl.UintAbout's closure. -/
structure AbM (B bx g : Nat) (z : Int) (v1 v2 v3 v4 : Value) (w0 w : World) : Prop where
  k1 : w.heap[B + 1]? = some (.cells #[v1] 4 (0, 0))
  k2 : w.heap[B + 1 + 1]? = some (.cells #[v2] 4 (0, 0))
  k3 : w.heap[B + 1 + 1 + 1]? = some (.cells #[v3] 22 (0, 0))
  k4 : w.heap[B + 1 + 1 + 1 + 1]? = some (.cells #[v4] 4 (0, 0))
  kx : w.heap[bx]? = some (.cells #[.pointer (some ⟨g, 0, none⟩)] 62 (0, 0))
  hi : IntAt w g z
  lx : B + 1 + 1 + 1 + 1 < bx
  ext : Ext (fun k => B + 1 ≤ k ∧ k ≤ B + 1 + 1 + 1 + 1) w0 w
theorem AbM.below {B bx g : Nat} {z : Int} {v1 v2 v3 v4 : Value} {w0 w w' : World} (h : AbM B bx g z v1 v2 v3 v4 w0 w) (hb : Below w.heap.size w w') : AbM B bx g z v1 v2 v3 v4 w0 w' :=
  ⟨(hb.block _ (iter_lt h.k1)).trans h.k1, (hb.block _ (iter_lt h.k2)).trans h.k2, (hb.block _ (iter_lt h.k3)).trans h.k3, (hb.block _ (iter_lt h.k4)).trans h.k4, (hb.block _ (iter_lt h.kx)).trans h.kx, h.hi.below hb, h.lx, h.ext.then_below hb⟩
theorem AbM.set1 {B bx g : Nat} {z : Int} {v1 v2 v3 v4 : Value} {w0 w : World} (h : AbM B bx g z v1 v2 v3 v4 w0 w) (v : Value) : AbM B bx g z v v2 v3 v4 w0 (w.setCell ⟨B + 1, 0, none⟩ v) := by
  have hl := h.lx
  exact ⟨one_set h.k1, (one_other (by show B + 1 + 1 ≠ B + 1; omega)).trans h.k2, (one_other (by show B + 1 + 1 + 1 ≠ B + 1; omega)).trans h.k3, (one_other (by show B + 1 + 1 + 1 + 1 ≠ B + 1; omega)).trans h.k4, (one_other (by show bx ≠ B + 1; omega)).trans h.kx, h.hi.store h.k1 (by decide) (by decide) _, h.lx,
    h.ext.setCell (p := ⟨B + 1, 0, none⟩) (fun _ => ⟨Nat.le_refl _, by show B + 1 ≤ B + 1 + 1 + 1 + 1; omega⟩) _⟩
theorem AbM.set2 {B bx g : Nat} {z : Int} {v1 v2 v3 v4 : Value} {w0 w : World} (h : AbM B bx g z v1 v2 v3 v4 w0 w) (v : Value) : AbM B bx g z v1 v v3 v4 w0 (w.setCell ⟨B + 1 + 1, 0, none⟩ v) := by
  have hl := h.lx
  exact ⟨(one_other (by show B + 1 ≠ B + 1 + 1; omega)).trans h.k1, one_set h.k2, (one_other (by show B + 1 + 1 + 1 ≠ B + 1 + 1; omega)).trans h.k3, (one_other (by show B + 1 + 1 + 1 + 1 ≠ B + 1 + 1; omega)).trans h.k4, (one_other (by show bx ≠ B + 1 + 1; omega)).trans h.kx, h.hi.store h.k2 (by decide) (by decide) _, h.lx,
    h.ext.setCell (p := ⟨B + 1 + 1, 0, none⟩) (fun _ => ⟨by show B + 1 ≤ B + 1 + 1; omega, by show B + 1 + 1 ≤ B + 1 + 1 + 1 + 1; omega⟩) _⟩

set_option maxRecDepth 100000 in
set_option maxHeartbeats 4000000 in
theorem aboutC_walk (l : List UInt8) (p : Addr) (B : Nat) (w : World) (hok : readOk l = true) (hl : l.length ≤ 1000) (hp : EofIs w p) (ox : overU (readZ l) = false)
    (h0 : w.heap[B]? = some (.cells #[.string (S l)] 9 (0, 0))) (h1 : w.heap[B + 1]? = some (.cells #[.bool false] 4 (0, 0))) (h2 : w.heap[B + 1 + 1]? = some (.cells #[.bool false] 4 (0, 0)))
    (h3 : w.heap[B + 1 + 1 + 1]? = some (.cells #[.int .u64 0] 22 (0, 0))) (h4 : w.heap[B + 1 + 1 + 1 + 1]? = some (.cells #[.bool false] 4 (0, 0))) :
    Calls Tryz.prog 57 #[.pointer (some ⟨B, 0, none⟩), .pointer (some ⟨B + 1 + 1, 0, none⟩), .pointer (some ⟨B + 1, 0, none⟩), .pointer (some ⟨B + 1 + 1 + 1, 0, none⟩), .pointer (some ⟨B + 1 + 1 + 1 + 1, 0, none⟩)] w
      fun e w' => e = .returned (.tuple #[]) ∧ Ext (fun k => B + 1 ≤ k ∧ k ≤ B + 1 + 1 + 1 + 1) w w' ∧ w'.heap[B + 1]? = some (.cells #[.bool (decide (readZ l = 0))] 4 (0, 0)) ∧ w'.heap[B + 1 + 1]? = some (.cells #[.bool false] 4 (0, 0)) ∧
        w'.heap[B + 1 + 1 + 1]? = some (.cells #[.int .u64 (lowZ (readZ l))] 22 (0, 0)) ∧ w'.heap[B + 1 + 1 + 1 + 1]? = some (.cells #[.bool (decide (readZ l < 18446744073709551616))] 4 (0, 0)) := by
  have hmf : ∀ (fn : Fn) (first cap : Array Value) (w : World), (Instr.makeFunc fn first cap).run Tryz.prog w = .ok (.func fn first cap) w := fun _ _ _ _ => rfl
  have hpz := overU_pos ox
  have c0 := one_cell h0
  have lt4 := iter_lt h4
  have HU := Lib.hid (unsigned_walk l p w hok hl hp ox)
  have HB0 : Hid (∀ (w1 : World) (g : Nat), IntAt w1 g (readZ l) → Below w.heap.size w w1 → AbM B w1.heap.size g (readZ l) (.bool false) (.bool false) (.int .u64 0) (.bool false) w (w1.alloc (.cells #[.pointer (some ⟨g, 0, none⟩)] 62))) := Lib.hid (fun w1 g hi hb =>
    ⟨heap_old ((hb.block _ (iter_lt h1)).trans h1), heap_old ((hb.block _ (iter_lt h2)).trans h2), heap_old ((hb.block _ (iter_lt h3)).trans h3), heap_old ((hb.block _ (iter_lt h4)).trans h4), heap_here _ _, hi.below (below_a1 _ _), Nat.lt_of_lt_of_le lt4 hb.size, Ext.of_below (bt hb (below_a1 _ _))⟩)
  obtain ⟨z, hz⟩ : ∃ z, readZ l = z := ⟨_, rfl⟩
  rw [hz] at HU HB0 hpz
  rw [hz]
  have HPZ := Lib.hid hpz
  clear h0 h1 h2 h3 h4 hp hz hok hpz ox
  go_enter Tryz.func57, Tryz.ntmps57
  go_wp2_with fail
  refine HU.out.mono ?_
  rintro e w1 ⟨g, rfl, hi1, hb1, _⟩
  have M1 := Lib.hid (HB0.out w1 g hi1 hb1)
  clear hi1 hb1
  go_wp2_with fail
  obtain ⟨wB, hwB⟩ : ∃ wB, w1.alloc (.cells #[.pointer (some ⟨g, 0, none⟩)] 62) = wB := ⟨_, rfl⟩
  rw [hwB] at M1 ⊢
  clear hwB
  refine (isNil_walk g _).mono ?_
  rintro e w2 ⟨rfl, hb2⟩
  have m2 := M1.out.below hb2
  have d2 := one_cell m2.k2
  have f2 := one_free m2.k2 0
  have dx := one_cell m2.kx
  have M2 := Lib.hid (m2.set2 (.bool false))
  have ne2 : w1.heap.size ≠ B + 1 + 1 := by have := m2.lx; omega
  clear m2 hb2
  go_wp2_with fail
  obtain ⟨wC, hwC⟩ : ∃ wC, w2.setCell ⟨B + 1 + 1, 0, none⟩ (.bool false) = wC := ⟨_, rfl⟩
  rw [hwC] at M2 ⊢
  clear hwC d2 f2 dx ne2
  refine (isZero_walk g z wC M2.out.hi (by have := HPZ.out; omega)).mono ?_
  rintro e w3 ⟨rfl, hb3⟩
  have m3 := M2.out.below hb3
  have d1 := one_cell m3.k1
  have f1 := one_free m3.k1 0
  have M3 := Lib.hid (m3.set1 (.bool (decide (z = 0))))
  clear m3 hb3
  go_wp2_with fail
  obtain ⟨wD, hwD⟩ : ∃ wD, w3.setCell ⟨B + 1, 0, none⟩ (.bool (decide (z = 0))) = wD := ⟨_, rfl⟩
  rw [hwD] at M3 ⊢
  clear hwD d1 f1
  refine (about_safe w1.heap.size (B + 1 + 1 + 1) g z wD M3.out.kx M3.out.k3 M3.out.hi (by have := HPZ.out; omega)).mono ?_
  rintro e w4 ⟨rfl, he4, hn4⟩
  have hlx := M3.out.lx
  have e1 := (he4.block _ (iter_lt M3.out.k1) (by omega)).trans M3.out.k1
  have e2 := (he4.block _ (iter_lt M3.out.k2) (by omega)).trans M3.out.k2
  have e4 := (he4.block _ (iter_lt M3.out.k4) (by omega)).trans M3.out.k4
  have d4 := one_cell e4
  have f4 := one_free e4 0
  have HX := Lib.hid (M3.out.ext.trans (he4.mono (D' := fun k => B + 1 ≤ k ∧ k ≤ B + 1 + 1 + 1 + 1) (fun k _ h => by omega)))
  have E1 := Lib.hid e1
  have E2 := Lib.hid e2
  have E3 := Lib.hid hn4
  have E4 := Lib.hid e4
  clear e1 e2 e4 hn4 he4 hlx
  go_wp2_with fail
  go_end0
  exact ⟨rfl, HX.out.setCell (p := ⟨B + 1 + 1 + 1 + 1, 0, none⟩) (fun _ => ⟨by show B + 1 ≤ B + 1 + 1 + 1 + 1; omega, Nat.le_refl _⟩) _, (one_other (by show B + 1 ≠ B + 1 + 1 + 1 + 1; omega)).trans E1.out, (one_other (by show B + 1 + 1 ≠ B + 1 + 1 + 1 + 1; omega)).trans E2.out,
    (one_other (by show B + 1 + 1 + 1 ≠ B + 1 + 1 + 1 + 1; omega)).trans E3.out, one_set E4.out⟩
set_option maxRecDepth 100000 in
theorem callC_about : ∀ (caps : Array Value) (w : World), (callFunc 57 caps).run Tryz.prog w = .ok (.enter 57 caps) w := fun _ _ => by rfl

/-- The four results' cells. -/
structure FourM (B : Nat) (v1 v2 v3 v4 : Value) (w0 w : World) : Prop where
  k1 : w.heap[B + 1]? = some (.cells #[v1] 4 (0, 0))
  k2 : w.heap[B + 1 + 1]? = some (.cells #[v2] 4 (0, 0))
  k3 : w.heap[B + 1 + 1 + 1]? = some (.cells #[v3] 22 (0, 0))
  k4 : w.heap[B + 1 + 1 + 1 + 1]? = some (.cells #[v4] 4 (0, 0))
  below : Below B w0 w
theorem FourM.s {B : Nat} {v1 v2 v3 v4 : Value} {w0 w : World} (h : FourM B v1 v2 v3 v4 w0 w) :
    w.cell? ⟨B + 1, 0, none⟩ = some v1 ∧ w.cell? ⟨B + 1 + 1, 0, none⟩ = some v2 ∧ w.cell? ⟨B + 1 + 1 + 1, 0, none⟩ = some v3 ∧ w.cell? ⟨B + 1 + 1 + 1 + 1, 0, none⟩ = some v4 ∧
    w.frozen? ⟨B + 1, 0, none⟩ = false ∧ w.frozen? ⟨B + 1 + 1, 0, none⟩ = false ∧ w.frozen? ⟨B + 1 + 1 + 1, 0, none⟩ = false ∧ w.frozen? ⟨B + 1 + 1 + 1 + 1, 0, none⟩ = false ∧ FourM B v1 v2 v3 v4 w0 w :=
  ⟨one_cell h.k1, one_cell h.k2, one_cell h.k3, one_cell h.k4, one_free h.k1 0, one_free h.k2 0, one_free h.k3 0, one_free h.k4 0, h⟩
theorem FourM.set1 {B : Nat} {v1 v2 v3 v4 : Value} {w0 w : World} (h : FourM B v1 v2 v3 v4 w0 w) : FourM B v1 v2 v3 v4 w0 (w.setCell ⟨B + 1, 0, none⟩ v1) :=
  ⟨one_set h.k1, (one_other (by show B + 1 + 1 ≠ B + 1; omega)).trans h.k2, (one_other (by show B + 1 + 1 + 1 ≠ B + 1; omega)).trans h.k3, (one_other (by show B + 1 + 1 + 1 + 1 ≠ B + 1; omega)).trans h.k4, h.below.setCell (p := ⟨B + 1, 0, none⟩) (by show B ≤ B + 1; omega) _⟩
theorem FourM.set2 {B : Nat} {v1 v2 v3 v4 : Value} {w0 w : World} (h : FourM B v1 v2 v3 v4 w0 w) : FourM B v1 v2 v3 v4 w0 (w.setCell ⟨B + 1 + 1, 0, none⟩ v2) :=
  ⟨(one_other (by show B + 1 ≠ B + 1 + 1; omega)).trans h.k1, one_set h.k2, (one_other (by show B + 1 + 1 + 1 ≠ B + 1 + 1; omega)).trans h.k3, (one_other (by show B + 1 + 1 + 1 + 1 ≠ B + 1 + 1; omega)).trans h.k4, h.below.setCell (p := ⟨B + 1 + 1, 0, none⟩) (by show B ≤ B + 1 + 1; omega) _⟩
theorem FourM.set3 {B : Nat} {v1 v2 v3 v4 : Value} {w0 w : World} (h : FourM B v1 v2 v3 v4 w0 w) : FourM B v1 v2 v3 v4 w0 (w.setCell ⟨B + 1 + 1 + 1, 0, none⟩ v3) :=
  ⟨(one_other (by show B + 1 ≠ B + 1 + 1 + 1; omega)).trans h.k1, (one_other (by show B + 1 + 1 ≠ B + 1 + 1 + 1; omega)).trans h.k2, one_set h.k3, (one_other (by show B + 1 + 1 + 1 + 1 ≠ B + 1 + 1 + 1; omega)).trans h.k4, h.below.setCell (p := ⟨B + 1 + 1 + 1, 0, none⟩) (by show B ≤ B + 1 + 1 + 1; omega) _⟩
theorem FourM.set4 {B : Nat} {v1 v2 v3 v4 : Value} {w0 w : World} (h : FourM B v1 v2 v3 v4 w0 w) : FourM B v1 v2 v3 v4 w0 (w.setCell ⟨B + 1 + 1 + 1 + 1, 0, none⟩ v4) :=
  ⟨(one_other (by show B + 1 ≠ B + 1 + 1 + 1 + 1; omega)).trans h.k1, (one_other (by show B + 1 + 1 ≠ B + 1 + 1 + 1 + 1; omega)).trans h.k2, (one_other (by show B + 1 + 1 + 1 ≠ B + 1 + 1 + 1 + 1; omega)).trans h.k3, one_set h.k4, h.below.setCell (p := ⟨B + 1 + 1 + 1 + 1, 0, none⟩) (by show B ≤ B + 1 + 1 + 1 + 1; omega) _⟩
theorem FourM.drew {B : Nat} {v1 v2 v3 v4 : Value} {w0 w : World} (h : FourM B v1 v2 v3 v4 w0 w) : FourM B v1 v2 v3 v4 w0 w.drew := ⟨h.k1, h.k2, h.k3, h.k4, h.below.drew⟩

set_option maxRecDepth 100000 in
set_option maxHeartbeats 4000000 in
theorem uintAbout_walk (l : List UInt8) (p : Addr) (w : World) (hok : readOk l = true) (hl : l.length ≤ 1000) (hp : EofIs w p) (ox : overU (readZ l) = false) :
    Calls Tryz.prog 25 #[.string (S l)] w fun e w' => e = .returned (.tuple #[.bool (decide (readZ l = 0)), .bool false, .int .u64 (lowZ (readZ l)), .bool (decide (readZ l < 18446744073709551616))]) ∧ Below w.heap.size w w' := by
  have hmf : ∀ (fn : Fn) (first cap : Array Value) (w : World), (Instr.makeFunc fn first cap).run Tryz.prog w = .ok (.func fn first cap) w := fun _ _ _ _ => rfl
  have HS : Hid (Calls Tryz.prog 41 #[.func (.func 57) #[] #[.pointer (some ⟨w.heap.size, 0, none⟩), .pointer (some ⟨w.heap.size + 1 + 1, 0, none⟩), .pointer (some ⟨w.heap.size + 1, 0, none⟩), .pointer (some ⟨w.heap.size + 1 + 1 + 1, 0, none⟩), .pointer (some ⟨w.heap.size + 1 + 1 + 1 + 1, 0, none⟩)]]
      (((((w.alloc (.cells #[.string (S l)] 9)).alloc (.cells #[.bool false] 4)).alloc (.cells #[.bool false] 4)).alloc (.cells #[.int .u64 0] 22)).alloc (.cells #[.bool false] 4))
      fun e w' => e = .returned (.bool true) ∧ FourM w.heap.size (.bool (decide (readZ l = 0))) (.bool false) (.int .u64 (lowZ (readZ l))) (.bool (decide (readZ l < 18446744073709551616))) w w') := by
    apply Lib.hid
    have k0 : (((((w.alloc (.cells #[.string (S l)] 9)).alloc (.cells #[.bool false] 4)).alloc (.cells #[.bool false] 4)).alloc (.cells #[.int .u64 0] 22)).alloc (.cells #[.bool false] 4)).heap[w.heap.size]? = some (.cells #[.string (S l)] 9 (0, 0)) := heap_old (heap_old (heap_old (heap_old (heap_here _ _))))
    have k1 : (((((w.alloc (.cells #[.string (S l)] 9)).alloc (.cells #[.bool false] 4)).alloc (.cells #[.bool false] 4)).alloc (.cells #[.int .u64 0] 22)).alloc (.cells #[.bool false] 4)).heap[w.heap.size + 1]? = some (.cells #[.bool false] 4 (0, 0)) := heap_old (heap_old (heap_old (heap_at _ _ (by rw [heap_size_alloc]))))
    have k2 : (((((w.alloc (.cells #[.string (S l)] 9)).alloc (.cells #[.bool false] 4)).alloc (.cells #[.bool false] 4)).alloc (.cells #[.int .u64 0] 22)).alloc (.cells #[.bool false] 4)).heap[w.heap.size + 1 + 1]? = some (.cells #[.bool false] 4 (0, 0)) := heap_old (heap_old (heap_at _ _ (by simp only [heap_size_alloc])))
    have k3 : (((((w.alloc (.cells #[.string (S l)] 9)).alloc (.cells #[.bool false] 4)).alloc (.cells #[.bool false] 4)).alloc (.cells #[.int .u64 0] 22)).alloc (.cells #[.bool false] 4)).heap[w.heap.size + 1 + 1 + 1]? = some (.cells #[.int .u64 0] 22 (0, 0)) := heap_old (heap_at _ _ (by simp only [heap_size_alloc]))
    have k4 : (((((w.alloc (.cells #[.string (S l)] 9)).alloc (.cells #[.bool false] 4)).alloc (.cells #[.bool false] 4)).alloc (.cells #[.int .u64 0] 22)).alloc (.cells #[.bool false] 4)).heap[w.heap.size + 1 + 1 + 1 + 1]? = some (.cells #[.bool false] 4 (0, 0)) := heap_at _ _ (by simp only [heap_size_alloc])
    have hb : Below w.heap.size w (((((w.alloc (.cells #[.string (S l)] 9)).alloc (.cells #[.bool false] 4)).alloc (.cells #[.bool false] 4)).alloc (.cells #[.int .u64 0] 22)).alloc (.cells #[.bool false] 4)) := bt (bt (below_a2 _ _ _) (below_a2 _ _ _)) (below_a1 _ _)
    obtain ⟨wa, hwa⟩ : ∃ wa, ((((w.alloc (.cells #[.string (S l)] 9)).alloc (.cells #[.bool false] 4)).alloc (.cells #[.bool false] 4)).alloc (.cells #[.int .u64 0] 22)).alloc (.cells #[.bool false] 4) = wa := ⟨_, rfl⟩
    rw [hwa] at k0 k1 k2 k3 k4 hb ⊢
    clear hwa
    have lt4 := iter_lt k4
    refine safe_ret 57 _ wa (fun w' => FourM w.heap.size (.bool (decide (readZ l = 0))) (.bool false) (.int .u64 (lowZ (readZ l))) (.bool (decide (readZ l < 18446744073709551616))) w w') (callC_about _) ?_
    refine (aboutC_walk l p w.heap.size _ hok hl ((hp.below hb).below (below_a1 _ _)) ox (heap_old k0) (heap_old k1) (heap_old k2) (heap_old k3) (heap_old k4)).mono ?_
    rintro e w1 ⟨rfl, he, j1, j2, j3, j4⟩
    have oth : ∀ (k : Nat), k < wa.heap.size → ((w1.setCell ⟨wa.heap.size, 0, none⟩ (.bool true)).setCell ⟨wa.heap.size, 0, none⟩ (.bool true)).heap[k]? = w1.heap[k]? := fun k hk => (one_other (by show k ≠ wa.heap.size; omega)).trans (one_other (by show k ≠ wa.heap.size; omega))
    refine ⟨rfl, (he.block wa.heap.size (by rw [heap_size_alloc]; omega) (by omega)).trans (heap_here _ _), ⟨(oth _ (by omega)).trans j1, (oth _ (by omega)).trans j2, (oth _ (by omega)).trans j3, (oth _ lt4).trans j4, ?_⟩⟩
    refine Below.setCell (Below.setCell ?_ (by show w.heap.size ≤ wa.heap.size; omega) _) (by show w.heap.size ≤ wa.heap.size; omega) _
    exact (hb.trans ((below_a1 wa _).mono (by omega))).trans (he.below (by rw [heap_size_alloc]; omega) (fun k hk => by omega))
  obtain ⟨v1, hv1⟩ : ∃ v1, decide (readZ l = 0) = v1 := ⟨_, rfl⟩
  obtain ⟨v3, hv3⟩ : ∃ v3, lowZ (readZ l) = v3 := ⟨_, rfl⟩
  obtain ⟨v4, hv4⟩ : ∃ v4, decide (readZ l < 18446744073709551616) = v4 := ⟨_, rfl⟩
  rw [hv1, hv3, hv4] at HS ⊢
  clear hv1 hv3 hv4 hok hp ox
  go_enter Tryz.func25, Tryz.ntmps25
  go_wp2_with fail
  refine HS.out.mono ?_
  rintro e w1 ⟨rfl, hm⟩
  go_upto_region 2 with fail
  go_region_held3 (fun w' => w'.cell? ⟨w.heap.size + 1, 0, none⟩ = some (.bool v1) ∧ w'.cell? ⟨w.heap.size + 1 + 1, 0, none⟩ = some (.bool false) ∧ w'.cell? ⟨w.heap.size + 1 + 1 + 1, 0, none⟩ = some (.int .u64 v3) ∧ w'.cell? ⟨w.heap.size + 1 + 1 + 1 + 1, 0, none⟩ = some (.bool v4) ∧
      w'.frozen? ⟨w.heap.size + 1, 0, none⟩ = false ∧ w'.frozen? ⟨w.heap.size + 1 + 1, 0, none⟩ = false ∧ w'.frozen? ⟨w.heap.size + 1 + 1 + 1, 0, none⟩ = false ∧ w'.frozen? ⟨w.heap.size + 1 + 1 + 1 + 1, 0, none⟩ = false ∧ FourM w.heap.size (.bool v1) (.bool false) (.int .u64 v3) (.bool v4) w w')
    (first | assumption | ((with_reducible refine FourM.s (FourM.drew ?_)); (repeat' first | (with_reducible exact hm) | (with_reducible refine FourM.set1 ?_) | (with_reducible refine FourM.set2 ?_) | (with_reducible refine FourM.set3 ?_) | (with_reducible refine FourM.set4 ?_)); done))
    (fail)
  all_goals
    have hI := FourM.set4 (FourM.set3 (FourM.set2 (FourM.set1 hm)))
    have d1 := one_cell hI.k1
    have d2 := one_cell hI.k2
    have d3 := one_cell hI.k3
    have d4 := one_cell hI.k4
    have HI := Lib.hid hI.below.drew
    clear hI
    go_wp2_with fail
    exact bodyPost_ret (v := .tuple #[.bool v1, .bool false, .int .u64 v3, .bool v4]) (by simp [results, Tryz.results25, go_sem, d1, d2, d3, d4]) rfl ⟨rfl, HI.out⟩
end Go.Proofs.YthipbglnaalhmaaGreatDoor
