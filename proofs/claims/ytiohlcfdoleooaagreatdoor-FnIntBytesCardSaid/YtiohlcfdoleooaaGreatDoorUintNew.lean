/-
  cosmosmath.checkNewUint, NewUintFromBigInt, impl.unsigned, Uint.String.
-/
import Derived.Test.YtiohlcfdoleooaaGreatDoorIntSet
import Derived.Test.YtiohlcfdoleooaaGreatDoorIntStr
namespace Go.Proofs.YtiohlcfdoleooaaGreatDoor
open Go.RowKit

/-- A store into a block that holds no words. -/
theorem IntAt.store {w : World} {g s o : Nat} {z : Int} {cs : Array Value} {T : TypeId} (h : IntAt w g z) (hs : w.heap[s]? = some (.cells cs T (0, 0))) (hT : T ≠ 150) (hT2 : T ≠ 101) (u : Value) : IntAt (w.setCell ⟨s, o, none⟩ u) g z := by
  obtain ⟨A, c, h1, h2, h3, h4⟩ := h
  have hg : g ≠ s := by
    intro e
    subst e
    rw [h1] at hs
    injection hs with hs
    injection hs with _ h _
    exact hT2 h.symm
  refine ⟨A, c, (one_other hg).trans h1, h2, h3, ?_⟩
  rcases h4 with h4 | ⟨gA, zs, r, rfl, hrow, h5⟩
  · exact .inl h4
  · refine .inr ⟨gA, zs, r, rfl, hrow.other u ?_, h5⟩
    intro e
    have e' : gA = s := e
    subst e'
    unfold Row at hrow
    rw [hrow] at hs
    injection hs with hs
    injection hs with _ h _
    exact hT h.symm
/-- A Uint or Int of cosmosmath by value. -/
def MadePost (w : World) (z : Int) (e : Ending) (w' : World) : Prop := ∃ g, e = .returned (.agg #[.pointer (some ⟨g, 0, none⟩)]) ∧ IntAt w' g z ∧ Below w.heap.size w w' ∧ w.heap.size ≤ g
def PanicPost (w : World) (e : Ending) (w' : World) : Prop := ∃ t v, e = .panicked [{ v := .iface t v, recovered := false }] ∧ Below w.heap.size w w'
def CheckPost (w : World) (z : Int) (e : Ending) (w' : World) : Prop := ∃ g, e = .returned (.tuple #[.agg #[.pointer (some ⟨g, 0, none⟩)], .nilIface]) ∧ IntAt w' g z ∧ Below w.heap.size w w' ∧ w.heap.size ≤ g
def CheckErr (w : World) (e : Ending) (w' : World) : Prop := ∃ a, e = .returned (.tuple #[.agg #[.pointer none], .iface 145 (.pointer (some a))]) ∧ Below w.heap.size w w'

set_option maxRecDepth 100000 in
set_option maxHeartbeats 2000000 in
theorem checkNewUint_walk (g : Nat) (z : Int) (w : World) (hz : IntAt w g z) (hl : (wds z.natAbs).length ≤ 80000) (ho : overU z = false) :
    Calls Tryz.prog 171 #[.pointer (some ⟨g, 0, none⟩)] w (CheckPost w z) := by
  have HZ := Lib.hid hz
  have hg := hz.lt
  clear hz
  go_enter Tryz.func171, Tryz.ntmps171
  go_wp2_with fail
  refine (uintOverflow_walk g z _ (HZ.out.below (below_a1 _ _)) (by omega)).mono ?_
  rw [ho]
  rintro e w2 ⟨⟨a, rfl⟩, hb2⟩
  rw [if_neg (by decide)]
  have hk2 := (hb2.block w.heap.size (by rw [heap_size_alloc]; omega)).trans (heap_here w (.cells #[.pointer none] 64))
  have hb02 := bt (below_a1 w (.cells #[.pointer none] 64)) hb2
  have HK2 := Lib.hid hk2
  have HB2 := Lib.hid hb02
  have hs2 := hb02.size
  have hs3 := hb2.size
  rw [heap_size_alloc] at hs3
  clear hk2 hb02 hb2
  go_wp2_with fail
  refine (intSet_walk w2.heap.size g z _ (heap_here _ _) ((HZ.out.below HB2.out).below (below_a1 _ _)) (by omega) hl).mono ?_
  rintro e w4 ⟨rfl, hi4, hx4⟩
  have hk4 := (hx4.block w.heap.size (by rw [heap_size_alloc]; omega) (by omega)).trans (heap_old (o := .cells #[.bool false, .slice none 0 0] 101) HK2.out)
  have c0 := one_cell hk4
  have f0 := one_free hk4 0
  have HK4 := Lib.hid hk4
  have HI4 := Lib.hid hi4
  have HX4 := Lib.hid hx4
  clear hk4 hi4 hx4
  go_wp2_with fail
  have k0 := one_set (u := .pointer (some ⟨w2.heap.size, 0, none⟩)) HK4.out
  have d0 := one_cell k0
  exact bodyPost_ret (v := .tuple #[.agg #[.pointer (some ⟨w2.heap.size, 0, none⟩)], .nilIface]) (by simp [results, Tryz.results171, go_sem, d0]) rfl
    ⟨_, rfl, HI4.out.store HK4.out (by decide) (by decide) _, (((HB2.out.alloc HB2.out.size _).trans (HX4.out.below (by rw [heap_size_alloc]; omega) (fun k hk => by omega)))).setCell (p := ⟨w.heap.size, 0, none⟩) (Nat.le_refl _) _, hs2⟩

set_option maxRecDepth 100000 in
set_option maxHeartbeats 2000000 in
theorem checkNewUint_err (g : Nat) (z : Int) (w : World) (hz : IntAt w g z) (hl : (wds z.natAbs).length ≤ 80000) (ho : overU z = true) :
    Calls Tryz.prog 171 #[.pointer (some ⟨g, 0, none⟩)] w (CheckErr w) := by
  have HZ := Lib.hid hz
  clear hz
  go_enter Tryz.func171, Tryz.ntmps171
  go_wp2_with fail
  refine (uintOverflow_walk g z _ (HZ.out.below (below_a1 _ _)) (by omega)).mono ?_
  rw [ho]
  rintro e w2 ⟨⟨a, rfl⟩, hb2⟩
  rw [if_pos rfl]
  have hk2 := (hb2.block w.heap.size (by rw [heap_size_alloc]; omega)).trans (heap_here w (.cells #[.pointer none] 64))
  have hb02 := bt (below_a1 w (.cells #[.pointer none] 64)) hb2
  have c0 := one_cell hk2
  have f0 := one_free hk2 0
  have HK2 := Lib.hid hk2
  have HB2 := Lib.hid hb02
  clear hk2 hb02 hb2
  go_wp2_with fail
  have k0 := one_set (u := .pointer none) HK2.out
  have d0 := one_cell k0
  exact bodyPost_ret (v := .tuple #[.agg #[.pointer none], .iface 145 (.pointer (some a))]) (by simp [results, Tryz.results171, go_sem, d0]) rfl
    ⟨a, rfl, HB2.out.setCell (p := ⟨w.heap.size, 0, none⟩) (Nat.le_refl _) _⟩

set_option maxRecDepth 100000 in
set_option maxHeartbeats 2000000 in
theorem newUint_walk (g : Nat) (z : Int) (w : World) (hz : IntAt w g z) (hl : (wds z.natAbs).length ≤ 80000) (ho : overU z = false) :
    Calls Tryz.prog 126 #[.pointer (some ⟨g, 0, none⟩)] w (MadePost w z) := by
  have HZ := Lib.hid hz
  clear hz
  go_enter Tryz.func126, Tryz.ntmps126
  go_wp2_with fail
  refine (checkNewUint_walk g z _ (HZ.out.below (below_a1 _ _)) hl ho).mono ?_
  rintro e w2 ⟨g2, rfl, hi2, hb2, hfr⟩
  have hk2 := (hb2.block w.heap.size (by rw [heap_size_alloc]; omega)).trans (heap_here w (.cells #[.pointer none] 64))
  have hb02 := bt (below_a1 w (.cells #[.pointer none] 64)) hb2
  have c0 : ∀ o, (w2.alloc o).cell? ⟨w.heap.size, 0, none⟩ = some (.pointer none) := fun o => one_cell (heap_old hk2)
  have f0 : ∀ o, (w2.alloc o).frozen? ⟨w.heap.size, 0, none⟩ = false := fun o => one_free (heap_old hk2) 0
  have HK2 := Lib.hid hk2
  have HI2 := Lib.hid hi2
  have HB2 := Lib.hid hb02
  clear hk2 hi2 hb02 hb2
  go_wp2_with fail
  have k0 := one_set (u := .pointer (some ⟨g2, 0, none⟩)) (heap_old (o := .cells #[.pointer (some ⟨g2, 0, none⟩)] 64) HK2.out)
  have d0 := one_cell k0
  exact bodyPost_ret (v := .agg #[.pointer (some ⟨g2, 0, none⟩)]) (by simp [results, Tryz.results126, go_sem, d0]) rfl
    ⟨g2, rfl, (HI2.out.below (below_a1 _ _)).store (heap_old HK2.out) (by decide) (by decide) _, (HB2.out.alloc HB2.out.size _).setCell (p := ⟨w.heap.size, 0, none⟩) (Nat.le_refl _) _, by rw [heap_size_alloc] at hfr; omega⟩

set_option maxRecDepth 100000 in
set_option maxHeartbeats 2000000 in
theorem newUint_panic (g : Nat) (z : Int) (w : World) (hz : IntAt w g z) (hl : (wds z.natAbs).length ≤ 80000) (ho : overU z = true) :
    Calls Tryz.prog 126 #[.pointer (some ⟨g, 0, none⟩)] w (PanicPost w) := by
  have HZ := Lib.hid hz
  clear hz
  go_enter Tryz.func126, Tryz.ntmps126
  go_wp2_with fail
  refine (checkNewUint_err g z _ (HZ.out.below (below_a1 _ _)) hl ho).mono ?_
  rintro e w2 ⟨a, rfl, hb2⟩
  have hb02 := bt (below_a1 w (.cells #[.pointer none] 64)) hb2
  have HB2 := Lib.hid hb02
  clear hb02 hb2
  go_wp2_with fail
  have hp : PanicPost w (.panicked [{ v := .iface 145 (.pointer (some a)), recovered := false }]) (w2.alloc (.cells #[.pointer none] 64)) := ⟨_, _, rfl, HB2.out.alloc HB2.out.size _⟩
  exact ⟨rfl, hp⟩

set_option maxRecDepth 100000 in
set_option maxHeartbeats 2000000 in
theorem unsigned_walk (l : List UInt8) (p : Addr) (w : World) (hok : readOk l = true) (hl : l.length ≤ 1000) (hp : EofIs w p) (ho : overU (readZ l) = false) :
    Calls Tryz.prog 50 #[.string (S l)] w (MadePost w (readZ l)) := by
  have hwl : (wds (readZ l).natAbs).length ≤ 1000 := by
    rw [read_abs]
    obtain ⟨c, t, _, _, _, hbody, hdig, _⟩ := read_scan hok
    have h1 := wds_len_dec (decV_lt hdig)
    have h2 : (readBody l).length ≤ l.length := by rw [hbody]; simp
    omega
  go_enter Tryz.func50, Tryz.ntmps50
  go_wp2_with fail
  refine (number_walk l p _ hok hl (hp.below (below_a1 _ _))).mono ?_
  rintro e w2 ⟨gz, rfl, hi2, hb2, hgz⟩
  have hk2 := (hb2.block w.heap.size (by rw [heap_size_alloc]; omega)).trans (heap_here w (.cells #[.pointer none] 64))
  have hb02 := bt (below_a1 w (.cells #[.pointer none] 64)) hb2
  have hs2 := hb02.size
  have hs3 := hb2.size
  rw [heap_size_alloc] at hs3 hgz
  have hlt := hi2.lt
  have HK2 := Lib.hid hk2
  have HI2 := Lib.hid hi2
  have HB2 := Lib.hid hb02
  clear hk2 hi2 hb02 hb2
  go_wp2_with fail
  refine (intSet_walk w2.heap.size gz (readZ l) _ (heap_here _ _) (HI2.out.below (below_a1 _ _)) (by omega) (by omega)).mono ?_
  rintro e w4 ⟨rfl, hi4, hx4⟩
  have hk4 := (hx4.block w.heap.size (by rw [heap_size_alloc]; omega) (by omega)).trans (heap_old (o := .cells #[.bool false, .slice none 0 0] 101) HK2.out)
  have hb4 : Below w.heap.size w w4 := (HB2.out.alloc HB2.out.size _).trans (hx4.below (by rw [heap_size_alloc]; omega) (fun k hk => by omega))
  have HK4 := Lib.hid hk4
  have HI4 := Lib.hid hi4
  have HB4 := Lib.hid hb4
  clear hk4 hi4 hx4 hb4
  go_wp2_with fail
  refine (newUint_walk w2.heap.size (readZ l) w4 HI4.out (by omega) ho).mono ?_
  rintro e w5 ⟨g5, rfl, hi5, hb5, hfr⟩
  have hk5 := (hb5.block w.heap.size (iter_lt HK4.out)).trans HK4.out
  have c0 := one_cell hk5
  have f0 := one_free hk5 0
  have HK5 := Lib.hid hk5
  have HI5 := Lib.hid hi5
  have HB5 := Lib.hid hb5
  clear hk5 hi5 hb5
  go_wp2_with fail
  have k0 := one_set (u := .pointer (some ⟨g5, 0, none⟩)) HK5.out
  have d0 := one_cell k0
  exact bodyPost_ret (v := .agg #[.pointer (some ⟨g5, 0, none⟩)]) (by simp [results, Tryz.results50, go_sem, d0]) rfl
    ⟨g5, rfl, HI5.out.store HK5.out (by decide) (by decide) _, (bt HB4.out HB5.out).setCell (p := ⟨w.heap.size, 0, none⟩) (Nat.le_refl _) _, Nat.le_trans HB4.out.size hfr⟩

set_option maxRecDepth 100000 in
set_option maxHeartbeats 1000000 in
theorem uintString_walk (g : Nat) (z : Int) (w : World) (hz : IntAt w g z) (hl : natLen z.natAbs ≤ 320) (hleaf : LeafIs w) :
    Calls Tryz.prog 68 #[.agg #[.pointer (some ⟨g, 0, none⟩)]] w fun e w' => e = .returned (.string (S (zText z))) ∧ Below w.heap.size w w' := by
  have HI := Lib.hid (intString_walk g z (w.alloc (.cells #[.pointer (some ⟨g, 0, none⟩)] 64)) (hz.below (below_a1 _ _)) hl (hleaf.below (below_a1 _ _)))
  clear hz
  go_enter Tryz.func68, Tryz.ntmps68
  go_wp2_with fail
  refine HI.out.mono ?_
  rintro e w1 ⟨rfl, hb⟩
  have HB := Lib.hid hb
  clear hb
  go_wp2_with fail
  go_ret
  exact ⟨rfl, bt (below_a1 _ _) HB.out⟩
end Go.Proofs.YtiohlcfdoleooaaGreatDoor
