/-
  cosmosmath.checkNewUint, NewUintFromBigInt, impl.unsigned, Uint.String.
-/
import Derived.Test.YtapfolgiafnllaaGreatDoorBn02Z
import Derived.Test.YtapfolgiafnllaaGreatDoorBn05Z
import Derived.Test.YtapfolgiafnllaaGreatDoorBn22Z
import Derived.Test.YtapfolgiafnllaaGreatDoorBn07Z
namespace Go.Proofs.YtapfolgiafnllaaGreatDoor
open Go.RowKit

/-- A store into a block that holds no words. -/
theorem IntAt.store {w : World} {g s o : Nat} {z : Int} {cs : Array Value} {T : TypeId} (h : IntAt w g z) (hs : w.heap[s]? = some (.cells cs T (0, 0))) (hT : T ≠ 106) (hT2 : T ≠ 80) (u : Value) : IntAt (w.setCell ⟨s, o, none⟩ u) g z := by
  obtain ⟨A, c, h1, h2, h3, h4⟩ := h
  have hg : g ≠ s := by
    intro e
    subst e
    rw [h1] at hs
    injection hs with hs
    injection hs with _ h _
    exact hT2 h.symm
  refine ⟨A, c, (one_other hg).trans h1, h2, h3, ?_⟩
  rcases h4 with h4 | ⟨gA, zs, r, rfl, hrow, h5⟩
  · exact .inl h4
  · refine .inr ⟨gA, zs, r, rfl, hrow.other u ?_, h5⟩
    intro e
    have e' : gA = s := e
    subst e'
    unfold Row at hrow
    rw [hrow] at hs
    injection hs with hs
    injection hs with _ h _
    exact hT h.symm
/-- A Uint or Int of cosmosmath by value. -/
def MadePost (w : World) (z : Int) (e : Ending) (w' : World) : Prop := ∃ g, e = .returned (.agg #[.pointer (some ⟨g, 0, none⟩)]) ∧ IntAt w' g z ∧ Below w.heap.size w w' ∧ w.heap.size ≤ g
def PanicPost (w : World) (e : Ending) (w' : World) : Prop := ∃ t v, e = .panicked [{ v := .iface t v, recovered := false }] ∧ Below w.heap.size w w'
def CheckPost (w : World) (z : Int) (e : Ending) (w' : World) : Prop := ∃ g, e = .returned (.tuple #[.agg #[.pointer (some ⟨g, 0, none⟩)], .nilIface]) ∧ IntAt w' g z ∧ Below w.heap.size w w' ∧ w.heap.size ≤ g
def CheckErr (w : World) (e : Ending) (w' : World) : Prop := ∃ a, e = .returned (.tuple #[.agg #[.pointer none], .iface 117 (.pointer (some a))]) ∧ Below w.heap.size w w'

set_option maxRecDepth 100000 in
set_option maxHeartbeats 2000000 in
theorem checkNewUint_walk (g : Nat) (z : Int) (w : World) (hz : IntAt w g z) (hl : (wds z.natAbs).length ≤ 80000) (ho : overU z = false) :
    Calls Tryz.prog 94 #[.pointer (some ⟨g, 0, none⟩)] w (CheckPost w z) := by
  have HZ := Lib.hid hz
  have hg := hz.lt
  clear hz
  go_enter Tryz.func94, Tryz.ntmps94
  go_wp2_with fail
  refine (uintOverflow_walk g z _ (HZ.out.below (below_a1 _ _)) (by omega)).mono ?_
  rw [ho]
  rintro e w2 ⟨⟨a, rfl⟩, hb2⟩
  rw [if_neg (by decide)]
  have hk2 := (hb2.block w.heap.size (by rw [heap_size_alloc]; omega)).trans (heap_here w (.cells #[.pointer none] 52))
  have hb02 := bt (below_a1 w (.cells #[.pointer none] 52)) hb2
  have HK2 := Lib.hid hk2
  have HB2 := Lib.hid hb02
  have hs2 := hb02.size
  have hs3 := hb2.size
  rw [heap_size_alloc] at hs3
  clear hk2 hb02 hb2
  go_wp2_with fail
  refine (intSet_walk w2.heap.size g z _ (heap_here _ _) ((HZ.out.below HB2.out).below (below_a1 _ _)) (by omega) hl).mono ?_
  rintro e w4 ⟨rfl, hi4, hx4⟩
  have hk4 := (hx4.block w.heap.size (by rw [heap_size_alloc]; omega) (by omega)).trans (heap_old (o := .cells #[.bool false, .slice none 0 0] 80) HK2.out)
  have c0 := one_cell hk4
  have f0 := one_free hk4 0
  have HK4 := Lib.hid hk4
  have HI4 := Lib.hid hi4
  have HX4 := Lib.hid hx4
  clear hk4 hi4 hx4
  go_wp2_with fail
  have k0 := one_set (u := .pointer (some ⟨w2.heap.size, 0, none⟩)) HK4.out
  have d0 := one_cell k0
  exact bodyPost_ret (v := .tuple #[.agg #[.pointer (some ⟨w2.heap.size, 0, none⟩)], .nilIface]) (by simp [results, Tryz.results94, go_sem, d0]) rfl
    ⟨_, rfl, HI4.out.store HK4.out (by decide) (by decide) _, (((HB2.out.alloc HB2.out.size _).trans (HX4.out.below (by rw [heap_size_alloc]; omega) (fun k hk => by omega)))).setCell (p := ⟨w.heap.size, 0, none⟩) (Nat.le_refl _) _, hs2⟩

set_option maxRecDepth 100000 in
set_option maxHeartbeats 2000000 in
theorem checkNewUint_err (g : Nat) (z : Int) (w : World) (hz : IntAt w g z) (hl : (wds z.natAbs).length ≤ 80000) (ho : overU z = true) :
    Calls Tryz.prog 94 #[.pointer (some ⟨g, 0, none⟩)] w (CheckErr w) := by
  have HZ := Lib.hid hz
  clear hz
  go_enter Tryz.func94, Tryz.ntmps94
  go_wp2_with fail
  refine (uintOverflow_walk g z _ (HZ.out.below (below_a1 _ _)) (by omega)).mono ?_
  rw [ho]
  rintro e w2 ⟨⟨a, rfl⟩, hb2⟩
  rw [if_pos rfl]
  have hk2 := (hb2.block w.heap.size (by rw [heap_size_alloc]; omega)).trans (heap_here w (.cells #[.pointer none] 52))
  have hb02 := bt (below_a1 w (.cells #[.pointer none] 52)) hb2
  have c0 := one_cell hk2
  have f0 := one_free hk2 0
  have HK2 := Lib.hid hk2
  have HB2 := Lib.hid hb02
  clear hk2 hb02 hb2
  go_wp2_with fail
  have k0 := one_set (u := .pointer none) HK2.out
  have d0 := one_cell k0
  exact bodyPost_ret (v := .tuple #[.agg #[.pointer none], .iface 117 (.pointer (some a))]) (by simp [results, Tryz.results94, go_sem, d0]) rfl
    ⟨a, rfl, HB2.out.setCell (p := ⟨w.heap.size, 0, none⟩) (Nat.le_refl _) _⟩

set_option maxRecDepth 100000 in
set_option maxHeartbeats 2000000 in
theorem newUint_walk (g : Nat) (z : Int) (w : World) (hz : IntAt w g z) (hl : (wds z.natAbs).length ≤ 80000) (ho : overU z = false) :
    Calls Tryz.prog 66 #[.pointer (some ⟨g, 0, none⟩)] w (MadePost w z) := by
  have HZ := Lib.hid hz
  clear hz
  go_enter Tryz.func66, Tryz.ntmps66
  go_wp2_with fail
  refine (checkNewUint_walk g z _ (HZ.out.below (below_a1 _ _)) hl ho).mono ?_
  rintro e w2 ⟨g2, rfl, hi2, hb2, hfr⟩
  have hk2 := (hb2.block w.heap.size (by rw [heap_size_alloc]; omega)).trans (heap_here w (.cells #[.pointer none] 52))
  have hb02 := bt (below_a1 w (.cells #[.pointer none] 52)) hb2
  have c0 : ∀ o, (w2.alloc o).cell? ⟨w.heap.size, 0, none⟩ = some (.pointer none) := fun o => one_cell (heap_old hk2)
  have f0 : ∀ o, (w2.alloc o).frozen? ⟨w.heap.size, 0, none⟩ = false := fun o => one_free (heap_old hk2) 0
  have HK2 := Lib.hid hk2
  have HI2 := Lib.hid hi2
  have HB2 := Lib.hid hb02
  clear hk2 hi2 hb02 hb2
  go_wp2_with fail
  have k0 := one_set (u := .pointer (some ⟨g2, 0, none⟩)) (heap_old (o := .cells #[.pointer (some ⟨g2, 0, none⟩)] 52) HK2.out)
  have d0 := one_cell k0
  exact bodyPost_ret (v := .agg #[.pointer (some ⟨g2, 0, none⟩)]) (by simp [results, Tryz.results66, go_sem, d0]) rfl
    ⟨g2, rfl, (HI2.out.below (below_a1 _ _)).store (heap_old HK2.out) (by decide) (by decide) _, (HB2.out.alloc HB2.out.size _).setCell (p := ⟨w.heap.size, 0, none⟩) (Nat.le_refl _) _, by rw [heap_size_alloc] at hfr; omega⟩

set_option maxRecDepth 100000 in
set_option maxHeartbeats 2000000 in
theorem newUint_panic (g : Nat) (z : Int) (w : World) (hz : IntAt w g z) (hl : (wds z.natAbs).length ≤ 80000) (ho : overU z = true) :
    Calls Tryz.prog 66 #[.pointer (some ⟨g, 0, none⟩)] w (PanicPost w) := by
  have HZ := Lib.hid hz
  clear hz
  go_enter Tryz.func66, Tryz.ntmps66
  go_wp2_with fail
  refine (checkNewUint_err g z _ (HZ.out.below (below_a1 _ _)) hl ho).mono ?_
  rintro e w2 ⟨a, rfl, hb2⟩
  have hb02 := bt (below_a1 w (.cells #[.pointer none] 52)) hb2
  have HB2 := Lib.hid hb02
  clear hb02 hb2
  go_wp2_with fail
  have hp : PanicPost w (.panicked [{ v := .iface 117 (.pointer (some a)), recovered := false }]) (w2.alloc (.cells #[.pointer none] 52)) := ⟨_, _, rfl, HB2.out.alloc HB2.out.size _⟩
  exact ⟨rfl, hp⟩

set_option maxRecDepth 100000 in
set_option maxHeartbeats 2000000 in
theorem unsigned_walk (l : List UInt8) (p : Addr) (w : World) (hok : readOk l = true) (hl : l.length ≤ 1000) (hp : EofIs w p) (ho : overU (readZ l) = false) :
    Calls Tryz.prog 30 #[.string (S l)] w (MadePost w (readZ l)) := by
  have hwl : (wds (readZ l).natAbs).length ≤ 1000 := by
    rw [read_abs]
    obtain ⟨c, t, _, _, _, hbody, hdig, _⟩ := read_scan hok
    have h1 := wds_len_dec (decV_lt hdig)
    have h2 : (readBody l).length ≤ l.length := by rw [hbody]; simp
    omega
  go_enter Tryz.func30, Tryz.ntmps30
  go_wp2_with fail
  refine (number_walk l p _ hok hl (hp.below (below_a1 _ _))).mono ?_
  rintro e w2 ⟨gz, rfl, hi2, hb2, hgz⟩
  have hk2 := (hb2.block w.heap.size (by rw [heap_size_alloc]; omega)).trans (heap_here w (.cells #[.pointer none] 52))
  have hb02 := bt (below_a1 w (.cells #[.pointer none] 52)) hb2
  have hs2 := hb02.size
  have hs3 := hb2.size
  rw [heap_size_alloc] at hs3 hgz
  have hlt := hi2.lt
  have HK2 := Lib.hid hk2
  have HI2 := Lib.hid hi2
  have HB2 := Lib.hid hb02
  clear hk2 hi2 hb02 hb2
  go_wp2_with fail
  refine (intSet_walk w2.heap.size gz (readZ l) _ (heap_here _ _) (HI2.out.below (below_a1 _ _)) (by omega) (by omega)).mono ?_
  rintro e w4 ⟨rfl, hi4, hx4⟩
  have hk4 := (hx4.block w.heap.size (by rw [heap_size_alloc]; omega) (by omega)).trans (heap_old (o := .cells #[.bool false, .slice none 0 0] 80) HK2.out)
  have hb4 : Below w.heap.size w w4 := (HB2.out.alloc HB2.out.size _).trans (hx4.below (by rw [heap_size_alloc]; omega) (fun k hk => by omega))
  have HK4 := Lib.hid hk4
  have HI4 := Lib.hid hi4
  have HB4 := Lib.hid hb4
  clear hk4 hi4 hx4 hb4
  go_wp2_with fail
  refine (newUint_walk w2.heap.size (readZ l) w4 HI4.out (by omega) ho).mono ?_
  rintro e w5 ⟨g5, rfl, hi5, hb5, hfr⟩
  have hk5 := (hb5.block w.heap.size (iter_lt HK4.out)).trans HK4.out
  have c0 := one_cell hk5
  have f0 := one_free hk5 0
  have HK5 := Lib.hid hk5
  have HI5 := Lib.hid hi5
  have HB5 := Lib.hid hb5
  clear hk5 hi5 hb5
  go_wp2_with fail
  have k0 := one_set (u := .pointer (some ⟨g5, 0, none⟩)) HK5.out
  have d0 := one_cell k0
  exact bodyPost_ret (v := .agg #[.pointer (some ⟨g5, 0, none⟩)]) (by simp [results, Tryz.results30, go_sem, d0]) rfl
    ⟨g5, rfl, HI5.out.store HK5.out (by decide) (by decide) _, (bt HB4.out HB5.out).setCell (p := ⟨w.heap.size, 0, none⟩) (Nat.le_refl _) _, Nat.le_trans HB4.out.size hfr⟩

set_option maxRecDepth 100000 in
set_option maxHeartbeats 1000000 in
theorem uintString_walk (g : Nat) (z : Int) (w : World) (hz : IntAt w g z) (hl : natLen z.natAbs ≤ 320) (hleaf : LeafIs w) :
    Calls Tryz.prog 31 #[.agg #[.pointer (some ⟨g, 0, none⟩)]] w fun e w' => e = .returned (.string (S (zText z))) ∧ Below w.heap.size w w' := by
  have HI := Lib.hid (intString_walk g z (w.alloc (.cells #[.pointer (some ⟨g, 0, none⟩)] 52)) (hz.below (below_a1 _ _)) hl (hleaf.below (below_a1 _ _)))
  clear hz
  go_enter Tryz.func31, Tryz.ntmps31
  go_wp2_with fail
  refine HI.out.mono ?_
  rintro e w1 ⟨rfl, hb⟩
  have HB := Lib.hid hb
  clear hb
  go_wp2_with fail
  go_ret
  exact ⟨rfl, bt (below_a1 _ _) HB.out⟩
end Go.Proofs.YtapfolgiafnllaaGreatDoor

/-
  Uint.Sub of cosmosmath; impl.UintDo, subtracting.
-/
namespace Go.Proofs.YtapfolgiafnllaaGreatDoor
open Go.RowKit

/-- What becomes of a number's bytes that a Uint has. -/
theorem overU_words {z : Int} (h : overU z = false) : (wds z.natAbs).length ≤ 5 := by
  unfold overU at h
  rw [Bool.or_eq_false_iff] at h
  have h2 := of_decide_eq_false h.2
  exact toD_length_le (by decide) 5 _ (Nat.lt_of_lt_of_le ((natLen_lt_iff z.natAbs 256).1 (by omega)) (by decide))
theorem overU_pos {z : Int} (h : overU z = false) : ¬ z < 0 := by
  unfold overU at h
  rw [Bool.or_eq_false_iff] at h
  exact of_decide_eq_false h.1
theorem sub_words {x y : Int} (hx : overU x = false) (hy : overU y = false) : (wds (x - y).natAbs).length ≤ 5 := by
  have h1 := hx
  have h2 := hy
  unfold overU at h1 h2
  rw [Bool.or_eq_false_iff] at h1 h2
  have a1 := of_decide_eq_false h1.2
  have a2 := of_decide_eq_false h2.2
  have b1 := (natLen_lt_iff x.natAbs 256).1 (by omega)
  have b2 := (natLen_lt_iff y.natAbs 256).1 (by omega)
  have c1 := overU_pos hx
  have c2 := overU_pos hy
  refine toD_length_le (by decide) 5 _ (Nat.lt_of_le_of_lt (m := x.natAbs + y.natAbs) (by omega) ?_)
  have e : (2 : Nat) ^ 256 + 2 ^ 256 ≤ 18446744073709551616 ^ 5 := by decide
  omega
theorem intSub_walk (gz gx gy : Nat) (x y : Int) (w : World) (hz : IntNew w gz) (hx : IntAt w gx x) (hy : IntAt w gy y) (ox : overU x = false) (oy : overU y = false) :
    Calls Tryz.prog 87 #[.pointer (some ⟨gz, 0, none⟩), .pointer (some ⟨gx, 0, none⟩), .pointer (some ⟨gy, 0, none⟩)] w fun e w' => e = .returned (.pointer (some ⟨gz, 0, none⟩)) ∧ IntAt w' gz (x - y) ∧ Ext (fun b => b = gz) w w' := by
  have c1 := overU_pos ox
  have c2 := overU_pos oy
  have w1 := overU_words ox
  have w2 := overU_words oy
  have hs : decide (x < 0) = decide (y < 0) := by rw [decide_eq_false c1, decide_eq_false c2]
  by_cases h : y.natAbs ≤ x.natAbs
  · exact intSubGe_walk gz gx gy x y w hz hx hy (by omega) (by omega) hs h
  · exact intSubLt_walk gz gx gy x y w hz hx hy (by omega) (by omega) hs (by omega)

/-- What a method of Uint with two Uints finds: both boxed, room for the result, a new number. -/
structure TwoBox (w : World) (gx gy : Nat) (x y : Int) (wa : World) : Prop where
  b0 : wa.heap[w.heap.size]? = some (.cells #[.pointer (some ⟨gx, 0, none⟩)] 52 (0, 0))
  b1 : wa.heap[w.heap.size + 1]? = some (.cells #[.pointer (some ⟨gy, 0, none⟩)] 52 (0, 0))
  b2 : wa.heap[w.heap.size + 1 + 1]? = some (.cells #[.pointer none] 52 (0, 0))
  hx : IntAt wa gx x
  hy : IntAt wa gy y
  below : Below w.heap.size w wa
theorem twoBox (w : World) (gx gy : Nat) (x y : Int) (hx : IntAt w gx x) (hy : IntAt w gy y) :
    TwoBox w gx gy x y (((w.alloc (.cells #[.pointer (some ⟨gx, 0, none⟩)] 52)).alloc (.cells #[.pointer (some ⟨gy, 0, none⟩)] 52)).alloc (.cells #[.pointer none] 52)) := by
  have hb := bt (below_a2 w (.cells #[.pointer (some ⟨gx, 0, none⟩)] 52) (.cells #[.pointer (some ⟨gy, 0, none⟩)] 52)) (below_a1 _ (.cells #[.pointer none] 52))
  exact ⟨heap_old (heap_old (heap_here _ _)), heap_old (heap_at _ _ (by rw [heap_size_alloc])), heap_at _ _ (by rw [heap_size_alloc, heap_size_alloc]), hx.below hb, hy.below hb, hb⟩

set_option maxRecDepth 100000 in
set_option maxHeartbeats 2000000 in
theorem uintSub_walk (gx gy : Nat) (x y : Int) (w : World) (hx : IntAt w gx x) (hy : IntAt w gy y) (ox : overU x = false) (oy : overU y = false) (oz : overU (x - y) = false) :
    Calls Tryz.prog 43 #[.agg #[.pointer (some ⟨gx, 0, none⟩)], .agg #[.pointer (some ⟨gy, 0, none⟩)]] w (MadePost w (x - y)) := by
  have hT := twoBox w gx gy x y hx hy
  have hwl := overU_words oz
  have HT := Lib.hid hT
  have HS := Lib.hid (fun (gz : Nat) (w2 : World) (h1 : IntNew w2 gz) (h2 : IntAt w2 gx x) (h3 : IntAt w2 gy y) => intSub_walk gz gx gy x y w2 h1 h2 h3 ox oy)
  have HN := Lib.hid (fun (g : Nat) (w2 : World) (h1 : IntAt w2 g (x - y)) => newUint_walk g (x - y) w2 h1 (by omega) oz)
  clear hx hy hT
  go_enter Tryz.func43, Tryz.ntmps43
  go_upto_region 1 with fail
  obtain ⟨wa, hwa⟩ : ∃ wa, ((w.alloc (.cells #[.pointer (some ⟨gx, 0, none⟩)] 52)).alloc (.cells #[.pointer (some ⟨gy, 0, none⟩)] 52)).alloc (.cells #[.pointer none] 52) = wa := ⟨_, rfl⟩
  rw [hwa] at HT ⊢
  have c0 : ∀ o, (wa.alloc o).cell? ⟨w.heap.size, 0, none⟩ = some (.pointer (some ⟨gx, 0, none⟩)) := fun o => one_cell (heap_old HT.out.b0)
  have c1 : ∀ o, (wa.alloc o).cell? ⟨w.heap.size + 1, 0, none⟩ = some (.pointer (some ⟨gy, 0, none⟩)) := fun o => one_cell (heap_old HT.out.b1)
  have hs2 := iter_lt HT.out.b2
  clear hwa
  go_wp2_with fail
  refine (HS.out wa.heap.size _ (heap_here _ _) (HT.out.hx.below (below_a1 _ _)) (HT.out.hy.below (below_a1 _ _))).mono ?_
  rintro e w1 ⟨rfl, hi1, hx1⟩
  have hk1 := (hx1.block (w.heap.size + 1 + 1) (by rw [heap_size_alloc]; omega) (by omega)).trans (heap_old (o := .cells #[.bool false, .slice none 0 0] 80) HT.out.b2)
  have hb1 : Below w.heap.size w w1 := (HT.out.below.alloc HT.out.below.size _).trans (hx1.below (by have := HT.out.below.size; rw [heap_size_alloc]; omega) (fun k hk => by have := HT.out.below.size; omega))
  have HK1 := Lib.hid hk1
  have HI1 := Lib.hid hi1
  have HB1 := Lib.hid hb1
  clear hk1 hi1 hx1 hb1 c0 c1
  go_wp2_with fail
  refine (HN.out _ w1 HI1.out).mono ?_
  rintro e w5 ⟨g5, rfl, hi5, hb5, hfr⟩
  have hk5 := (hb5.block (w.heap.size + 1 + 1) (iter_lt HK1.out)).trans HK1.out
  have c0 := one_cell hk5
  have f0 := one_free hk5 0
  have HK5 := Lib.hid hk5
  have HI5 := Lib.hid hi5
  have HB5 := Lib.hid hb5
  clear hk5 hi5 hb5
  go_wp2_with fail
  have k0 := one_set (u := .pointer (some ⟨g5, 0, none⟩)) HK5.out
  have d0 := one_cell k0
  exact bodyPost_ret (v := .agg #[.pointer (some ⟨g5, 0, none⟩)]) (by simp [results, Tryz.results43, go_sem, d0]) rfl
    ⟨g5, rfl, HI5.out.store HK5.out (by decide) (by decide) _, (bt HB1.out HB5.out).setCell (p := ⟨w.heap.size + 1 + 1, 0, none⟩) (by show w.heap.size ≤ w.heap.size + 1 + 1; omega) _, Nat.le_trans HB1.out.size hfr⟩
end Go.Proofs.YtapfolgiafnllaaGreatDoor

/-
  Uint.Add of cosmosmath; Add and Sub out of range.
-/
namespace Go.Proofs.YtapfolgiafnllaaGreatDoor
open Go.RowKit

theorem add_words {x y : Int} (hx : overU x = false) (hy : overU y = false) : (wds (x + y).natAbs).length ≤ 5 := by
  have h1 := hx
  have h2 := hy
  unfold overU at h1 h2
  rw [Bool.or_eq_false_iff] at h1 h2
  have a1 := of_decide_eq_false h1.2
  have a2 := of_decide_eq_false h2.2
  have b1 := (natLen_lt_iff x.natAbs 256).1 (by omega)
  have b2 := (natLen_lt_iff y.natAbs 256).1 (by omega)
  refine toD_length_le (by decide) 5 _ (Nat.lt_of_le_of_lt (m := x.natAbs + y.natAbs) (by omega) ?_)
  have e : (2 : Nat) ^ 256 + 2 ^ 256 ≤ 18446744073709551616 ^ 5 := by decide
  omega
theorem intAdd_walk (gz gx gy : Nat) (x y : Int) (w : World) (hz : IntNew w gz) (hx : IntAt w gx x) (hy : IntAt w gy y) (ox : overU x = false) (oy : overU y = false) :
    Calls Tryz.prog 86 #[.pointer (some ⟨gz, 0, none⟩), .pointer (some ⟨gx, 0, none⟩), .pointer (some ⟨gy, 0, none⟩)] w fun e w' => e = .returned (.pointer (some ⟨gz, 0, none⟩)) ∧ IntAt w' gz (x + y) ∧ Ext (fun b => b = gz) w w' := by
  have c1 := overU_pos ox
  have c2 := overU_pos oy
  have w1 := overU_words ox
  have w2 := overU_words oy
  exact intAddSame_walk gz gx gy x y w hz hx hy (by omega) (by omega) (by rw [decide_eq_false c1, decide_eq_false c2])

set_option maxRecDepth 100000 in
set_option maxHeartbeats 2000000 in
theorem uintAdd_walk (gx gy : Nat) (x y : Int) (w : World) (hx : IntAt w gx x) (hy : IntAt w gy y) (ox : overU x = false) (oy : overU y = false) (oz : overU (x + y) = false) :
    Calls Tryz.prog 42 #[.agg #[.pointer (some ⟨gx, 0, none⟩)], .agg #[.pointer (some ⟨gy, 0, none⟩)]] w (MadePost w (x + y)) := by
  have hT := twoBox w gx gy x y hx hy
  have hwl := overU_words oz
  have HT := Lib.hid hT
  have HS := Lib.hid (fun (gz : Nat) (w2 : World) (h1 : IntNew w2 gz) (h2 : IntAt w2 gx x) (h3 : IntAt w2 gy y) => intAdd_walk gz gx gy x y w2 h1 h2 h3 ox oy)
  have HN := Lib.hid (fun (g : Nat) (w2 : World) (h1 : IntAt w2 g (x + y)) => newUint_walk g (x + y) w2 h1 (by omega) oz)
  clear hx hy hT
  go_enter Tryz.func42, Tryz.ntmps42
  go_upto_region 1 with fail
  obtain ⟨wa, hwa⟩ : ∃ wa, ((w.alloc (.cells #[.pointer (some ⟨gx, 0, none⟩)] 52)).alloc (.cells #[.pointer (some ⟨gy, 0, none⟩)] 52)).alloc (.cells #[.pointer none] 52) = wa := ⟨_, rfl⟩
  rw [hwa] at HT ⊢
  have c0 : ∀ o, (wa.alloc o).cell? ⟨w.heap.size, 0, none⟩ = some (.pointer (some ⟨gx, 0, none⟩)) := fun o => one_cell (heap_old HT.out.b0)
  have c1 : ∀ o, (wa.alloc o).cell? ⟨w.heap.size + 1, 0, none⟩ = some (.pointer (some ⟨gy, 0, none⟩)) := fun o => one_cell (heap_old HT.out.b1)
  have hs2 := iter_lt HT.out.b2
  clear hwa
  go_wp2_with fail
  refine (HS.out wa.heap.size _ (heap_here _ _) (HT.out.hx.below (below_a1 _ _)) (HT.out.hy.below (below_a1 _ _))).mono ?_
  rintro e w1 ⟨rfl, hi1, hx1⟩
  have hk1 := (hx1.block (w.heap.size + 1 + 1) (by rw [heap_size_alloc]; omega) (by omega)).trans (heap_old (o := .cells #[.bool false, .slice none 0 0] 80) HT.out.b2)
  have hb1 : Below w.heap.size w w1 := (HT.out.below.alloc HT.out.below.size _).trans (hx1.below (by have := HT.out.below.size; rw [heap_size_alloc]; omega) (fun k hk => by have := HT.out.below.size; omega))
  have HK1 := Lib.hid hk1
  have HI1 := Lib.hid hi1
  have HB1 := Lib.hid hb1
  clear hk1 hi1 hx1 hb1 c0 c1
  go_wp2_with fail
  refine (HN.out _ w1 HI1.out).mono ?_
  rintro e w5 ⟨g5, rfl, hi5, hb5, hfr⟩
  have hk5 := (hb5.block (w.heap.size + 1 + 1) (iter_lt HK1.out)).trans HK1.out
  have c0 := one_cell hk5
  have f0 := one_free hk5 0
  have HK5 := Lib.hid hk5
  have HI5 := Lib.hid hi5
  have HB5 := Lib.hid hb5
  clear hk5 hi5 hb5
  go_wp2_with fail
  have k0 := one_set (u := .pointer (some ⟨g5, 0, none⟩)) HK5.out
  have d0 := one_cell k0
  exact bodyPost_ret (v := .agg #[.pointer (some ⟨g5, 0, none⟩)]) (by simp [results, Tryz.results42, go_sem, d0]) rfl
    ⟨g5, rfl, HI5.out.store HK5.out (by decide) (by decide) _, (bt HB1.out HB5.out).setCell (p := ⟨w.heap.size + 1 + 1, 0, none⟩) (by show w.heap.size ≤ w.heap.size + 1 + 1; omega) _, Nat.le_trans HB1.out.size hfr⟩

set_option maxRecDepth 100000 in
set_option maxHeartbeats 2000000 in
theorem uintAdd_panic (gx gy : Nat) (x y : Int) (w : World) (hx : IntAt w gx x) (hy : IntAt w gy y) (ox : overU x = false) (oy : overU y = false) (oz : overU (x + y) = true) :
    Calls Tryz.prog 42 #[.agg #[.pointer (some ⟨gx, 0, none⟩)], .agg #[.pointer (some ⟨gy, 0, none⟩)]] w (PanicPost w) := by
  have hT := twoBox w gx gy x y hx hy
  have hwl := add_words ox oy
  have HT := Lib.hid hT
  have HS := Lib.hid (fun (gz : Nat) (w2 : World) (h1 : IntNew w2 gz) (h2 : IntAt w2 gx x) (h3 : IntAt w2 gy y) => intAdd_walk gz gx gy x y w2 h1 h2 h3 ox oy)
  have HN := Lib.hid (fun (g : Nat) (w2 : World) (h1 : IntAt w2 g (x + y)) => newUint_panic g (x + y) w2 h1 (by omega) oz)
  clear hx hy hT
  go_enter Tryz.func42, Tryz.ntmps42
  go_upto_region 1 with fail
  obtain ⟨wa, hwa⟩ : ∃ wa, ((w.alloc (.cells #[.pointer (some ⟨gx, 0, none⟩)] 52)).alloc (.cells #[.pointer (some ⟨gy, 0, none⟩)] 52)).alloc (.cells #[.pointer none] 52) = wa := ⟨_, rfl⟩
  rw [hwa] at HT ⊢
  have c0 : ∀ o, (wa.alloc o).cell? ⟨w.heap.size, 0, none⟩ = some (.pointer (some ⟨gx, 0, none⟩)) := fun o => one_cell (heap_old HT.out.b0)
  have c1 : ∀ o, (wa.alloc o).cell? ⟨w.heap.size + 1, 0, none⟩ = some (.pointer (some ⟨gy, 0, none⟩)) := fun o => one_cell (heap_old HT.out.b1)
  have hs2 := iter_lt HT.out.b2
  clear hwa
  go_wp2_with fail
  refine (HS.out wa.heap.size _ (heap_here _ _) (HT.out.hx.below (below_a1 _ _)) (HT.out.hy.below (below_a1 _ _))).mono ?_
  rintro e w1 ⟨rfl, hi1, hx1⟩
  have hk1 := (hx1.block (w.heap.size + 1 + 1) (by rw [heap_size_alloc]; omega) (by omega)).trans (heap_old (o := .cells #[.bool false, .slice none 0 0] 80) HT.out.b2)
  have hb1 : Below w.heap.size w w1 := (HT.out.below.alloc HT.out.below.size _).trans (hx1.below (by have := HT.out.below.size; rw [heap_size_alloc]; omega) (fun k hk => by have := HT.out.below.size; omega))
  have HK1 := Lib.hid hk1
  have HI1 := Lib.hid hi1
  have HB1 := Lib.hid hb1
  clear hk1 hi1 hx1 hb1 c0 c1
  go_wp2_with fail
  refine (HN.out _ w1 HI1.out).mono ?_
  rintro e w5 ⟨t5, v5, rfl, hb5⟩
  have HB5 := Lib.hid (bt HB1.out hb5)
  clear hb5
  go_wp2_with fail
  have hp : PanicPost w (.panicked [{ v := .iface t5 v5, recovered := false }]) w5 := ⟨_, _, rfl, HB5.out⟩
  exact ⟨rfl, hp⟩

set_option maxRecDepth 100000 in
set_option maxHeartbeats 2000000 in
theorem uintSub_panic (gx gy : Nat) (x y : Int) (w : World) (hx : IntAt w gx x) (hy : IntAt w gy y) (ox : overU x = false) (oy : overU y = false) (oz : overU (x - y) = true) :
    Calls Tryz.prog 43 #[.agg #[.pointer (some ⟨gx, 0, none⟩)], .agg #[.pointer (some ⟨gy, 0, none⟩)]] w (PanicPost w) := by
  have hT := twoBox w gx gy x y hx hy
  have hwl := sub_words ox oy
  have HT := Lib.hid hT
  have HS := Lib.hid (fun (gz : Nat) (w2 : World) (h1 : IntNew w2 gz) (h2 : IntAt w2 gx x) (h3 : IntAt w2 gy y) => intSub_walk gz gx gy x y w2 h1 h2 h3 ox oy)
  have HN := Lib.hid (fun (g : Nat) (w2 : World) (h1 : IntAt w2 g (x - y)) => newUint_panic g (x - y) w2 h1 (by omega) oz)
  clear hx hy hT
  go_enter Tryz.func43, Tryz.ntmps43
  go_upto_region 1 with fail
  obtain ⟨wa, hwa⟩ : ∃ wa, ((w.alloc (.cells #[.pointer (some ⟨gx, 0, none⟩)] 52)).alloc (.cells #[.pointer (some ⟨gy, 0, none⟩)] 52)).alloc (.cells #[.pointer none] 52) = wa := ⟨_, rfl⟩
  rw [hwa] at HT ⊢
  have c0 : ∀ o, (wa.alloc o).cell? ⟨w.heap.size, 0, none⟩ = some (.pointer (some ⟨gx, 0, none⟩)) := fun o => one_cell (heap_old HT.out.b0)
  have c1 : ∀ o, (wa.alloc o).cell? ⟨w.heap.size + 1, 0, none⟩ = some (.pointer (some ⟨gy, 0, none⟩)) := fun o => one_cell (heap_old HT.out.b1)
  have hs2 := iter_lt HT.out.b2
  clear hwa
  go_wp2_with fail
  refine (HS.out wa.heap.size _ (heap_here _ _) (HT.out.hx.below (below_a1 _ _)) (HT.out.hy.below (below_a1 _ _))).mono ?_
  rintro e w1 ⟨rfl, hi1, hx1⟩
  have hk1 := (hx1.block (w.heap.size + 1 + 1) (by rw [heap_size_alloc]; omega) (by omega)).trans (heap_old (o := .cells #[.bool false, .slice none 0 0] 80) HT.out.b2)
  have hb1 : Below w.heap.size w w1 := (HT.out.below.alloc HT.out.below.size _).trans (hx1.below (by have := HT.out.below.size; rw [heap_size_alloc]; omega) (fun k hk => by have := HT.out.below.size; omega))
  have HK1 := Lib.hid hk1
  have HI1 := Lib.hid hi1
  have HB1 := Lib.hid hb1
  clear hk1 hi1 hx1 hb1 c0 c1
  go_wp2_with fail
  refine (HN.out _ w1 HI1.out).mono ?_
  rintro e w5 ⟨t5, v5, rfl, hb5⟩
  have HB5 := Lib.hid (bt HB1.out hb5)
  clear hb5
  go_wp2_with fail
  have hp : PanicPost w (.panicked [{ v := .iface t5 v5, recovered := false }]) w5 := ⟨_, _, rfl, HB5.out⟩
  exact ⟨rfl, hp⟩

end Go.Proofs.YtapfolgiafnllaaGreatDoor

/-
  ParseUint, impl.UintRead.
-/
namespace Go.Proofs.YtapfolgiafnllaaGreatDoor
open Go.RowKit

theorem read_words {l : List UInt8} (hok : readOk l = true) (hl : l.length ≤ 1000) : (wds (readZ l).natAbs).length ≤ 1000 := by
  rw [read_abs]
  obtain ⟨c, t, _, _, _, hbody, hdig, _⟩ := read_scan hok
  have h1 := wds_len_dec (decV_lt hdig)
  have h2 : (readBody l).length ≤ l.length := by rw [hbody]; simp
  omega

set_option maxRecDepth 100000 in
set_option maxHeartbeats 2000000 in
theorem parseUint_walk (l : List UInt8) (p : Addr) (w : World) (hok : readOk l = true) (hl : l.length ≤ 1000) (hp : EofIs w p) (ho : overU (readZ l) = false) :
    Calls Tryz.prog 50 #[.string (S l)] w (CheckPost w (readZ l)) := by
  have hwl := read_words hok hl
  have hpl := hp.lt
  go_enter Tryz.func50, Tryz.ntmps50
  go_wp2_with fail
  refine (setString0_walk (w.heap.size + 1) l p _ hok hl (heap_at _ _ (heap_size_alloc _ _)) ((hp.below (below_a1 _ _)).below (below_a1 _ _)) (by omega)).mono ?_
  rintro e w2 ⟨rfl, hi2, hx2⟩
  have hk2 := (hx2.block w.heap.size (by rw [heap_size_alloc, heap_size_alloc]; omega) (by omega)).trans (heap_old (o := .cells #[.bool false, .slice none 0 0] 80) (heap_here w (.cells #[.pointer none] 52)))
  have hb2 : Below w.heap.size w w2 := (below_a2 _ _ _).trans (hx2.below (by rw [heap_size_alloc, heap_size_alloc]; omega) (fun k hk => by omega))
  have HK2 := Lib.hid hk2
  have HI2 := Lib.hid hi2
  have HB2 := Lib.hid hb2
  clear hk2 hi2 hx2 hb2
  go_wp2_with fail
  refine (checkNewUint_walk (w.heap.size + 1) (readZ l) w2 HI2.out (by omega) ho).mono ?_
  rintro e w5 ⟨g5, rfl, hi5, hb5, hfr⟩
  have hk5 := (hb5.block w.heap.size (iter_lt HK2.out)).trans HK2.out
  have c0 := one_cell hk5
  have f0 := one_free hk5 0
  have HK5 := Lib.hid hk5
  have HI5 := Lib.hid hi5
  have HB5 := Lib.hid hb5
  clear hk5 hi5 hb5
  go_wp2_with fail
  have k0 := one_set (u := .pointer (some ⟨g5, 0, none⟩)) HK5.out
  have d0 := one_cell k0
  exact bodyPost_ret (v := .tuple #[.agg #[.pointer (some ⟨g5, 0, none⟩)], .nilIface]) (by simp [results, Tryz.results50, go_sem, d0]) rfl
    ⟨g5, rfl, HI5.out.store HK5.out (by decide) (by decide) _, (bt HB2.out HB5.out).setCell (p := ⟨w.heap.size, 0, none⟩) (Nat.le_refl _) _, Nat.le_trans HB2.out.size hfr⟩

set_option maxRecDepth 100000 in
set_option maxHeartbeats 2000000 in
theorem parseUint_err (l : List UInt8) (p : Addr) (w : World) (hok : readOk l = true) (hl : l.length ≤ 1000) (hp : EofIs w p) (ho : overU (readZ l) = true) :
    Calls Tryz.prog 50 #[.string (S l)] w (CheckErr w) := by
  have hwl := read_words hok hl
  have hpl := hp.lt
  go_enter Tryz.func50, Tryz.ntmps50
  go_wp2_with fail
  refine (setString0_walk (w.heap.size + 1) l p _ hok hl (heap_at _ _ (heap_size_alloc _ _)) ((hp.below (below_a1 _ _)).below (below_a1 _ _)) (by omega)).mono ?_
  rintro e w2 ⟨rfl, hi2, hx2⟩
  have hk2 := (hx2.block w.heap.size (by rw [heap_size_alloc, heap_size_alloc]; omega) (by omega)).trans (heap_old (o := .cells #[.bool false, .slice none 0 0] 80) (heap_here w (.cells #[.pointer none] 52)))
  have hb2 : Below w.heap.size w w2 := (below_a2 _ _ _).trans (hx2.below (by rw [heap_size_alloc, heap_size_alloc]; omega) (fun k hk => by omega))
  have HK2 := Lib.hid hk2
  have HI2 := Lib.hid hi2
  have HB2 := Lib.hid hb2
  clear hk2 hi2 hx2 hb2
  go_wp2_with fail
  refine (checkNewUint_err (w.heap.size + 1) (readZ l) w2 HI2.out (by omega) ho).mono ?_
  rintro e w5 ⟨a, rfl, hb5⟩
  have hk5 := (hb5.block w.heap.size (iter_lt HK2.out)).trans HK2.out
  have c0 := one_cell hk5
  have f0 := one_free hk5 0
  have HK5 := Lib.hid hk5
  have HB5 := Lib.hid hb5
  clear hk5 hb5
  go_wp2_with fail
  have k0 := one_set (u := .pointer none) HK5.out
  have d0 := one_cell k0
  exact bodyPost_ret (v := .tuple #[.agg #[.pointer none], .iface 117 (.pointer (some a))]) (by simp [results, Tryz.results50, go_sem, d0]) rfl
    ⟨a, rfl, (bt HB2.out HB5.out).setCell (p := ⟨w.heap.size, 0, none⟩) (Nat.le_refl _) _⟩

theorem overU_len {z : Int} (h : overU z = false) : natLen z.natAbs ≤ 320 ∧ ¬ z < 0 := by
  unfold overU at h
  rw [Bool.or_eq_false_iff] at h
  have h1 := of_decide_eq_false h.1
  have h2 := of_decide_eq_false h.2
  exact ⟨by omega, h1⟩

def readOut (l : List UInt8) : List UInt8 := if overU (readZ l) = true then [] else zText (readZ l)
set_option maxRecDepth 100000 in
set_option maxHeartbeats 2000000 in
theorem uintReadC_walk (l : List UInt8) (p : Addr) (b1 b2 b3 : Nat) (w : World) (hok : readOk l = true) (hl : l.length ≤ 1000) (hp : EofIs w p) (hleaf : LeafIs w) (h1 : w.heap[b1]? = some (.cells #[.string (S l)] 9 (0, 0)))
    (h2 : w.heap[b2]? = some (.cells #[.string ⟨#[]⟩] 9 (0, 0))) (h3 : w.heap[b3]? = some (.cells #[.bool false] 4 (0, 0))) (hne : b2 ≠ b3) :
    Calls Tryz.prog 49 #[.pointer (some ⟨b1, 0, none⟩), .pointer (some ⟨b2, 0, none⟩), .pointer (some ⟨b3, 0, none⟩)] w fun e w' => e = .returned (.tuple #[]) ∧ Ext (fun k => k = b2 ∨ k = b3) w w' ∧
      w'.heap[b2]? = some (.cells #[.string (S (readOut l))] 9 (0, 0)) ∧ w'.heap[b3]? = some (.cells #[.bool (!overU (readZ l))] 4 (0, 0)) := by
  have c1 := one_cell h1
  have hl2 := iter_lt h2
  have hl3 := iter_lt h3
  have H2 := Lib.hid h2
  have H3 := Lib.hid h3
  clear h1 h2 h3
  cases ho : overU (readZ l) with
  | true =>
    have hro : readOut l = [] := by unfold readOut; rw [if_pos ho]
    have HO := Lib.hid ho
    rw [hro]
    clear ho hro
    go_enter Tryz.func49, Tryz.ntmps49
    go_wp2_with fail
    refine (parseUint_err l p w hok hl hp HO.out).mono ?_
    rintro e w1 ⟨a, rfl, hb1⟩
    have HB := Lib.hid hb1
    clear hb1
    go_wp2_with fail
    go_end0
    exact ⟨rfl, Ext.of_below (bt HB.out (below_a1 _ _)), heap_old ((HB.out.block b2 hl2).trans H2.out), heap_old ((HB.out.block b3 hl3).trans H3.out)⟩
  | false =>
    have hro : readOut l = zText (readZ l) := by unfold readOut; rw [if_neg (by rw [ho]; decide)]
    obtain ⟨hnl, _⟩ := overU_len ho
    have HO := Lib.hid ho
    rw [hro]
    clear ho hro
    go_enter Tryz.func49, Tryz.ntmps49
    go_wp2_with fail
    refine (parseUint_walk l p w hok hl hp HO.out).mono ?_
    rintro e w1 ⟨g, rfl, hi1, hb1, _⟩
    have HB := Lib.hid hb1
    have HI := Lib.hid hi1
    clear hb1 hi1
    go_wp2_with fail
    refine (uintString_walk g (readZ l) _ (HI.out.below (below_a1 _ _)) hnl ((hleaf.below HB.out).below (below_a1 _ _))).mono ?_
    rintro e w2 ⟨rfl, hb2⟩
    have hbb := bt (bt HB.out (below_a1 w1 (.cells #[.pointer (some ⟨g, 0, none⟩)] 52))) hb2
    have k2 := (hbb.block b2 hl2).trans H2.out
    have k3 := (hbb.block b3 hl3).trans H3.out
    have c2 := one_cell k2
    have c3 := one_cell k3
    have f2 := one_free k2 0
    have f3 := one_free k3 0
    have K2 := Lib.hid k2
    have K3 := Lib.hid k3
    have HBB := Lib.hid hbb
    clear k2 k3 hbb hb2
    go_wp2_with fail
    go_end0
    refine ⟨rfl, (((Ext.of_below HBB.out).setCell (p := ⟨b2, 0, none⟩) (fun _ => .inl rfl) _).setCell (p := ⟨b3, 0, none⟩) (fun _ => .inr rfl) _), ?_, ?_⟩
    · rw [one_other hne]
      exact one_set K2.out
    · exact one_set ((one_other (a := ⟨b2, 0, none⟩) hne.symm).trans K3.out)

set_option maxRecDepth 100000 in
theorem callCUintRead : ∀ (caps : Array Value) (w : World), (callFunc 49 caps).run Tryz.prog w = .ok (.enter 49 caps) w := fun _ _ => by rfl
set_option maxRecDepth 100000 in
set_option maxHeartbeats 2000000 in
theorem uintRead_walk (l : List UInt8) (p : Addr) (w : World) (hok : readOk l = true) (hl : l.length ≤ 1000) (hp : EofIs w p) (hleaf : LeafIs w) :
    Calls Tryz.prog 22 #[.string (S l)] w fun e w' => e = .returned (.tuple #[.string (S (readOut l)), .bool (!overU (readZ l))]) ∧ Below w.heap.size w w' := by
  have hmf : ∀ (fn : Fn) (first cap : Array Value) (w : World), (Instr.makeFunc fn first cap).run Tryz.prog w = .ok (.func fn first cap) w := fun _ _ _ _ => rfl
  go_enter Tryz.func22, Tryz.ntmps22
  go_wp2_with fail
  refine (safe_ret 49 _ _ (fun w' => Below w.heap.size w w' ∧ w'.heap[w.heap.size + 1]? = some (.cells #[.string (S (readOut l))] 9 (0, 0)) ∧ w'.heap[w.heap.size + 1 + 1]? = some (.cells #[.bool (!overU (readZ l))] 4 (0, 0))) (callCUintRead _) ?_).mono ?_
  · refine (uintReadC_walk l p _ _ _ _ hok hl ((((hp.below (below_a1 _ _)).below (below_a1 _ _)).below (below_a1 _ _)).below (below_a1 _ _)) ((((hleaf.below (below_a1 _ _)).below (below_a1 _ _)).below (below_a1 _ _)).below (below_a1 _ _)) ?_ ?_ ?_ ?_).mono ?_
    · simp only [heap_get, heap_size_alloc]
      rw [if_neg (by omega), if_neg (by omega), if_neg (by omega), if_pos trivial]
    · simp only [heap_get, heap_size_alloc]
      rw [if_neg (by omega), if_neg (by omega), if_pos trivial]
    · simp only [heap_get, heap_size_alloc]
      rw [if_neg (by omega), if_pos trivial]
    · omega
    · rintro e w1 ⟨rfl, he, k2, k3⟩
      have hz := he.size
      simp only [heap_size_alloc] at hz
      refine ⟨rfl, ?_, ?_, ?_, ?_⟩
      · rw [he.block _ (by simp only [heap_size_alloc]; omega) (by simp only [heap_size_alloc]; omega)]
        simp only [heap_get, heap_size_alloc]
        rw [if_pos trivial]
      · refine Below.setCell (Below.setCell ?_ (by simp only [heap_size_alloc]; omega) _) (by simp only [heap_size_alloc]; omega) _
        exact ((((Below.refl _ w).alloc (Nat.le_refl _) _).alloc (by simp only [heap_size_alloc]; omega) _).alloc (by simp only [heap_size_alloc]; omega) _).alloc (by simp only [heap_size_alloc]; omega) _ |>.trans (he.below (by simp only [heap_size_alloc]; omega) (by rintro k (rfl | rfl) <;> omega))
      · rw [one_other (by simp only [heap_size_alloc]; omega), one_other (by simp only [heap_size_alloc]; omega)]
        exact k2
      · rw [one_other (by simp only [heap_size_alloc]; omega), one_other (by simp only [heap_size_alloc]; omega)]
        exact k3
  · rintro e w1 ⟨rfl, hb, k2, k3⟩
    have c2 := one_cell k2
    have c3 := one_cell k3
    have f2 := one_free k2 0
    have f3 := one_free k3 0
    have K2 := Lib.hid k2
    have K3 := Lib.hid k3
    clear k2 k3
    obtain ⟨b, hob⟩ : ∃ b, overU (readZ l) = b := ⟨_, rfl⟩
    have hro : b = true → readOut l = [] := fun h => by unfold readOut; rw [if_pos (hob.trans h)]
    rw [hob] at c3 K3
    cases b with
    | true =>
      have HRO := Lib.hid (hro rfl)
      have HOB := Lib.hid hob
      clear hob hro
      go_wp2_with fail
      have e2 := (one_other (u := .bool false) (w := w1.setCell ⟨w.heap.size + 1, 0, none⟩ (.string ⟨#[]⟩)) (g := w.heap.size + 1) (a := ⟨w.heap.size + 1 + 1, 0, none⟩) (by simp)).trans (one_set (u := .string ⟨#[]⟩) K2.out)
      have e3 := one_set (u := .bool false) ((one_other (u := .string ⟨#[]⟩) (w := w1) (g := w.heap.size + 1 + 1) (a := ⟨w.heap.size + 1, 0, none⟩) (by simp)).trans K3.out)
      have d2 := one_cell e2
      have d3 := one_cell e3
      exact bodyPost_ret (v := .tuple #[.string (S []), .bool false]) (by simp [results, Tryz.results22, go_sem, d2, d3]; rfl) rfl ⟨by rw [HRO.out, HOB.out]; rfl, (hb.setCell (p := ⟨w.heap.size + 1, 0, none⟩) (by simp) _).setCell (p := ⟨w.heap.size + 1 + 1, 0, none⟩) (by simp; omega) _⟩
    | false =>
      have HOB := Lib.hid hob
      clear hob hro
      go_wp2_with fail
      have e2 := (one_other (u := .bool true) (w := w1.setCell ⟨w.heap.size + 1, 0, none⟩ (.string (S (readOut l)))) (g := w.heap.size + 1) (a := ⟨w.heap.size + 1 + 1, 0, none⟩) (by simp)).trans (one_set (u := .string (S (readOut l))) K2.out)
      have e3 := one_set (u := .bool true) ((one_other (u := .string (S (readOut l))) (w := w1) (g := w.heap.size + 1 + 1) (a := ⟨w.heap.size + 1, 0, none⟩) (by simp)).trans K3.out)
      have d2 := one_cell e2
      have d3 := one_cell e3
      exact bodyPost_ret (v := .tuple #[.string (S (readOut l)), .bool true]) (by simp [results, Tryz.results22, go_sem, d2, d3]) rfl ⟨by rw [HOB.out]; rfl, (hb.setCell (p := ⟨w.heap.size + 1, 0, none⟩) (by simp) _).setCell (p := ⟨w.heap.size + 1 + 1, 0, none⟩) (by simp; omega) _⟩
end Go.Proofs.YtapfolgiafnllaaGreatDoor

/-
  NewUint, impl.UintMade.
-/
namespace Go.Proofs.YtapfolgiafnllaaGreatDoor
open Go.RowKit

set_option maxRecDepth 100000 in
set_option maxHeartbeats 1000000 in
theorem setUint64N_walk (x : Nat) (w : World) (hx : x < 18446744073709551616) :
    Calls Tryz.prog 111 #[.slice none 0 0, .int .u64 x] w (OwnPost w.heap.size w x) := by
  have hS := setWord_walk w.heap.size none 0 0 x w (.inl ⟨rfl, rfl, rfl⟩) (Nat.le_refl _) hx
  rw [wds_zero] at hS
  have HS := Lib.hid hS
  clear hS
  go_enter Tryz.func111, Tryz.ntmps111
  go_wp2_with fail
  refine HS.out.mono ?_
  rintro e w1 ⟨A1, c1, rfl, hp⟩
  go_wp2_with fail
  go_ret
  exact ⟨A1, c1, rfl, hp⟩

set_option maxRecDepth 100000 in
set_option maxHeartbeats 1000000 in
theorem intSetUint64_walk (gz x : Nat) (w : World) (hz : IntNew w gz) (hx : x < 18446744073709551616) :
    Calls Tryz.prog 84 #[.pointer (some ⟨gz, 0, none⟩), .int .u64 x] w fun e w' => e = .returned (.pointer (some ⟨gz, 0, none⟩)) ∧ IntAt w' gz (x : Int) ∧ Ext (fun b => b = gz) w w' := by
  have c1 := num_cell1 hz
  have HS := Lib.hid (setUint64N_walk x w hx)
  have HZ := Lib.hid hz
  have hlt := iter_lt hz
  clear hz
  go_enter Tryz.func84, Tryz.ntmps84
  go_wp2_with fail
  refine HS.out.mono ?_
  rintro e w1 ⟨A1, c1', rfl, hown, hb, hs⟩
  have hz1 := (hb.block gz hlt).trans HZ.out
  have e0 := num_cell0 hz1
  have e1 := num_cell1 hz1
  have f0 := one_free hz1 0
  have f1 := one_free hz1 1
  have HZ1 := Lib.hid hz1
  have HO := Lib.hid hown
  have HB := Lib.hid hb
  have hr := hown.room
  clear hz1 hown hb
  go_wp2_with fail
  go_ret
  exact ⟨rfl, IntAt.put HZ1.out (by simp) (decide_eq_false (by omega)) hr.1 (by omega) HO.out.wd (fun a ha => by have := HO.out.ge a ha; omega),
    Ext.setCell (D := fun b => b = gz) (p := ⟨gz, 0, none⟩) (Ext.setCell (D := fun b => b = gz) (p := ⟨gz, 1, none⟩) (Ext.of_below HB.out) (fun _ => rfl) _) (fun _ => rfl) _⟩

theorem over_u64 {x : Nat} (hx : x < 18446744073709551616) : overU (x : Int) = false ∧ natLen ((x : Int).natAbs) ≤ 320 ∧ (wds ((x : Int).natAbs)).length ≤ 1 := by
  have h1 : natLen x ≤ 64 := (natLen_lt_iff x 64).2 (by simpa using hx)
  have h2 : (wds x).length ≤ 1 := toD_length_le (by decide) 1 x (by simpa using hx)
  refine ⟨?_, by rw [Int.natAbs_natCast]; omega, by rw [Int.natAbs_natCast]; exact h2⟩
  unfold overU
  rw [decide_eq_false (show ¬ (x : Int) < 0 by omega), Int.natAbs_natCast, decide_eq_false (by omega)]
  rfl

set_option maxRecDepth 100000 in
set_option maxHeartbeats 1000000 in
theorem newUintU_walk (x : Nat) (w : World) (hx : x < 18446744073709551616) :
    Calls Tryz.prog 62 #[.int .u64 x] w (MadePost w (x : Int)) := by
  obtain ⟨ho, hl, hl1⟩ := over_u64 hx
  go_enter Tryz.func62, Tryz.ntmps62
  go_wp2_with fail
  have hs1 := heap_size_alloc w (.cells #[.pointer none] 52)
  have hz : IntNew ((w.alloc (.cells #[.pointer none] 52)).alloc (.cells #[.bool false, .slice none 0 0] 80)) (w.heap.size + 1) := heap_at _ _ hs1
  have hk : ((w.alloc (.cells #[.pointer none] 52)).alloc (.cells #[.bool false, .slice none 0 0] 80)).heap[w.heap.size]? = some (.cells #[.pointer none] 52 (0, 0)) := heap_old (heap_here _ _)
  have hb := below_a2 w (.cells #[.pointer none] 52) (.cells #[.bool false, .slice none 0 0] 80)
  obtain ⟨wa, hwa⟩ : ∃ wa, (w.alloc (.cells #[.pointer none] 52)).alloc (.cells #[.bool false, .slice none 0 0] 80) = wa := ⟨_, rfl⟩
  rw [hwa] at hz hk hb ⊢
  have HK := Lib.hid hk
  have HB := Lib.hid hb
  have HZ := Lib.hid hz
  clear hk hb hz hwa hs1
  refine (intSetUint64_walk (w.heap.size + 1) x wa HZ.out hx).mono ?_
  rintro e w1 ⟨rfl, hi1, hx1⟩
  have hk1 := (hx1.block w.heap.size (iter_lt HK.out) (by omega)).trans HK.out
  have hb1 : Below w.heap.size w w1 := HB.out.trans (hx1.below (by have := iter_lt HK.out; omega) (fun k hk => by omega))
  have HK1 := Lib.hid hk1
  have HI1 := Lib.hid hi1
  have HB1 := Lib.hid hb1
  clear hk1 hi1 hx1 hb1
  go_wp2_with fail
  refine (newUint_walk (w.heap.size + 1) (x : Int) w1 HI1.out (by omega) ho).mono ?_
  rintro e w5 ⟨g5, rfl, hi5, hb5, hfr⟩
  have hk5 := (hb5.block w.heap.size (iter_lt HK1.out)).trans HK1.out
  have c0 := one_cell hk5
  have f0 := one_free hk5 0
  have HK5 := Lib.hid hk5
  have HI5 := Lib.hid hi5
  have HB5 := Lib.hid hb5
  clear hk5 hi5 hb5
  go_wp2_with fail
  have k0 := one_set (u := .pointer (some ⟨g5, 0, none⟩)) HK5.out
  have d0 := one_cell k0
  exact bodyPost_ret (v := .agg #[.pointer (some ⟨g5, 0, none⟩)]) (by simp [results, Tryz.results62, go_sem, d0]) rfl
    ⟨g5, rfl, HI5.out.store HK5.out (by decide) (by decide) _, (bt HB1.out HB5.out).setCell (p := ⟨w.heap.size, 0, none⟩) (Nat.le_refl _) _, Nat.le_trans HB1.out.size hfr⟩

end Go.Proofs.YtapfolgiafnllaaGreatDoor
