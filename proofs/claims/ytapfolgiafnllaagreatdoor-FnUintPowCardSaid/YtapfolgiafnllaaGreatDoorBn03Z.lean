/-
  Uint.Mul of cosmosmath, returned and out of range.
-/
import Derived.Test.YtapfolgiafnllaaGreatDoorBn08Z
import Derived.Test.YtapfolgiafnllaaGreatDoorBn14Z
import Derived.Test.YtapfolgiafnllaaGreatDoorUintDoZ
import Derived.Test.YtapfolgiafnllaaGreatDoorSpecTextZ
import Derived.Deep.RegionHeld3
import Derived.Deep.RegionWith
namespace Go.Proofs.YtapfolgiafnllaaGreatDoor
open Go.RowKit

theorem mul_words {x y : Int} (hx : overU x = false) (hy : overU y = false) : (wds (x * y).natAbs).length ≤ 9 := by
  have h1 := hx
  have h2 := hy
  unfold overU at h1 h2
  rw [Bool.or_eq_false_iff] at h1 h2
  have a1 := of_decide_eq_false h1.2
  have a2 := of_decide_eq_false h2.2
  have b1 := (natLen_lt_iff x.natAbs 256).1 (by omega)
  have b2 := (natLen_lt_iff y.natAbs 256).1 (by omega)
  refine toD_length_le (by decide) 9 _ ?_
  rw [Int.natAbs_mul]
  have e : (2 : Nat) ^ 256 * 2 ^ 256 ≤ 18446744073709551616 ^ 9 := by decide
  exact Nat.lt_of_lt_of_le (Nat.mul_lt_mul'' b1 b2) e

set_option maxRecDepth 100000 in
set_option maxHeartbeats 2000000 in
theorem uintMul_walk (gx gy : Nat) (x y : Int) (w : World) (hx : IntAt w gx x) (hy : IntAt w gy y) (hne : gy ≠ gx) (hk : KaraIs w) (ox : overU x = false) (oy : overU y = false) (oz : overU (x * y) = false) :
    Calls Tryz.prog 44 #[.agg #[.pointer (some ⟨gx, 0, none⟩)], .agg #[.pointer (some ⟨gy, 0, none⟩)]] w (MadePost w (x * y)) := by
  have hT := twoBox w gx gy x y hx hy
  have hwl := overU_words oz
  have HT := Lib.hid hT
  have HS := Lib.hid (fun (gz : Nat) (w2 : World) (h1 : IntNew w2 gz) (h2 : IntAt w2 gx x) (h3 : IntAt w2 gy y) (h4 : gx ≠ gz) (h5 : gy ≠ gz) (h6 : KaraIs w2) => intMul_walk gz gx gy x y w2 h1 h2 h3 hne h4 h5 h6 (by have := overU_words ox; omega) (by have := overU_words oy; omega))
  have HN := Lib.hid (fun (g : Nat) (w2 : World) (h1 : IntAt w2 g (x * y)) => newUint_walk g (x * y) w2 h1 (by omega) oz)
  have HK := Lib.hid hk
  clear hx hy hT hk
  go_enter Tryz.func44, Tryz.ntmps44
  go_upto_region 1 with fail
  obtain ⟨wa, hwa⟩ : ∃ wa, ((w.alloc (.cells #[.pointer (some ⟨gx, 0, none⟩)] 52)).alloc (.cells #[.pointer (some ⟨gy, 0, none⟩)] 52)).alloc (.cells #[.pointer none] 52) = wa := ⟨_, rfl⟩
  rw [hwa] at HT ⊢
  have c0 : ∀ o, (wa.alloc o).cell? ⟨w.heap.size, 0, none⟩ = some (.pointer (some ⟨gx, 0, none⟩)) := fun o => one_cell (heap_old HT.out.b0)
  have c1 : ∀ o, (wa.alloc o).cell? ⟨w.heap.size + 1, 0, none⟩ = some (.pointer (some ⟨gy, 0, none⟩)) := fun o => one_cell (heap_old HT.out.b1)
  have hs2 := iter_lt HT.out.b2
  clear hwa
  go_wp2_with fail
  refine (HS.out wa.heap.size _ (heap_here _ _) (HT.out.hx.below (below_a1 _ _)) (HT.out.hy.below (below_a1 _ _)) (Nat.ne_of_lt HT.out.hx.lt) (Nat.ne_of_lt HT.out.hy.lt) ((HK.out.below HT.out.below).below (below_a1 _ _))).mono ?_
  rintro e w1 ⟨rfl, hi1, hx1⟩
  have hk1 := (hx1.block (w.heap.size + 1 + 1) (by rw [heap_size_alloc]; omega) (by omega)).trans (heap_old (o := .cells #[.bool false, .slice none 0 0] 80) HT.out.b2)
  have hb1 : Below w.heap.size w w1 := (HT.out.below.alloc HT.out.below.size _).trans (hx1.below (by have := HT.out.below.size; rw [heap_size_alloc]; omega) (fun k hk => by have := HT.out.below.size; omega))
  have HK1 := Lib.hid hk1
  have HI1 := Lib.hid hi1
  have HB1 := Lib.hid hb1
  clear hk1 hi1 hx1 hb1 c0 c1
  go_wp2_with fail
  refine (HN.out _ w1 HI1.out).mono ?_
  rintro e w5 ⟨g5, rfl, hi5, hb5, hfr⟩
  have hk5 := (hb5.block (w.heap.size + 1 + 1) (iter_lt HK1.out)).trans HK1.out
  have c0 := one_cell hk5
  have f0 := one_free hk5 0
  have HK5 := Lib.hid hk5
  have HI5 := Lib.hid hi5
  have HB5 := Lib.hid hb5
  clear hk5 hi5 hb5
  go_wp2_with fail
  have k0 := one_set (u := .pointer (some ⟨g5, 0, none⟩)) HK5.out
  have d0 := one_cell k0
  exact bodyPost_ret (v := .agg #[.pointer (some ⟨g5, 0, none⟩)]) (by simp [results, Tryz.results44, go_sem, d0]) rfl
    ⟨g5, rfl, HI5.out.store HK5.out (by decide) (by decide) _, (bt HB1.out HB5.out).setCell (p := ⟨w.heap.size + 1 + 1, 0, none⟩) (by show w.heap.size ≤ w.heap.size + 1 + 1; omega) _, Nat.le_trans HB1.out.size hfr⟩

set_option maxRecDepth 100000 in
set_option maxHeartbeats 2000000 in
theorem uintMul_panic (gx gy : Nat) (x y : Int) (w : World) (hx : IntAt w gx x) (hy : IntAt w gy y) (hne : gy ≠ gx) (hk : KaraIs w) (ox : overU x = false) (oy : overU y = false) (oz : overU (x * y) = true) :
    Calls Tryz.prog 44 #[.agg #[.pointer (some ⟨gx, 0, none⟩)], .agg #[.pointer (some ⟨gy, 0, none⟩)]] w (PanicPost w) := by
  have hT := twoBox w gx gy x y hx hy
  have hwl := mul_words ox oy
  have HT := Lib.hid hT
  have HS := Lib.hid (fun (gz : Nat) (w2 : World) (h1 : IntNew w2 gz) (h2 : IntAt w2 gx x) (h3 : IntAt w2 gy y) (h4 : gx ≠ gz) (h5 : gy ≠ gz) (h6 : KaraIs w2) => intMul_walk gz gx gy x y w2 h1 h2 h3 hne h4 h5 h6 (by have := overU_words ox; omega) (by have := overU_words oy; omega))
  have HN := Lib.hid (fun (g : Nat) (w2 : World) (h1 : IntAt w2 g (x * y)) => newUint_panic g (x * y) w2 h1 (by omega) oz)
  have HK := Lib.hid hk
  clear hx hy hT hk
  go_enter Tryz.func44, Tryz.ntmps44
  go_upto_region 1 with fail
  obtain ⟨wa, hwa⟩ : ∃ wa, ((w.alloc (.cells #[.pointer (some ⟨gx, 0, none⟩)] 52)).alloc (.cells #[.pointer (some ⟨gy, 0, none⟩)] 52)).alloc (.cells #[.pointer none] 52) = wa := ⟨_, rfl⟩
  rw [hwa] at HT ⊢
  have c0 : ∀ o, (wa.alloc o).cell? ⟨w.heap.size, 0, none⟩ = some (.pointer (some ⟨gx, 0, none⟩)) := fun o => one_cell (heap_old HT.out.b0)
  have c1 : ∀ o, (wa.alloc o).cell? ⟨w.heap.size + 1, 0, none⟩ = some (.pointer (some ⟨gy, 0, none⟩)) := fun o => one_cell (heap_old HT.out.b1)
  have hs2 := iter_lt HT.out.b2
  clear hwa
  go_wp2_with fail
  refine (HS.out wa.heap.size _ (heap_here _ _) (HT.out.hx.below (below_a1 _ _)) (HT.out.hy.below (below_a1 _ _)) (Nat.ne_of_lt HT.out.hx.lt) (Nat.ne_of_lt HT.out.hy.lt) ((HK.out.below HT.out.below).below (below_a1 _ _))).mono ?_
  rintro e w1 ⟨rfl, hi1, hx1⟩
  have hk1 := (hx1.block (w.heap.size + 1 + 1) (by rw [heap_size_alloc]; omega) (by omega)).trans (heap_old (o := .cells #[.bool false, .slice none 0 0] 80) HT.out.b2)
  have hb1 : Below w.heap.size w w1 := (HT.out.below.alloc HT.out.below.size _).trans (hx1.below (by have := HT.out.below.size; rw [heap_size_alloc]; omega) (fun k hk => by have := HT.out.below.size; omega))
  have HK1 := Lib.hid hk1
  have HI1 := Lib.hid hi1
  have HB1 := Lib.hid hb1
  clear hk1 hi1 hx1 hb1 c0 c1
  go_wp2_with fail
  refine (HN.out _ w1 HI1.out).mono ?_
  rintro e w5 ⟨t5, v5, rfl, hb5⟩
  have HB5 := Lib.hid (bt HB1.out hb5)
  clear hb5
  go_wp2_with fail
  have hp : PanicPost w (.panicked [{ v := .iface t5 v5, recovered := false }]) w5 := ⟨_, _, rfl, HB5.out⟩
  exact ⟨rfl, hp⟩
end Go.Proofs.YtapfolgiafnllaaGreatDoor

/-
  laws.uintAwake: true.
-/
namespace Go.Proofs.YtapfolgiafnllaaGreatDoor
open Go.RowKit

theorem overU_fits (z : Int) : overU z = (decide (z < 0) || !decide (z.natAbs < 2 ^ 256)) := by
  unfold overU
  congr 1
  by_cases h : z.natAbs < 2 ^ 256
  · rw [decide_eq_true h, decide_eq_false (by have := (natLen_lt_iff z.natAbs 256).2 h; omega)]; rfl
  · rw [decide_eq_false h, decide_eq_true (by
      refine Nat.lt_of_not_le fun hle => h ((natLen_lt_iff z.natAbs 256).1 hle))]; rfl
theorem read5 : readOk [53] = true ∧ readZ [53] = 5 := by decide
theorem read3 : readOk [51] = true ∧ readZ [51] = 3 := by decide
theorem read7 : readOk [55] = true ∧ readZ [55] = 7 := by decide
theorem text2 : zText 2 = [50] := by
  unfold zText numText
  rw [show (2 : Int).natAbs = 2 from rfl, toD_pos (by decide) (by decide), toD_zero]
  rfl
theorem text7 : zText 7 = [55] := by
  unfold zText numText
  rw [show (7 : Int).natAbs = 7 from rfl, toD_pos (by decide) (by decide), toD_zero]
  rfl
theorem over_small {z : Int} (h0 : 0 ≤ z) (h1 : z < 10) : overU z = false := by
  rw [overU_fits, decide_eq_false (by omega), decide_eq_true (Nat.lt_of_lt_of_le (show z.natAbs < 10 by omega) (by decide))]; rfl

set_option maxRecDepth 100000 in
set_option maxHeartbeats 1000000 in
theorem uintAwake_walk (p : Addr) (w : World) (hp : EofIs w p) (hleaf : LeafIs w) : Calls Tryz.prog 6 #[] w fun e w' => e = .returned (.bool true) ∧ Below w.heap.size w w' := by
  have hd := uintDo_walk [53] [51] p w read5.1 read3.1 (by decide) (by decide) hp hleaf (by rw [read5.2]; exact over_small (by decide) (by decide)) (by rw [read3.2]; exact over_small (by decide) (by decide)) (by rw [read5.2, read3.2]; exact over_small (by decide) (by decide))
  have hr : ∀ (w : World) (hp : EofIs w p) (hleaf : LeafIs w), _ := fun w hp hleaf => uintRead_walk [55] p w read7.1 (by decide) hp hleaf
  have e2 : zText (readZ [53] - readZ [51]) = [50] := by rw [read5.2, read3.2]; exact text2
  have e7 : readOut [55] = [55] := by
    unfold readOut
    rw [read7.2, over_small (by decide) (by decide)]
    exact text7
  have eo : overU (readZ [55]) = false := by rw [read7.2]; exact over_small (by decide) (by decide)
  rw [e2] at hd
  rw [e7, eo] at hr
  have HD := Lib.hid hd
  have HR := Lib.hid hr
  have HP := Lib.hid hp
  have HLF := Lib.hid hleaf
  clear hd hr hp hleaf e2 e7 eo
  go_enter Tryz.func6, Tryz.ntmps6
  go_wp2_with fail
  rw [S_lit, S_lit]
  refine HD.out.mono ?_
  rintro e w1 ⟨rfl, hb1⟩
  have HB1 := Lib.hid hb1
  clear hb1
  go_wp2_with fail
  rw [S_lit]
  refine (HR.out w1 (HP.out.below HB1.out) (HLF.out.below HB1.out)).mono ?_
  rintro e w2 ⟨rfl, hb2⟩
  have HB2 := Lib.hid hb2
  clear hb2
  go_wp2_with fail
  go_ret
  exact ⟨rfl, bt HB1.out HB2.out⟩
end Go.Proofs.YtapfolgiafnllaaGreatDoor

/-
  big.NewInt of 0 and 1; OneUint, ZeroUint, Incr, Decr of cosmosmath.
-/
namespace Go.Proofs.YtapfolgiafnllaaGreatDoor
open Go.RowKit

def MadeBig (w : World) (z : Int) (e : Ending) (w' : World) : Prop := ∃ g, e = .returned (.pointer (some ⟨g, 0, none⟩)) ∧ IntAt w' g z ∧ Below w.heap.size w w' ∧ w.heap.size ≤ g
set_option maxRecDepth 100000 in
set_option maxHeartbeats 1000000 in
theorem newInt0_walk (w : World) : Calls Tryz.prog 81 #[.int .i64 0] w (MadeBig w 0) := by
  go_enter Tryz.func81, Tryz.ntmps81
  go_wp2_with fail
  go_ret
  exact ⟨w.heap.size, rfl, ⟨none, 0, by rw [show Int.natAbs 0 = 0 from rfl, wds_zero]; exact heap_here _ _, by rw [show Int.natAbs 0 = 0 from rfl, wds_zero]; exact Nat.le_refl _, by decide, .inl wds_zero⟩, below_a1 _ _, Nat.le_refl _⟩
set_option maxRecDepth 100000 in
set_option maxHeartbeats 1000000 in
theorem newInt1_walk (w : World) : Calls Tryz.prog 81 #[.int .i64 1] w (MadeBig w 1) := by
  have h1 : wds 1 = [1] := wds_one (by decide) (by decide)
  go_enter Tryz.func81, Tryz.ntmps81
  go_wp2_with fail
  go_ret
  exact ⟨w.heap.size + 1, rfl, ⟨some ⟨w.heap.size, 0, none⟩, 1, by rw [show Int.natAbs 1 = 1 from rfl, h1]; exact heap_at _ _ (heap_size_alloc _ _), by rw [show Int.natAbs 1 = 1 from rfl, h1]; exact Nat.le_refl _, by decide, .inr ⟨w.heap.size, [1], [], rfl, heap_old (heap_here _ _), by rw [show Int.natAbs 1 = 1 from rfl, h1]; rfl⟩⟩, below_a2 _ _ _, Nat.le_succ _⟩

set_option maxRecDepth 100000 in
set_option maxHeartbeats 1000000 in
theorem zeroUint_walk (w : World) : Calls Tryz.prog 61 #[] w (MadePost w 0) := by
  go_enter Tryz.func61, Tryz.ntmps61
  go_wp2_with fail
  refine (newInt0_walk _).mono ?_
  rintro e w1 ⟨g, rfl, hi, hb, hfr⟩
  have hk := (hb.block w.heap.size (by rw [heap_size_alloc]; omega)).trans (heap_here w (.cells #[.pointer none] 52))
  have c0 := one_cell hk
  have f0 := one_free hk 0
  have HK := Lib.hid hk
  have HI := Lib.hid hi
  have HB := Lib.hid (bt (below_a1 w (.cells #[.pointer none] 52)) hb)
  have hfr2 : w.heap.size ≤ g := by rw [heap_size_alloc] at hfr; omega
  clear hk hi hb hfr
  go_wp2_with fail
  have k0 := one_set (u := .pointer (some ⟨g, 0, none⟩)) HK.out
  have d0 := one_cell k0
  exact bodyPost_ret (v := .agg #[.pointer (some ⟨g, 0, none⟩)]) (by simp [results, Tryz.results61, go_sem, d0]) rfl
    ⟨g, rfl, HI.out.store HK.out (by decide) (by decide) _, HB.out.setCell (p := ⟨w.heap.size, 0, none⟩) (Nat.le_refl _) _, hfr2⟩

set_option maxRecDepth 100000 in
set_option maxHeartbeats 1000000 in
theorem oneUint_walk (w : World) : Calls Tryz.prog 60 #[] w (MadePost w 1) := by
  go_enter Tryz.func60, Tryz.ntmps60
  go_wp2_with fail
  refine (newInt1_walk _).mono ?_
  rintro e w1 ⟨g, rfl, hi, hb, hfr⟩
  have hk := (hb.block w.heap.size (by rw [heap_size_alloc]; omega)).trans (heap_here w (.cells #[.pointer none] 52))
  have c0 := one_cell hk
  have f0 := one_free hk 0
  have HK := Lib.hid hk
  have HI := Lib.hid hi
  have HB := Lib.hid (bt (below_a1 w (.cells #[.pointer none] 52)) hb)
  have hfr2 : w.heap.size ≤ g := by rw [heap_size_alloc] at hfr; omega
  clear hk hi hb hfr
  go_wp2_with fail
  have k0 := one_set (u := .pointer (some ⟨g, 0, none⟩)) HK.out
  have d0 := one_cell k0
  exact bodyPost_ret (v := .agg #[.pointer (some ⟨g, 0, none⟩)]) (by simp [results, Tryz.results60, go_sem, d0]) rfl
    ⟨g, rfl, HI.out.store HK.out (by decide) (by decide) _, HB.out.setCell (p := ⟨w.heap.size, 0, none⟩) (Nat.le_refl _) _, hfr2⟩

/-- What holds on the way in Incr, Decr: the result's variable is there. -/
structure IncM (w w' : World) : Prop where
  below : Below w.heap.size w w'
  res : ∃ v, w'.heap[w.heap.size + 1]? = some (.cells #[v] 52 (0, 0))
theorem IncM.size {w w' : World} (h : IncM w w') : w.heap.size ≤ w'.heap.size := h.below.size
theorem incm_drew {w w1 : World} {g : Nat} {u : Value} (h : w1.cell? ⟨g, 0, none⟩ = some u ∧ IncM w w1) : w1.drew.cell? ⟨g, 0, none⟩ = some u ∧ IncM w w1.drew := ⟨h.1, h.2.below.drew, h.2.res⟩
theorem incm_grow {w w1 w2 : World} {g : Nat} {u : Value} (h : w1.cell? ⟨g, 0, none⟩ = some u ∧ IncM w w1) (k : Below w1.heap.size w1 w2) : w2.cell? ⟨g, 0, none⟩ = some u ∧ IncM w w2 := by
  obtain ⟨h1, h2, v, h3⟩ := h
  exact ⟨(k.cell (by exact World.block_lt_of_cell? w1 _ h1)).trans h1, bt h2 k, v, (k.block _ (iter_lt h3)).trans h3⟩
theorem incm_set {w w1 : World} {u x : Value} (h : w1.cell? ⟨w.heap.size, 0, none⟩ = some u ∧ IncM w w1) :
    (w1.setCell ⟨w.heap.size + 1, 0, none⟩ x).cell? ⟨w.heap.size, 0, none⟩ = some u ∧ IncM w (w1.setCell ⟨w.heap.size + 1, 0, none⟩ x) := by
  obtain ⟨h1, h2, v, h3⟩ := h
  exact ⟨(cell_other (by show w.heap.size ≠ w.heap.size + 1; omega)).trans h1, h2.setCell (p := ⟨w.heap.size + 1, 0, none⟩) (by show w.heap.size ≤ w.heap.size + 1; omega) _, x, one_set h3⟩
theorem incm_blk {w w1 w2 : World} (k : Below w1.heap.size w1 w2) (h : IncM w w1) : ∃ v, w2.heap[w.heap.size + 1]? = some (.cells #[v] 52 (0, 0)) := by
  obtain ⟨_, v, h3⟩ := h
  exact ⟨v, (k.block _ (iter_lt h3)).trans h3⟩
theorem incm_begin (w : World) (gx : Nat) :
    ((w.alloc (.cells #[.pointer (some ⟨gx, 0, none⟩)] 52)).alloc (.cells #[.pointer none] 52)).cell? ⟨w.heap.size, 0, none⟩ = some (.pointer (some ⟨gx, 0, none⟩)) ∧
    IncM w ((w.alloc (.cells #[.pointer (some ⟨gx, 0, none⟩)] 52)).alloc (.cells #[.pointer none] 52)) :=
  ⟨one_cell (heap_old (heap_here _ _)), below_a2 _ _ _, _, heap_at _ _ (heap_size_alloc _ _)⟩
theorem overU_one : overU 1 = false := by decide

end Go.Proofs.YtapfolgiafnllaaGreatDoor

/-
  What RelativePow reckons: plain.
-/
namespace Go.Proofs.YtapfolgiafnllaaGreatDoor
open Go.RowKit

/-- A product divided by b and rounded, half a b being h; none: something on the way does not fit, or b is 0. -/
def mulDiv (b h x y : Int) : Option Int :=
  if overU (x * y) = true then none else if overU (x * y + h) = true then none else if b = 0 then none else some ((x * y + h).tdiv b)
/-- RelativePow's loop. -/
def powR (b h : Int) (n : Nat) (x z : Int) : Option Int :=
  if _hn : n = 0 then some z else
    match mulDiv b h x x with
    | none => none
    | some x2 => if n % 2 = 1 then (match mulDiv b h z x2 with
      | none => none
      | some z2 => powR b h (n / 2) x2 z2) else powR b h (n / 2) x2 z
termination_by n
decreasing_by all_goals exact Nat.div_lt_self (by omega) (by decide)
theorem mulDiv_fits {b h x y z : Int} (hb : 0 ≤ b) (hh : 0 ≤ h) (hx : 0 ≤ x) (hy : 0 ≤ y) (hz : mulDiv b h x y = some z) : overU z = false ∧ 0 ≤ z ∧ b ≠ 0 ∧ overU (x * y) = false ∧ overU (x * y + h) = false ∧ z = (x * y + h).tdiv b := by
  unfold mulDiv at hz
  by_cases h1 : overU (x * y) = true
  · rw [if_pos h1] at hz; cases hz
  · rw [if_neg h1] at hz
    by_cases h2 : overU (x * y + h) = true
    · rw [if_pos h2] at hz; cases hz
    · rw [if_neg h2] at hz
      by_cases h3 : b = 0
      · rw [if_pos h3] at hz; cases hz
      · rw [if_neg h3] at hz
        injection hz with hz
        have h4 : 0 ≤ x * y + h := Int.add_nonneg (Int.mul_nonneg hx hy) hh
        have h5 : 0 ≤ z := by rw [← hz]; exact Int.tdiv_nonneg h4 hb
        refine ⟨?_, h5, h3, by simpa using h1, by simpa using h2, hz.symm⟩
        have h6 : overU (x * y + h) = false := by simpa using h2
        rw [overU_fits, Bool.or_eq_false_iff] at h6 ⊢
        have h7 : (x * y + h).natAbs < 2 ^ 256 := by simpa using h6.2
        refine ⟨decide_eq_false (by omega), ?_⟩
        have hle : z.natAbs ≤ (x * y + h).natAbs := by rw [← hz, Int.natAbs_tdiv]; exact Nat.div_le_self _ _
        have h8 : z.natAbs < 2 ^ 256 := by omega
        simpa using h8

/-- What RelativePow hands back; none: a panic. -/
def powRef (x : Int) (n : Nat) (b : Int) : Option Int :=
  if x = 0 then (if n = 0 then some 1 else some 0) else powR b (b.tdiv 2) (n / 2) x (if n % 2 = 0 then b else x)
theorem powR_zero (b h x z : Int) : powR b h 0 x z = some z := by unfold powR; rfl
theorem powR_none {b h x z : Int} {n : Nat} (hn : n ≠ 0) (h1 : mulDiv b h x x = none) : powR b h n x z = none := by unfold powR; rw [dif_neg hn, h1]
theorem powR_even {b h x z x2 : Int} {n : Nat} (hn : n ≠ 0) (h1 : mulDiv b h x x = some x2) (h2 : ¬ n % 2 = 1) : powR b h n x z = powR b h (n / 2) x2 z := by
  rw [powR, dif_neg hn, h1]
  simp only []
  rw [if_neg h2]
theorem powR_oddN {b h x z x2 : Int} {n : Nat} (hn : n ≠ 0) (h1 : mulDiv b h x x = some x2) (h2 : n % 2 = 1) (h3 : mulDiv b h z x2 = none) : powR b h n x z = none := by
  rw [powR, dif_neg hn, h1]
  simp only []
  rw [if_pos h2, h3]
theorem powR_odd {b h x z x2 z2 : Int} {n : Nat} (hn : n ≠ 0) (h1 : mulDiv b h x x = some x2) (h2 : n % 2 = 1) (h3 : mulDiv b h z x2 = some z2) : powR b h n x z = powR b h (n / 2) x2 z2 := by
  rw [powR, dif_neg hn, h1]
  simp only []
  rw [if_pos h2, h3]
/-- A round of an odd exponent, from the second product on. -/
def powR1 (b h : Int) (n : Nat) (x z : Int) : Option Int := match mulDiv b h z x with
  | none => none
  | some z2 => powR b h (n / 2) x z2
theorem powR1_none {b h x z : Int} {n : Nat} (h1 : mulDiv b h z x = none) : powR1 b h n x z = none := by unfold powR1; rw [h1]
theorem powR1_some {b h x z z2 : Int} {n : Nat} (h1 : mulDiv b h z x = some z2) : powR1 b h n x z = powR b h (n / 2) x z2 := by unfold powR1; rw [h1]
theorem powR_oddM {b h x z x2 : Int} {n : Nat} (hn : n ≠ 0) (h1 : mulDiv b h x x = some x2) (h2 : n % 2 = 1) : powR b h n x z = powR1 b h n x2 z := by
  rw [powR, dif_neg hn, h1]
  simp only []
  rw [if_pos h2]
  rfl
theorem mulDiv_n1 {b h x y : Int} (h1 : overU (x * y) = true) : mulDiv b h x y = none := by unfold mulDiv; rw [if_pos h1]
theorem mulDiv_n2 {b h x y : Int} (h1 : overU (x * y) = false) (h2 : overU (x * y + h) = true) : mulDiv b h x y = none := by unfold mulDiv; rw [if_neg (by rw [h1]; decide), if_pos h2]
theorem mulDiv_n3 {h x y : Int} (h1 : overU (x * y) = false) (h2 : overU (x * y + h) = false) : mulDiv 0 h x y = none := by unfold mulDiv; rw [if_neg (by rw [h1]; decide), if_neg (by rw [h2]; decide), if_pos rfl]
theorem mulDiv_s {b h x y : Int} (h1 : overU (x * y) = false) (h2 : overU (x * y + h) = false) (h3 : b ≠ 0) : mulDiv b h x y = some ((x * y + h).tdiv b) := by unfold mulDiv; rw [if_neg (by rw [h1]; decide), if_neg (by rw [h2]; decide), if_neg h3]
theorem tdiv_two (n : Nat) : (n : Int).tdiv 2 = ((n / 2 : Nat) : Int) := rfl
theorem tmod_two (n : Nat) : (n : Int).tmod 2 = ((n % 2 : Nat) : Int) := rfl
theorem fitsN {n : Nat} (h : n < 2 ^ 256) : overU (n : Int) = false := by
  rw [overU_fits, Int.natAbs_natCast, decide_eq_true h, decide_eq_false (by omega)]
  rfl
theorem fitsN_of {n : Nat} (h : overU (n : Int) = false) : n < 2 ^ 256 := by
  rw [overU_fits, Int.natAbs_natCast] at h
  simpa using h

theorem half_fits {x : Int} (ox : overU x = false) : overU (x.tdiv 2) = false := by
  rw [overU_fits, Bool.or_eq_false_iff] at ox ⊢
  have h1 := of_decide_eq_false ox.1
  have h2 : x.natAbs < 2 ^ 256 := by simpa using ox.2
  have h3 : (x.tdiv 2).natAbs ≤ x.natAbs := by rw [Int.natAbs_tdiv]; exact Nat.div_le_self _ _
  have h4 : 0 ≤ x.tdiv 2 := Int.tdiv_nonneg (by omega) (by decide)
  have h5 : (x.tdiv 2).natAbs < 2 ^ 256 := by omega
  exact ⟨decide_eq_false (by omega), by simpa using h5⟩
end Go.Proofs.YtapfolgiafnllaaGreatDoor
