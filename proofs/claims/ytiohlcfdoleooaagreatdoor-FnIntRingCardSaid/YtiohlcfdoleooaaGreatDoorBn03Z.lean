/-
  Uint.Mul of cosmosmath, returned and out of range.
-/
import Derived.Test.YtiohlcfdoleooaaGreatDoorBn16Z
import Derived.Test.YtiohlcfdoleooaaGreatDoorBn11Z
import Derived.Test.YtiohlcfdoleooaaGreatDoorBn22Z
import Derived.Test.YtiohlcfdoleooaaGreatDoorSpecTextZ
import Derived.Deep.RegionHeld3
import Derived.Deep.RegionWith
import Derived.Test.YtiohlcfdoleooaaGreatDoorBn19Z
namespace Go.Proofs.YtiohlcfdoleooaaGreatDoor
open Go.RowKit

theorem mul_words {x y : Int} (hx : overU x = false) (hy : overU y = false) : (wds (x * y).natAbs).length ≤ 9 := by
  have h1 := hx
  have h2 := hy
  unfold overU at h1 h2
  rw [Bool.or_eq_false_iff] at h1 h2
  have a1 := of_decide_eq_false h1.2
  have a2 := of_decide_eq_false h2.2
  have b1 := (natLen_lt_iff x.natAbs 256).1 (by omega)
  have b2 := (natLen_lt_iff y.natAbs 256).1 (by omega)
  refine toD_length_le (by decide) 9 _ ?_
  rw [Int.natAbs_mul]
  have e : (2 : Nat) ^ 256 * 2 ^ 256 ≤ 18446744073709551616 ^ 9 := by decide
  exact Nat.lt_of_lt_of_le (Nat.mul_lt_mul'' b1 b2) e

set_option maxRecDepth 100000 in
set_option maxHeartbeats 2000000 in
theorem uintMul_walk (gx gy : Nat) (x y : Int) (w : World) (hx : IntAt w gx x) (hy : IntAt w gy y) (hne : gy ≠ gx) (hk : KaraIs w) (ox : overU x = false) (oy : overU y = false) (oz : overU (x * y) = false) :
    Calls Tryz.prog 70 #[.agg #[.pointer (some ⟨gx, 0, none⟩)], .agg #[.pointer (some ⟨gy, 0, none⟩)]] w (MadePost w (x * y)) := by
  have hT := twoBox w gx gy x y hx hy
  have hwl := overU_words oz
  have HT := Lib.hid hT
  have HS := Lib.hid (fun (gz : Nat) (w2 : World) (h1 : IntNew w2 gz) (h2 : IntAt w2 gx x) (h3 : IntAt w2 gy y) (h4 : gx ≠ gz) (h5 : gy ≠ gz) (h6 : KaraIs w2) => intMul_walk gz gx gy x y w2 h1 h2 h3 hne h4 h5 h6 (by have := overU_words ox; omega) (by have := overU_words oy; omega))
  have HN := Lib.hid (fun (g : Nat) (w2 : World) (h1 : IntAt w2 g (x * y)) => newUint_walk g (x * y) w2 h1 (by omega) oz)
  have HK := Lib.hid hk
  clear hx hy hT hk
  go_enter Tryz.func70, Tryz.ntmps70
  go_upto_region 1 with fail
  obtain ⟨wa, hwa⟩ : ∃ wa, ((w.alloc (.cells #[.pointer (some ⟨gx, 0, none⟩)] 64)).alloc (.cells #[.pointer (some ⟨gy, 0, none⟩)] 64)).alloc (.cells #[.pointer none] 64) = wa := ⟨_, rfl⟩
  rw [hwa] at HT ⊢
  have c0 : ∀ o, (wa.alloc o).cell? ⟨w.heap.size, 0, none⟩ = some (.pointer (some ⟨gx, 0, none⟩)) := fun o => one_cell (heap_old HT.out.b0)
  have c1 : ∀ o, (wa.alloc o).cell? ⟨w.heap.size + 1, 0, none⟩ = some (.pointer (some ⟨gy, 0, none⟩)) := fun o => one_cell (heap_old HT.out.b1)
  have hs2 := iter_lt HT.out.b2
  clear hwa
  go_wp2_with fail
  refine (HS.out wa.heap.size _ (heap_here _ _) (HT.out.hx.below (below_a1 _ _)) (HT.out.hy.below (below_a1 _ _)) (Nat.ne_of_lt HT.out.hx.lt) (Nat.ne_of_lt HT.out.hy.lt) ((HK.out.below HT.out.below).below (below_a1 _ _))).mono ?_
  rintro e w1 ⟨rfl, hi1, hx1⟩
  have hk1 := (hx1.block (w.heap.size + 1 + 1) (by rw [heap_size_alloc]; omega) (by omega)).trans (heap_old (o := .cells #[.bool false, .slice none 0 0] 101) HT.out.b2)
  have hb1 : Below w.heap.size w w1 := (HT.out.below.alloc HT.out.below.size _).trans (hx1.below (by have := HT.out.below.size; rw [heap_size_alloc]; omega) (fun k hk => by have := HT.out.below.size; omega))
  have HK1 := Lib.hid hk1
  have HI1 := Lib.hid hi1
  have HB1 := Lib.hid hb1
  clear hk1 hi1 hx1 hb1 c0 c1
  go_wp2_with fail
  refine (HN.out _ w1 HI1.out).mono ?_
  rintro e w5 ⟨g5, rfl, hi5, hb5, hfr⟩
  have hk5 := (hb5.block (w.heap.size + 1 + 1) (iter_lt HK1.out)).trans HK1.out
  have c0 := one_cell hk5
  have f0 := one_free hk5 0
  have HK5 := Lib.hid hk5
  have HI5 := Lib.hid hi5
  have HB5 := Lib.hid hb5
  clear hk5 hi5 hb5
  go_wp2_with fail
  have k0 := one_set (u := .pointer (some ⟨g5, 0, none⟩)) HK5.out
  have d0 := one_cell k0
  exact bodyPost_ret (v := .agg #[.pointer (some ⟨g5, 0, none⟩)]) (by simp [results, Tryz.results70, go_sem, d0]) rfl
    ⟨g5, rfl, HI5.out.store HK5.out (by decide) (by decide) _, (bt HB1.out HB5.out).setCell (p := ⟨w.heap.size + 1 + 1, 0, none⟩) (by show w.heap.size ≤ w.heap.size + 1 + 1; omega) _, Nat.le_trans HB1.out.size hfr⟩

set_option maxRecDepth 100000 in
set_option maxHeartbeats 2000000 in
theorem uintMul_panic (gx gy : Nat) (x y : Int) (w : World) (hx : IntAt w gx x) (hy : IntAt w gy y) (hne : gy ≠ gx) (hk : KaraIs w) (ox : overU x = false) (oy : overU y = false) (oz : overU (x * y) = true) :
    Calls Tryz.prog 70 #[.agg #[.pointer (some ⟨gx, 0, none⟩)], .agg #[.pointer (some ⟨gy, 0, none⟩)]] w (PanicPost w) := by
  have hT := twoBox w gx gy x y hx hy
  have hwl := mul_words ox oy
  have HT := Lib.hid hT
  have HS := Lib.hid (fun (gz : Nat) (w2 : World) (h1 : IntNew w2 gz) (h2 : IntAt w2 gx x) (h3 : IntAt w2 gy y) (h4 : gx ≠ gz) (h5 : gy ≠ gz) (h6 : KaraIs w2) => intMul_walk gz gx gy x y w2 h1 h2 h3 hne h4 h5 h6 (by have := overU_words ox; omega) (by have := overU_words oy; omega))
  have HN := Lib.hid (fun (g : Nat) (w2 : World) (h1 : IntAt w2 g (x * y)) => newUint_panic g (x * y) w2 h1 (by omega) oz)
  have HK := Lib.hid hk
  clear hx hy hT hk
  go_enter Tryz.func70, Tryz.ntmps70
  go_upto_region 1 with fail
  obtain ⟨wa, hwa⟩ : ∃ wa, ((w.alloc (.cells #[.pointer (some ⟨gx, 0, none⟩)] 64)).alloc (.cells #[.pointer (some ⟨gy, 0, none⟩)] 64)).alloc (.cells #[.pointer none] 64) = wa := ⟨_, rfl⟩
  rw [hwa] at HT ⊢
  have c0 : ∀ o, (wa.alloc o).cell? ⟨w.heap.size, 0, none⟩ = some (.pointer (some ⟨gx, 0, none⟩)) := fun o => one_cell (heap_old HT.out.b0)
  have c1 : ∀ o, (wa.alloc o).cell? ⟨w.heap.size + 1, 0, none⟩ = some (.pointer (some ⟨gy, 0, none⟩)) := fun o => one_cell (heap_old HT.out.b1)
  have hs2 := iter_lt HT.out.b2
  clear hwa
  go_wp2_with fail
  refine (HS.out wa.heap.size _ (heap_here _ _) (HT.out.hx.below (below_a1 _ _)) (HT.out.hy.below (below_a1 _ _)) (Nat.ne_of_lt HT.out.hx.lt) (Nat.ne_of_lt HT.out.hy.lt) ((HK.out.below HT.out.below).below (below_a1 _ _))).mono ?_
  rintro e w1 ⟨rfl, hi1, hx1⟩
  have hk1 := (hx1.block (w.heap.size + 1 + 1) (by rw [heap_size_alloc]; omega) (by omega)).trans (heap_old (o := .cells #[.bool false, .slice none 0 0] 101) HT.out.b2)
  have hb1 : Below w.heap.size w w1 := (HT.out.below.alloc HT.out.below.size _).trans (hx1.below (by have := HT.out.below.size; rw [heap_size_alloc]; omega) (fun k hk => by have := HT.out.below.size; omega))
  have HK1 := Lib.hid hk1
  have HI1 := Lib.hid hi1
  have HB1 := Lib.hid hb1
  clear hk1 hi1 hx1 hb1 c0 c1
  go_wp2_with fail
  refine (HN.out _ w1 HI1.out).mono ?_
  rintro e w5 ⟨t5, v5, rfl, hb5⟩
  have HB5 := Lib.hid (bt HB1.out hb5)
  clear hb5
  go_wp2_with fail
  have hp : PanicPost w (.panicked [{ v := .iface t5 v5, recovered := false }]) w5 := ⟨_, _, rfl, HB5.out⟩
  exact ⟨rfl, hp⟩
end Go.Proofs.YtiohlcfdoleooaaGreatDoor

/-
  laws.uintAwake: true.
-/
namespace Go.Proofs.YtiohlcfdoleooaaGreatDoor
open Go.RowKit

theorem overU_fits (z : Int) : overU z = (decide (z < 0) || !decide (z.natAbs < 2 ^ 256)) := by
  unfold overU
  congr 1
  by_cases h : z.natAbs < 2 ^ 256
  · rw [decide_eq_true h, decide_eq_false (by have := (natLen_lt_iff z.natAbs 256).2 h; omega)]; rfl
  · rw [decide_eq_false h, decide_eq_true (by
      refine Nat.lt_of_not_le fun hle => h ((natLen_lt_iff z.natAbs 256).1 hle))]; rfl
theorem read5 : readOk [53] = true ∧ readZ [53] = 5 := by decide
theorem read3 : readOk [51] = true ∧ readZ [51] = 3 := by decide
theorem read7 : readOk [55] = true ∧ readZ [55] = 7 := by decide
theorem text2 : zText 2 = [50] := by
  unfold zText numText
  rw [show (2 : Int).natAbs = 2 from rfl, toD_pos (by decide) (by decide), toD_zero]
  rfl
theorem text7 : zText 7 = [55] := by
  unfold zText numText
  rw [show (7 : Int).natAbs = 7 from rfl, toD_pos (by decide) (by decide), toD_zero]
  rfl
theorem over_small {z : Int} (h0 : 0 ≤ z) (h1 : z < 10) : overU z = false := by
  rw [overU_fits, decide_eq_false (by omega), decide_eq_true (Nat.lt_of_lt_of_le (show z.natAbs < 10 by omega) (by decide))]; rfl

set_option maxRecDepth 100000 in
set_option maxHeartbeats 1000000 in
theorem uintAwake_walk (p : Addr) (w : World) (hp : EofIs w p) (hleaf : LeafIs w) : Calls Tryz.prog 15 #[] w fun e w' => e = .returned (.bool true) ∧ Below w.heap.size w w' := by
  have hd := uintDo_walk [53] [51] p w read5.1 read3.1 (by decide) (by decide) hp hleaf (by rw [read5.2]; exact over_small (by decide) (by decide)) (by rw [read3.2]; exact over_small (by decide) (by decide)) (by rw [read5.2, read3.2]; exact over_small (by decide) (by decide))
  have hr : ∀ (w : World) (hp : EofIs w p) (hleaf : LeafIs w), _ := fun w hp hleaf => uintRead_walk [55] p w read7.1 (by decide) hp hleaf
  have e2 : zText (readZ [53] - readZ [51]) = [50] := by rw [read5.2, read3.2]; exact text2
  have e7 : readOut [55] = [55] := by
    unfold readOut
    rw [read7.2, over_small (by decide) (by decide)]
    exact text7
  have eo : overU (readZ [55]) = false := by rw [read7.2]; exact over_small (by decide) (by decide)
  rw [e2] at hd
  rw [e7, eo] at hr
  have HD := Lib.hid hd
  have HR := Lib.hid hr
  have HP := Lib.hid hp
  have HLF := Lib.hid hleaf
  clear hd hr hp hleaf e2 e7 eo
  go_enter Tryz.func15, Tryz.ntmps15
  go_wp2_with fail
  rw [S_lit, S_lit]
  refine HD.out.mono ?_
  rintro e w1 ⟨rfl, hb1⟩
  have HB1 := Lib.hid hb1
  clear hb1
  go_wp2_with fail
  rw [S_lit]
  refine (HR.out w1 (HP.out.below HB1.out) (HLF.out.below HB1.out)).mono ?_
  rintro e w2 ⟨rfl, hb2⟩
  have HB2 := Lib.hid hb2
  clear hb2
  go_wp2_with fail
  go_ret
  exact ⟨rfl, bt HB1.out HB2.out⟩
end Go.Proofs.YtiohlcfdoleooaaGreatDoor

/-
  big.NewInt of 0 and 1; OneUint, ZeroUint, Incr, Decr of cosmosmath.
-/
namespace Go.Proofs.YtiohlcfdoleooaaGreatDoor
open Go.RowKit

def MadeBig (w : World) (z : Int) (e : Ending) (w' : World) : Prop := ∃ g, e = .returned (.pointer (some ⟨g, 0, none⟩)) ∧ IntAt w' g z ∧ Below w.heap.size w w' ∧ w.heap.size ≤ g
set_option maxRecDepth 100000 in
set_option maxHeartbeats 1000000 in
theorem newInt0_walk (w : World) : Calls Tryz.prog 168 #[.int .i64 0] w (MadeBig w 0) := by
  go_enter Tryz.func168, Tryz.ntmps168
  go_wp2_with fail
  go_ret
  exact ⟨w.heap.size, rfl, ⟨none, 0, by rw [show Int.natAbs 0 = 0 from rfl, wds_zero]; exact heap_here _ _, by rw [show Int.natAbs 0 = 0 from rfl, wds_zero]; exact Nat.le_refl _, by decide, .inl wds_zero⟩, below_a1 _ _, Nat.le_refl _⟩
set_option maxRecDepth 100000 in
set_option maxHeartbeats 1000000 in
theorem newInt1_walk (w : World) : Calls Tryz.prog 168 #[.int .i64 1] w (MadeBig w 1) := by
  have h1 : wds 1 = [1] := wds_one (by decide) (by decide)
  go_enter Tryz.func168, Tryz.ntmps168
  go_wp2_with fail
  go_ret
  exact ⟨w.heap.size + 1, rfl, ⟨some ⟨w.heap.size, 0, none⟩, 1, by rw [show Int.natAbs 1 = 1 from rfl, h1]; exact heap_at _ _ (heap_size_alloc _ _), by rw [show Int.natAbs 1 = 1 from rfl, h1]; exact Nat.le_refl _, by decide, .inr ⟨w.heap.size, [1], [], rfl, heap_old (heap_here _ _), by rw [show Int.natAbs 1 = 1 from rfl, h1]; rfl⟩⟩, below_a2 _ _ _, Nat.le_succ _⟩

set_option maxRecDepth 100000 in
set_option maxHeartbeats 1000000 in
theorem zeroUint_walk (w : World) : Calls Tryz.prog 158 #[] w (MadePost w 0) := by
  go_enter Tryz.func158, Tryz.ntmps158
  go_wp2_with fail
  refine (newInt0_walk _).mono ?_
  rintro e w1 ⟨g, rfl, hi, hb, hfr⟩
  have hk := (hb.block w.heap.size (by rw [heap_size_alloc]; omega)).trans (heap_here w (.cells #[.pointer none] 64))
  have c0 := one_cell hk
  have f0 := one_free hk 0
  have HK := Lib.hid hk
  have HI := Lib.hid hi
  have HB := Lib.hid (bt (below_a1 w (.cells #[.pointer none] 64)) hb)
  have hfr2 : w.heap.size ≤ g := by rw [heap_size_alloc] at hfr; omega
  clear hk hi hb hfr
  go_wp2_with fail
  have k0 := one_set (u := .pointer (some ⟨g, 0, none⟩)) HK.out
  have d0 := one_cell k0
  exact bodyPost_ret (v := .agg #[.pointer (some ⟨g, 0, none⟩)]) (by simp [results, Tryz.results158, go_sem, d0]) rfl
    ⟨g, rfl, HI.out.store HK.out (by decide) (by decide) _, HB.out.setCell (p := ⟨w.heap.size, 0, none⟩) (Nat.le_refl _) _, hfr2⟩

set_option maxRecDepth 100000 in
set_option maxHeartbeats 1000000 in
theorem oneUint_walk (w : World) : Calls Tryz.prog 157 #[] w (MadePost w 1) := by
  go_enter Tryz.func157, Tryz.ntmps157
  go_wp2_with fail
  refine (newInt1_walk _).mono ?_
  rintro e w1 ⟨g, rfl, hi, hb, hfr⟩
  have hk := (hb.block w.heap.size (by rw [heap_size_alloc]; omega)).trans (heap_here w (.cells #[.pointer none] 64))
  have c0 := one_cell hk
  have f0 := one_free hk 0
  have HK := Lib.hid hk
  have HI := Lib.hid hi
  have HB := Lib.hid (bt (below_a1 w (.cells #[.pointer none] 64)) hb)
  have hfr2 : w.heap.size ≤ g := by rw [heap_size_alloc] at hfr; omega
  clear hk hi hb hfr
  go_wp2_with fail
  have k0 := one_set (u := .pointer (some ⟨g, 0, none⟩)) HK.out
  have d0 := one_cell k0
  exact bodyPost_ret (v := .agg #[.pointer (some ⟨g, 0, none⟩)]) (by simp [results, Tryz.results157, go_sem, d0]) rfl
    ⟨g, rfl, HI.out.store HK.out (by decide) (by decide) _, HB.out.setCell (p := ⟨w.heap.size, 0, none⟩) (Nat.le_refl _) _, hfr2⟩

/-- What holds on the way in Incr, Decr: the result's variable is there. -/
structure IncM (w w' : World) : Prop where
  below : Below w.heap.size w w'
  res : ∃ v, w'.heap[w.heap.size + 1]? = some (.cells #[v] 64 (0, 0))
theorem IncM.size {w w' : World} (h : IncM w w') : w.heap.size ≤ w'.heap.size := h.below.size
theorem incm_drew {w w1 : World} {g : Nat} {u : Value} (h : w1.cell? ⟨g, 0, none⟩ = some u ∧ IncM w w1) : w1.drew.cell? ⟨g, 0, none⟩ = some u ∧ IncM w w1.drew := ⟨h.1, h.2.below.drew, h.2.res⟩
theorem incm_grow {w w1 w2 : World} {g : Nat} {u : Value} (h : w1.cell? ⟨g, 0, none⟩ = some u ∧ IncM w w1) (k : Below w1.heap.size w1 w2) : w2.cell? ⟨g, 0, none⟩ = some u ∧ IncM w w2 := by
  obtain ⟨h1, h2, v, h3⟩ := h
  exact ⟨(k.cell (by exact World.block_lt_of_cell? w1 _ h1)).trans h1, bt h2 k, v, (k.block _ (iter_lt h3)).trans h3⟩
theorem incm_set {w w1 : World} {u x : Value} (h : w1.cell? ⟨w.heap.size, 0, none⟩ = some u ∧ IncM w w1) :
    (w1.setCell ⟨w.heap.size + 1, 0, none⟩ x).cell? ⟨w.heap.size, 0, none⟩ = some u ∧ IncM w (w1.setCell ⟨w.heap.size + 1, 0, none⟩ x) := by
  obtain ⟨h1, h2, v, h3⟩ := h
  exact ⟨(cell_other (by show w.heap.size ≠ w.heap.size + 1; omega)).trans h1, h2.setCell (p := ⟨w.heap.size + 1, 0, none⟩) (by show w.heap.size ≤ w.heap.size + 1; omega) _, x, one_set h3⟩
theorem incm_blk {w w1 w2 : World} (k : Below w1.heap.size w1 w2) (h : IncM w w1) : ∃ v, w2.heap[w.heap.size + 1]? = some (.cells #[v] 64 (0, 0)) := by
  obtain ⟨_, v, h3⟩ := h
  exact ⟨v, (k.block _ (iter_lt h3)).trans h3⟩
theorem incm_begin (w : World) (gx : Nat) :
    ((w.alloc (.cells #[.pointer (some ⟨gx, 0, none⟩)] 64)).alloc (.cells #[.pointer none] 64)).cell? ⟨w.heap.size, 0, none⟩ = some (.pointer (some ⟨gx, 0, none⟩)) ∧
    IncM w ((w.alloc (.cells #[.pointer (some ⟨gx, 0, none⟩)] 64)).alloc (.cells #[.pointer none] 64)) :=
  ⟨one_cell (heap_old (heap_here _ _)), below_a2 _ _ _, _, heap_at _ _ (heap_size_alloc _ _)⟩
theorem overU_one : overU 1 = false := by decide

end Go.Proofs.YtiohlcfdoleooaaGreatDoor

/-
  NewUint, impl.UintMade.
-/
namespace Go.Proofs.YtiohlcfdoleooaaGreatDoor
open Go.RowKit

set_option maxRecDepth 100000 in
set_option maxHeartbeats 1000000 in
theorem setUint64N_walk (x : Nat) (w : World) (hx : x < 18446744073709551616) :
    Calls Tryz.prog 193 #[.slice none 0 0, .int .u64 x] w (OwnPost w.heap.size w x) := by
  have hS := setWord_walk w.heap.size none 0 0 x w (.inl ⟨rfl, rfl, rfl⟩) (Nat.le_refl _) hx
  rw [wds_zero] at hS
  have HS := Lib.hid hS
  clear hS
  go_enter Tryz.func193, Tryz.ntmps193
  go_wp2_with fail
  refine HS.out.mono ?_
  rintro e w1 ⟨A1, c1, rfl, hp⟩
  go_wp2_with fail
  go_ret
  exact ⟨A1, c1, rfl, hp⟩

set_option maxRecDepth 100000 in
set_option maxHeartbeats 1000000 in
theorem intSetUint64_walk (gz x : Nat) (w : World) (hz : IntNew w gz) (hx : x < 18446744073709551616) :
    Calls Tryz.prog 169 #[.pointer (some ⟨gz, 0, none⟩), .int .u64 x] w fun e w' => e = .returned (.pointer (some ⟨gz, 0, none⟩)) ∧ IntAt w' gz (x : Int) ∧ Ext (fun b => b = gz) w w' := by
  have c1 := num_cell1 hz
  have HS := Lib.hid (setUint64N_walk x w hx)
  have HZ := Lib.hid hz
  have hlt := iter_lt hz
  clear hz
  go_enter Tryz.func169, Tryz.ntmps169
  go_wp2_with fail
  refine HS.out.mono ?_
  rintro e w1 ⟨A1, c1', rfl, hown, hb, hs⟩
  have hz1 := (hb.block gz hlt).trans HZ.out
  have e0 := num_cell0 hz1
  have e1 := num_cell1 hz1
  have f0 := one_free hz1 0
  have f1 := one_free hz1 1
  have HZ1 := Lib.hid hz1
  have HO := Lib.hid hown
  have HB := Lib.hid hb
  have hr := hown.room
  clear hz1 hown hb
  go_wp2_with fail
  go_ret
  exact ⟨rfl, IntAt.put HZ1.out (by simp) (decide_eq_false (by omega)) hr.1 (by omega) HO.out.wd (fun a ha => by have := HO.out.ge a ha; omega),
    Ext.setCell (D := fun b => b = gz) (p := ⟨gz, 0, none⟩) (Ext.setCell (D := fun b => b = gz) (p := ⟨gz, 1, none⟩) (Ext.of_below HB.out) (fun _ => rfl) _) (fun _ => rfl) _⟩

theorem over_u64 {x : Nat} (hx : x < 18446744073709551616) : overU (x : Int) = false ∧ natLen ((x : Int).natAbs) ≤ 320 ∧ (wds ((x : Int).natAbs)).length ≤ 1 := by
  have h1 : natLen x ≤ 64 := (natLen_lt_iff x 64).2 (by simpa using hx)
  have h2 : (wds x).length ≤ 1 := toD_length_le (by decide) 1 x (by simpa using hx)
  refine ⟨?_, by rw [Int.natAbs_natCast]; omega, by rw [Int.natAbs_natCast]; exact h2⟩
  unfold overU
  rw [decide_eq_false (show ¬ (x : Int) < 0 by omega), Int.natAbs_natCast, decide_eq_false (by omega)]
  rfl

set_option maxRecDepth 100000 in
set_option maxHeartbeats 1000000 in
theorem newUintU_walk (x : Nat) (w : World) (hx : x < 18446744073709551616) :
    Calls Tryz.prog 156 #[.int .u64 x] w (MadePost w (x : Int)) := by
  obtain ⟨ho, hl, hl1⟩ := over_u64 hx
  go_enter Tryz.func156, Tryz.ntmps156
  go_wp2_with fail
  have hs1 := heap_size_alloc w (.cells #[.pointer none] 64)
  have hz : IntNew ((w.alloc (.cells #[.pointer none] 64)).alloc (.cells #[.bool false, .slice none 0 0] 101)) (w.heap.size + 1) := heap_at _ _ hs1
  have hk : ((w.alloc (.cells #[.pointer none] 64)).alloc (.cells #[.bool false, .slice none 0 0] 101)).heap[w.heap.size]? = some (.cells #[.pointer none] 64 (0, 0)) := heap_old (heap_here _ _)
  have hb := below_a2 w (.cells #[.pointer none] 64) (.cells #[.bool false, .slice none 0 0] 101)
  obtain ⟨wa, hwa⟩ : ∃ wa, (w.alloc (.cells #[.pointer none] 64)).alloc (.cells #[.bool false, .slice none 0 0] 101) = wa := ⟨_, rfl⟩
  rw [hwa] at hz hk hb ⊢
  have HK := Lib.hid hk
  have HB := Lib.hid hb
  have HZ := Lib.hid hz
  clear hk hb hz hwa hs1
  refine (intSetUint64_walk (w.heap.size + 1) x wa HZ.out hx).mono ?_
  rintro e w1 ⟨rfl, hi1, hx1⟩
  have hk1 := (hx1.block w.heap.size (iter_lt HK.out) (by omega)).trans HK.out
  have hb1 : Below w.heap.size w w1 := HB.out.trans (hx1.below (by have := iter_lt HK.out; omega) (fun k hk => by omega))
  have HK1 := Lib.hid hk1
  have HI1 := Lib.hid hi1
  have HB1 := Lib.hid hb1
  clear hk1 hi1 hx1 hb1
  go_wp2_with fail
  refine (newUint_walk (w.heap.size + 1) (x : Int) w1 HI1.out (by omega) ho).mono ?_
  rintro e w5 ⟨g5, rfl, hi5, hb5, hfr⟩
  have hk5 := (hb5.block w.heap.size (iter_lt HK1.out)).trans HK1.out
  have c0 := one_cell hk5
  have f0 := one_free hk5 0
  have HK5 := Lib.hid hk5
  have HI5 := Lib.hid hi5
  have HB5 := Lib.hid hb5
  clear hk5 hi5 hb5
  go_wp2_with fail
  have k0 := one_set (u := .pointer (some ⟨g5, 0, none⟩)) HK5.out
  have d0 := one_cell k0
  exact bodyPost_ret (v := .agg #[.pointer (some ⟨g5, 0, none⟩)]) (by simp [results, Tryz.results156, go_sem, d0]) rfl
    ⟨g5, rfl, HI5.out.store HK5.out (by decide) (by decide) _, (bt HB1.out HB5.out).setCell (p := ⟨w.heap.size, 0, none⟩) (Nat.le_refl _) _, Nat.le_trans HB1.out.size hfr⟩

end Go.Proofs.YtiohlcfdoleooaaGreatDoor
