/-
  (*big.Int).Neg, Abs; Neg, Abs of cosmosmath's Int; impl.IntTurned.
-/
import Derived.Test.YthipbglnaalhmaaGreatDoorIntNew
import Derived.Deep.RegionHeld3
namespace Go.Proofs.YthipbglnaalhmaaGreatDoor
open Go.RowKit

theorem Wd.flip {w : World} {A : Option Addr} {ws : List Nat} {gz o : Nat} {cs : Array Value} (h : Wd w A ws) (hk : w.heap[gz]? = some (.cells cs 89 (0, 0))) (u : Value) : Wd (w.setCell ⟨gz, o, none⟩ u) A ws := by
  rcases h with h | ⟨g, zs, r, rfl, hrow, h2⟩
  · exact .inl h
  · refine .inr ⟨g, zs, r, rfl, hrow.other u ?_, h2⟩
    intro e
    have e' : g = gz := e
    subst e'
    unfold Row at hrow
    rw [hrow] at hk
    injection hk with hk
    injection hk with _ h _
    revert h
    decide
theorem int_flip {w : World} {gz c : Nat} {z y : Int} {A : Option Addr} {b0 b : Bool} (hk : w.heap[gz]? = some (.cells #[.bool b0, .slice A (wds z.natAbs).length c] 89 (0, 0))) (h2 : (wds z.natAbs).length ≤ c) (h3 : c ≤ 9223372036854775807) (h4 : Wd w A (wds z.natAbs))
    (hy : y.natAbs = z.natAbs) (hb : decide (y < 0) = b) : IntAt (w.setCell ⟨gz, 0, none⟩ (.bool b)) gz y := by
  refine ⟨A, c, ?_, by rw [hy]; exact h2, h3, by rw [hy]; exact h4.flip hk _⟩
  rw [hy, hb]
  exact cells_set hk 0 _

set_option maxRecDepth 100000 in
set_option maxHeartbeats 1000000 in
theorem intNeg_walk (gz gx : Nat) (x : Int) (w : World) (hz : IntNew w gz) (hx : IntAt w gx x) (hne : gx ≠ gz) (hl : (wds x.natAbs).length ≤ 80000) :
    Calls Tryz.prog 160 #[.pointer (some ⟨gz, 0, none⟩), .pointer (some ⟨gx, 0, none⟩)] w fun e w' => e = .returned (.pointer (some ⟨gz, 0, none⟩)) ∧ IntAt w' gz (-x) ∧ Ext (fun b => b = gz) w w' := by
  have HS := Lib.hid (intSet_walk gz gx x w hz hx (by omega) hl)
  clear hz hx hl
  go_enter Tryz.func160, Tryz.ntmps160
  go_wp2_with fail
  refine HS.out.mono ?_
  rintro e w1 ⟨rfl, hi1, hx1⟩
  obtain ⟨A, c, hk, h2, h3, h4⟩ := hi1
  have c0 := num_cell0 hk
  have c1 := num_cell1 hk
  have f0 := one_free hk 0
  have HX := Lib.hid hx1
  by_cases h0 : x = 0
  · subst h0
    have hlen : (wds (0 : Int).natAbs).length = 0 := by rw [Int.natAbs_zero, wds_zero]; rfl
    have HF := Lib.hid (int_flip (y := -0) (b := false) hk h2 h3 h4 (by simp) (by simp))
    rw [hlen] at c1
    clear hk h4 hx1 hlen
    go_wp2_with fail
    go_ret
    exact ⟨rfl, HF.out, HX.out.setCell (p := ⟨gz, 0, none⟩) (fun _ => rfl) _⟩
  · have hlen : (0 : Int) < ((wds x.natAbs).length : Int) := by
      have : (wds x.natAbs).length ≠ 0 := fun h => by have := wds_len0.1 h; omega
      omega
    have HF := Lib.hid (int_flip (y := -x) (b := !decide (x < 0)) hk h2 h3 h4 (by omega) (by
      by_cases h : x < 0
      · rw [decide_eq_true h, decide_eq_false (by omega)]; rfl
      · rw [decide_eq_false h, decide_eq_true (by omega)]; rfl))
    obtain ⟨b, hb⟩ : ∃ b, decide (x < 0) = b := ⟨_, rfl⟩
    rw [hb] at c0 HF
    clear hk h4 hx1 hb h0
    go_wp2_with fail
    go_ret
    exact ⟨rfl, HF.out, HX.out.setCell (p := ⟨gz, 0, none⟩) (fun _ => rfl) _⟩
set_option maxRecDepth 100000 in
set_option maxHeartbeats 1000000 in
theorem intAbs_walk (gz gx : Nat) (x : Int) (w : World) (hz : IntNew w gz) (hx : IntAt w gx x) (hne : gx ≠ gz) (hl : (wds x.natAbs).length ≤ 80000) :
    Calls Tryz.prog 161 #[.pointer (some ⟨gz, 0, none⟩), .pointer (some ⟨gx, 0, none⟩)] w fun e w' => e = .returned (.pointer (some ⟨gz, 0, none⟩)) ∧ IntAt w' gz (x.natAbs : Int) ∧ Ext (fun b => b = gz) w w' := by
  have HS := Lib.hid (intSet_walk gz gx x w hz hx (by omega) hl)
  clear hz hx hl
  go_enter Tryz.func161, Tryz.ntmps161
  go_wp2_with fail
  refine HS.out.mono ?_
  rintro e w1 ⟨rfl, hi1, hx1⟩
  obtain ⟨A, c, hk, h2, h3, h4⟩ := hi1
  have c0 := num_cell0 hk
  have f0 := one_free hk 0
  have HX := Lib.hid hx1
  have HF := Lib.hid (int_flip (y := (x.natAbs : Int)) (b := false) hk h2 h3 h4 (by omega) (decide_eq_false (by omega)))
  clear hk h4 hx1
  go_wp2_with fail
  go_ret
  exact ⟨rfl, HF.out, HX.out.setCell (p := ⟨gz, 0, none⟩) (fun _ => rfl) _⟩

set_option maxRecDepth 100000 in
set_option maxHeartbeats 1000000 in
theorem cneg_walk (gx : Nat) (x : Int) (w : World) (hx : IntAt w gx x) (hl : (wds x.natAbs).length ≤ 80000) :
    Calls Tryz.prog 124 #[.pointer (some ⟨gx, 0, none⟩)] w fun e w' => ∃ g, e = .returned (.pointer (some ⟨g, 0, none⟩)) ∧ IntAt w' g (-x) ∧ Below w.heap.size w w' ∧ w.heap.size ≤ g := by
  have hlt := hx.lt
  have HA := Lib.hid (intNeg_walk w.heap.size gx x _ (heap_here w _) (hx.below (below_a1 _ _)) (by omega) hl)
  clear hx hl
  go_enter Tryz.func124, Tryz.ntmps124
  go_wp2_with fail
  refine HA.out.mono ?_
  rintro e w1 ⟨rfl, hi1, hx1⟩
  have HI1 := Lib.hid hi1
  have HB1 := Lib.hid ((below_a1 _ _).trans (hx1.below (B := w.heap.size) (by rw [heap_size_alloc]; omega) (fun k hk => by omega)))
  clear hi1 hx1
  go_wp2_with fail
  go_ret
  exact ⟨_, rfl, HI1.out, HB1.out, Nat.le_refl _⟩
set_option maxRecDepth 100000 in
set_option maxHeartbeats 1000000 in
theorem intNegC_walk (gx : Nat) (x : Int) (w : World) (hx : IntAt w gx x) (hl : (wds x.natAbs).length ≤ 80000) :
    Calls Tryz.prog 69 #[.agg #[.pointer (some ⟨gx, 0, none⟩)]] w (MadePost w (-x)) := by
  have HS := Lib.hid (cneg_walk gx x _ (hx.below (below_a2 w (.cells #[.pointer (some ⟨gx, 0, none⟩)] 75) (.cells #[.pointer none] 75))) hl)
  have k1 : ((w.alloc (.cells #[.pointer (some ⟨gx, 0, none⟩)] 75)).alloc (.cells #[.pointer none] 75)).heap[w.heap.size + 1]? = some (.cells #[.pointer none] 75 (0, 0)) := heap_at _ _ (heap_size_alloc _ _)
  have HK := Lib.hid k1
  clear hx hl k1
  go_enter Tryz.func69, Tryz.ntmps69
  go_wp2_with fail
  refine HS.out.mono ?_
  rintro e w1 ⟨g1, rfl, hi1, hb1, hf1⟩
  have hk1 := (hb1.block (w.heap.size + 1) (iter_lt HK.out)).trans HK.out
  have c0 := one_cell hk1
  have f0 := one_free hk1 0
  have hs1 : w.heap.size ≤ g1 := by rw [heap_size_alloc, heap_size_alloc] at hf1; omega
  have HK1 := Lib.hid hk1
  have HI1 := Lib.hid hi1
  have HB1 := Lib.hid (bt (below_a2 _ _ _) hb1)
  clear hk1 hi1 hb1 hf1
  go_wp2_with fail
  have k0 := one_set (u := .pointer (some ⟨g1, 0, none⟩)) HK1.out
  have d0 := one_cell k0
  exact bodyPost_ret (v := .agg #[.pointer (some ⟨g1, 0, none⟩)]) (by simp [results, Tryz.results69, go_sem, d0]) rfl
    ⟨g1, rfl, HI1.out.store HK1.out (by decide) (by decide) _, HB1.out.setCell (p := ⟨w.heap.size + 1, 0, none⟩) (by show w.heap.size ≤ w.heap.size + 1; omega) _, hs1⟩

set_option maxRecDepth 100000 in
set_option maxHeartbeats 1000000 in
theorem cabs_walk (gx : Nat) (x : Int) (w : World) (hx : IntAt w gx x) (hl : (wds x.natAbs).length ≤ 80000) :
    Calls Tryz.prog 125 #[.pointer (some ⟨gx, 0, none⟩)] w fun e w' => ∃ g, e = .returned (.pointer (some ⟨g, 0, none⟩)) ∧ IntAt w' g ((x.natAbs : Int)) ∧ Below w.heap.size w w' ∧ w.heap.size ≤ g := by
  have hlt := hx.lt
  have HA := Lib.hid (intAbs_walk w.heap.size gx x _ (heap_here w _) (hx.below (below_a1 _ _)) (by omega) hl)
  clear hx hl
  go_enter Tryz.func125, Tryz.ntmps125
  go_wp2_with fail
  refine HA.out.mono ?_
  rintro e w1 ⟨rfl, hi1, hx1⟩
  have HI1 := Lib.hid hi1
  have HB1 := Lib.hid ((below_a1 _ _).trans (hx1.below (B := w.heap.size) (by rw [heap_size_alloc]; omega) (fun k hk => by omega)))
  clear hi1 hx1
  go_wp2_with fail
  go_ret
  exact ⟨_, rfl, HI1.out, HB1.out, Nat.le_refl _⟩
set_option maxRecDepth 100000 in
set_option maxHeartbeats 1000000 in
theorem intAbsC_walk (gx : Nat) (x : Int) (w : World) (hx : IntAt w gx x) (hl : (wds x.natAbs).length ≤ 80000) :
    Calls Tryz.prog 70 #[.agg #[.pointer (some ⟨gx, 0, none⟩)]] w (MadePost w ((x.natAbs : Int))) := by
  have HS := Lib.hid (cabs_walk gx x _ (hx.below (below_a2 w (.cells #[.pointer (some ⟨gx, 0, none⟩)] 75) (.cells #[.pointer none] 75))) hl)
  have k1 : ((w.alloc (.cells #[.pointer (some ⟨gx, 0, none⟩)] 75)).alloc (.cells #[.pointer none] 75)).heap[w.heap.size + 1]? = some (.cells #[.pointer none] 75 (0, 0)) := heap_at _ _ (heap_size_alloc _ _)
  have HK := Lib.hid k1
  clear hx hl k1
  go_enter Tryz.func70, Tryz.ntmps70
  go_wp2_with fail
  refine HS.out.mono ?_
  rintro e w1 ⟨g1, rfl, hi1, hb1, hf1⟩
  have hk1 := (hb1.block (w.heap.size + 1) (iter_lt HK.out)).trans HK.out
  have c0 := one_cell hk1
  have f0 := one_free hk1 0
  have hs1 : w.heap.size ≤ g1 := by rw [heap_size_alloc, heap_size_alloc] at hf1; omega
  have HK1 := Lib.hid hk1
  have HI1 := Lib.hid hi1
  have HB1 := Lib.hid (bt (below_a2 _ _ _) hb1)
  clear hk1 hi1 hb1 hf1
  go_wp2_with fail
  have k0 := one_set (u := .pointer (some ⟨g1, 0, none⟩)) HK1.out
  have d0 := one_cell k0
  exact bodyPost_ret (v := .agg #[.pointer (some ⟨g1, 0, none⟩)]) (by simp [results, Tryz.results70, go_sem, d0]) rfl
    ⟨g1, rfl, HI1.out.store HK1.out (by decide) (by decide) _, HB1.out.setCell (p := ⟨w.heap.size + 1, 0, none⟩) (by show w.heap.size ≤ w.heap.size + 1; omega) _, hs1⟩

/-- What holds on the way in impl.IntTurned's closure. -/
structure TurnM (B g : Nat) (z : Int) (w0 w : World) : Prop where
  k1 : ∃ s, w.heap[B + 1]? = some (.cells #[.string s] 9 (0, 0))
  k2 : ∃ s, w.heap[B + 1 + 1]? = some (.cells #[.string s] 9 (0, 0))
  hi : IntAt w g z
  leaf : LeafIs w
  ext : Ext (fun k => k = B + 1 ∨ k = B + 1 + 1) w0 w
theorem turn_drew {B g : Nat} {z : Int} {w0 w : World} {a : Addr} {u : Value} (h : w.cell? a = some u ∧ TurnM B g z w0 w) : w.drew.cell? a = some u ∧ TurnM B g z w0 w.drew :=
  ⟨h.1, h.2.k1, h.2.k2, h.2.hi.below ((Below.refl _ _).drew), h.2.leaf, h.2.ext.drew⟩
theorem turn_grow {B g : Nat} {z : Int} {w0 w w2 : World} {a : Addr} {u : Value} (h : w.cell? a = some u ∧ TurnM B g z w0 w) (k : Below w.heap.size w w2) : w2.cell? a = some u ∧ TurnM B g z w0 w2 := by
  obtain ⟨h1, ⟨s, h2⟩, ⟨t, h3⟩, h4, h5, h6⟩ := h
  exact ⟨(k.cell (by exact World.block_lt_of_cell? w _ h1)).trans h1, ⟨s, (k.block _ (iter_lt h2)).trans h2⟩, ⟨t, (k.block _ (iter_lt h3)).trans h3⟩, h4.below k, h5.below k, h6.then_below k⟩
theorem turn_set1 {B g : Nat} {z : Int} {w0 w : World} {a : Nat} {u : Value} {s : ByteArray} (h : w.cell? ⟨a, 0, none⟩ = some u ∧ TurnM B g z w0 w) (ha : a ≠ B + 1) (hl : 6 ≠ B + 1) : (w.setCell ⟨B + 1, 0, none⟩ (.string s)).cell? ⟨a, 0, none⟩ = some u ∧ TurnM B g z w0 (w.setCell ⟨B + 1, 0, none⟩ (.string s)) := by
  obtain ⟨h1, ⟨s1, h2⟩, ⟨t, h3⟩, h4, h5, h6⟩ := h
  exact ⟨(cell_other ha).trans h1, ⟨s, one_set h2⟩, ⟨t, (one_other (by show B + 1 + 1 ≠ B + 1; omega)).trans h3⟩, h4.store h2 (by decide) (by decide) _, (cell_other hl).trans h5, h6.setCell (p := ⟨B + 1, 0, none⟩) (fun _ => .inl rfl) _⟩
theorem turn_set2 {B g : Nat} {z : Int} {w0 w : World} {a : Nat} {u : Value} {s : ByteArray} (h : w.cell? ⟨a, 0, none⟩ = some u ∧ TurnM B g z w0 w) (ha : a ≠ B + 1 + 1) (hl : 6 ≠ B + 1 + 1) : (w.setCell ⟨B + 1 + 1, 0, none⟩ (.string s)).cell? ⟨a, 0, none⟩ = some u ∧ TurnM B g z w0 (w.setCell ⟨B + 1 + 1, 0, none⟩ (.string s)) := by
  obtain ⟨h1, ⟨s1, h2⟩, ⟨t, h3⟩, h4, h5, h6⟩ := h
  exact ⟨(cell_other ha).trans h1, ⟨s1, (one_other (by show B + 1 ≠ B + 1 + 1; omega)).trans h2⟩, ⟨s, one_set h3⟩, h4.store h3 (by decide) (by decide) _, (cell_other hl).trans h5, h6.setCell (p := ⟨B + 1 + 1, 0, none⟩) (fun _ => .inr rfl) _⟩

set_option maxRecDepth 100000 in
set_option maxHeartbeats 4000000 in
theorem turnedC_walk (l : List UInt8) (p : Addr) (B : Nat) (w : World) (hok : readOk l = true) (hl : l.length ≤ 1000) (hp : EofIs w p) (hleaf : LeafIs w) (ox : overI (readZ l) = false) (hlB : 6 < B)
    (h0 : w.heap[B]? = some (.cells #[.string (S l)] 9 (0, 0))) (h1 : w.heap[B + 1]? = some (.cells #[.string ⟨#[]⟩] 9 (0, 0))) (h2 : w.heap[B + 1 + 1]? = some (.cells #[.string ⟨#[]⟩] 9 (0, 0))) :
    Calls Tryz.prog 67 #[.pointer (some ⟨B, 0, none⟩), .pointer (some ⟨B + 1, 0, none⟩), .pointer (some ⟨B + 1 + 1, 0, none⟩)] w
      fun e w' => e = .returned (.tuple #[]) ∧ Ext (fun k => k = B + 1 ∨ k = B + 1 + 1) w w' ∧ w'.heap[B + 1]? = some (.cells #[.string (S (zText (-(readZ l))))] 9 (0, 0)) ∧ w'.heap[B + 1 + 1]? = some (.cells #[.string (S (zText ((readZ l).natAbs : Int)))] 9 (0, 0)) := by
  have hwl := read_words hok hl
  have c0 := one_cell h0
  have lt2 := iter_lt h2
  have HU := Lib.hid (integer_walk l p w hok hl hp ox)
  have hnl := overI_len ox
  obtain ⟨z, hz⟩ : ∃ z, readZ l = z := ⟨_, rfl⟩
  rw [hz] at HU hwl hnl
  rw [hz]
  have HNG := Lib.hid (fun (g : Nat) (w2 : World) (h : IntAt w2 g z) => intNegC_walk g z w2 h (by omega))
  have HAB := Lib.hid (fun (g : Nat) (w2 : World) (h : IntAt w2 g z) => intAbsC_walk g z w2 h (by omega))
  have HS1 := Lib.hid (fun (g : Nat) (w2 : World) (h : IntAt w2 g (-z)) (h2 : LeafIs w2) => intStringI_walk g (-z) w2 h (by rw [Int.natAbs_neg]; exact hnl) h2)
  have HS2 := Lib.hid (fun (g : Nat) (w2 : World) (h : IntAt w2 g (z.natAbs : Int)) (h2 : LeafIs w2) => intStringI_walk g (z.natAbs : Int) w2 h (by rw [Int.natAbs_natCast]; exact hnl) h2)
  have HB0 : Hid (∀ (w1 : World) (g : Nat), IntAt w1 g z → Below w.heap.size w w1 → TurnM B g z w (w1.alloc (.cells #[.pointer (some ⟨g, 0, none⟩)] 75))) := Lib.hid (fun w1 g hi hb =>
    ⟨⟨_, heap_old ((hb.block _ (iter_lt h1)).trans h1)⟩, ⟨_, heap_old ((hb.block _ (iter_lt h2)).trans h2)⟩, hi.below (below_a1 _ _), hleaf.below (bt hb (below_a1 _ _)), Ext.of_below (bt hb (below_a1 _ _))⟩)
  obtain ⟨T1, hT1⟩ : ∃ T1, zText (-z) = T1 := ⟨_, rfl⟩
  obtain ⟨T2, hT2⟩ : ∃ T2, zText (z.natAbs : Int) = T2 := ⟨_, rfl⟩
  rw [hT1] at HS1 ⊢
  rw [hT2] at HS2 ⊢
  clear h0 h1 h2 hp hleaf hz hok ox hwl hnl hT1 hT2
  go_enter Tryz.func67, Tryz.ntmps67
  go_wp2_with fail
  refine HU.out.mono ?_
  rintro e w1 ⟨g, rfl, hi1, hb1, _⟩
  have hm := HB0.out w1 g hi1 hb1
  have hsz : B + 1 + 1 < w1.heap.size := Nat.lt_of_lt_of_le lt2 hb1.size
  have hkept : (w1.alloc (.cells #[.pointer (some ⟨g, 0, none⟩)] 75)).cell? ⟨w1.heap.size, 0, none⟩ = some (.pointer (some ⟨g, 0, none⟩)) ∧ TurnM B g z w (w1.alloc (.cells #[.pointer (some ⟨g, 0, none⟩)] 75)) := ⟨one_cell (heap_here _ _), hm⟩
  obtain ⟨wB, hwB⟩ : ∃ wB, w1.alloc (.cells #[.pointer (some ⟨g, 0, none⟩)] 75) = wB := ⟨_, rfl⟩
  rw [hwB] at hkept
  have HWB := Lib.hid hwB
  clear hi1 hb1 hm hwB
  go_upto_region 1 with fail
  rw [HWB.out]
  go_region_held3 (fun w' => w'.cell? ⟨w1.heap.size, 0, none⟩ = some (.pointer (some ⟨g, 0, none⟩)) ∧ TurnM B g z w w')
    (first | exact turn_drew hkept | exact turn_grow (by assumption) hgr | exact turn_set1 (by assumption) (by omega) (by omega) | exact turn_set2 (by assumption) (by omega) (by omega) | assumption)
    (first
      | (go_at_call 69; (with_reducible refine (HNG.out g _ (by go_split_ands; exact TurnM.hi (by assumption))).mono ?_); rintro e w7 ⟨g7, rfl, hi7, hgr, _⟩; have HI7 := Lib.hid hi7; clear hi7)
      | (go_at_call 70; (with_reducible refine (HAB.out g _ (by go_split_ands; exact TurnM.hi (by assumption))).mono ?_); rintro e w10 ⟨g10, rfl, hi10, hgr, _⟩; have HI10 := Lib.hid hi10; clear hi10)
      | (go_at_call 65; (with_reducible refine (HS2.out g10 _ HI10.out (by go_split_ands; exact TurnM.leaf (by assumption))).mono ?_); rintro e w11 ⟨rfl, hgr⟩; obtain ⟨s1, hk1⟩ := (turn_grow (by assumption) hgr).2.k1; obtain ⟨s2, hk2⟩ := (turn_grow (by assumption) hgr).2.k2; have c1 := one_cell hk1; have c2 := one_cell hk2; have f1 := one_free hk1 0; have f2 := one_free hk2 0; have K1 := Lib.hid hk1; have K2 := Lib.hid hk2; clear hk1 hk2)
      | (go_at_call 65; (with_reducible refine (HS1.out g7 _ HI7.out (by go_split_ands; exact TurnM.leaf (by assumption))).mono ?_); rintro e w8 ⟨rfl, hgr⟩))
  all_goals
    have hx := (‹_ ∧ TurnM B g z w ((w11.setCell _ _).setCell _ _)›).2.ext
    go_wp2_with fail
    go_end0
    exact ⟨rfl, hx, (one_other (by show B + 1 ≠ B + 1 + 1; omega)).trans (one_set K1.out), one_set ((one_other (by show B + 1 + 1 ≠ B + 1; omega)).trans K2.out)⟩
set_option maxRecDepth 100000 in
theorem callC_turned : ∀ (caps : Array Value) (w : World), (callFunc 67 caps).run Tryz.prog w = .ok (.enter 67 caps) w := fun _ _ => by rfl
set_option maxRecDepth 100000 in
set_option maxHeartbeats 4000000 in
theorem intTurned_walk (l : List UInt8) (p : Addr) (w : World) (hok : readOk l = true) (hl : l.length ≤ 1000) (hp : EofIs w p) (hleaf : LeafIs w) (ox : overI (readZ l) = false) :
    Calls Tryz.prog 31 #[.string (S l)] w fun e w' => e = .returned (.tuple #[.string (S (zText (-(readZ l)))), .string (S (zText ((readZ l).natAbs : Int)))]) ∧ Below w.heap.size w w' := by
  have hmf : ∀ (fn : Fn) (first cap : Array Value) (w : World), (Instr.makeFunc fn first cap).run Tryz.prog w = .ok (.func fn first cap) w := fun _ _ _ _ => rfl
  obtain ⟨T1, hT1⟩ : ∃ T1, zText (-(readZ l)) = T1 := ⟨_, rfl⟩
  obtain ⟨T2, hT2⟩ : ∃ T2, zText ((readZ l).natAbs : Int) = T2 := ⟨_, rfl⟩
  have HS : Hid (Calls Tryz.prog 41 #[.func (.func 67) #[] #[.pointer (some ⟨w.heap.size, 0, none⟩), .pointer (some ⟨w.heap.size + 1, 0, none⟩), .pointer (some ⟨w.heap.size + 1 + 1, 0, none⟩)]]
      (((w.alloc (.cells #[.string (S l)] 9)).alloc (.cells #[.string ⟨#[]⟩] 9)).alloc (.cells #[.string ⟨#[]⟩] 9))
      fun e w' => e = .returned (.bool true) ∧ w'.heap[w.heap.size + 1]? = some (.cells #[.string (S T1)] 9 (0, 0)) ∧ w'.heap[w.heap.size + 1 + 1]? = some (.cells #[.string (S T2)] 9 (0, 0)) ∧ Below w.heap.size w w') := by
    apply Lib.hid
    have k0 : (((w.alloc (.cells #[.string (S l)] 9)).alloc (.cells #[.string ⟨#[]⟩] 9)).alloc (.cells #[.string ⟨#[]⟩] 9)).heap[w.heap.size]? = some (.cells #[.string (S l)] 9 (0, 0)) := heap_old (heap_old (heap_here _ _))
    have k1 : (((w.alloc (.cells #[.string (S l)] 9)).alloc (.cells #[.string ⟨#[]⟩] 9)).alloc (.cells #[.string ⟨#[]⟩] 9)).heap[w.heap.size + 1]? = some (.cells #[.string ⟨#[]⟩] 9 (0, 0)) := heap_old (heap_at _ _ (heap_size_alloc _ _))
    have k2 : (((w.alloc (.cells #[.string (S l)] 9)).alloc (.cells #[.string ⟨#[]⟩] 9)).alloc (.cells #[.string ⟨#[]⟩] 9)).heap[w.heap.size + 1 + 1]? = some (.cells #[.string ⟨#[]⟩] 9 (0, 0)) := heap_at _ _ (by simp only [heap_size_alloc])
    have hb : Below w.heap.size w (((w.alloc (.cells #[.string (S l)] 9)).alloc (.cells #[.string ⟨#[]⟩] 9)).alloc (.cells #[.string ⟨#[]⟩] 9)) := bt (below_a2 _ _ _) (below_a1 _ _)
    obtain ⟨wa, hwa⟩ : ∃ wa, ((w.alloc (.cells #[.string (S l)] 9)).alloc (.cells #[.string ⟨#[]⟩] 9)).alloc (.cells #[.string ⟨#[]⟩] 9) = wa := ⟨_, rfl⟩
    rw [hwa] at k0 k1 k2 hb ⊢
    clear hwa
    have lt2 := iter_lt k2
    have hlb := hleaf.lt
    refine safe_ret 67 _ wa (fun w' => w'.heap[w.heap.size + 1]? = some (.cells #[.string (S T1)] 9 (0, 0)) ∧ w'.heap[w.heap.size + 1 + 1]? = some (.cells #[.string (S T2)] 9 (0, 0)) ∧ Below w.heap.size w w') (callC_turned _) ?_
    refine (turnedC_walk l p w.heap.size _ hok hl ((hp.below hb).below (below_a1 _ _)) ((hleaf.below hb).below (below_a1 _ _)) ox hlb (heap_old k0) (heap_old k1) (heap_old k2)).mono ?_
    rw [hT1, hT2]
    rintro e w1 ⟨rfl, he, j1, j2⟩
    have oth : ∀ (k : Nat), k < wa.heap.size → ((w1.setCell ⟨wa.heap.size, 0, none⟩ (.bool true)).setCell ⟨wa.heap.size, 0, none⟩ (.bool true)).heap[k]? = w1.heap[k]? := fun k hk => (one_other (by show k ≠ wa.heap.size; omega)).trans (one_other (by show k ≠ wa.heap.size; omega))
    refine ⟨rfl, (he.block wa.heap.size (by rw [heap_size_alloc]; omega) (by omega)).trans (heap_here _ _), (oth _ (by omega)).trans j1, (oth _ lt2).trans j2, ?_⟩
    refine Below.setCell (Below.setCell ?_ (by show w.heap.size ≤ wa.heap.size; omega) _) (by show w.heap.size ≤ wa.heap.size; omega) _
    exact (hb.trans ((below_a1 wa _).mono (by omega))).trans (he.below (by rw [heap_size_alloc]; omega) (fun k hk => by omega))
  rw [hT1, hT2]
  clear hT1 hT2 hok hp hleaf ox
  go_enter Tryz.func31, Tryz.ntmps31
  go_wp2_with fail
  refine HS.out.mono ?_
  rintro e w1 ⟨rfl, j1, j2, hb⟩
  have c1 := one_cell j1
  have c2 := one_cell j2
  have f1 := one_free j1 0
  have f2 := one_free j2 0
  have J1 := Lib.hid j1
  have J2 := Lib.hid j2
  have HB := Lib.hid hb
  clear j1 j2 hb
  go_wp2_with fail
  go_region
  all_goals
    go_wp2_with fail
    have e1 := (one_other (w := w1.setCell ⟨w.heap.size + 1, 0, none⟩ (.string (S T1))) (u := .string (S T2)) (g := w.heap.size + 1) (a := ⟨w.heap.size + 1 + 1, 0, none⟩) (by simp)).trans (one_set (u := .string (S T1)) J1.out)
    have e2 := one_set (u := .string (S T2)) ((one_other (u := .string (S T1)) (w := w1) (g := w.heap.size + 1 + 1) (a := ⟨w.heap.size + 1, 0, none⟩) (by simp)).trans J2.out)
    have d1 := one_cell e1
    have d2 := one_cell e2
    exact bodyPost_ret (v := .tuple #[.string (S T1), .string (S T2)]) (by simp [results, Tryz.results31, go_sem, d1, d2]) rfl ⟨rfl, ((HB.out.setCell (p := ⟨w.heap.size + 1, 0, none⟩) (by simp) _).setCell (p := ⟨w.heap.size + 1 + 1, 0, none⟩) (by simp; omega) _).drew⟩
end Go.Proofs.YthipbglnaalhmaaGreatDoor
