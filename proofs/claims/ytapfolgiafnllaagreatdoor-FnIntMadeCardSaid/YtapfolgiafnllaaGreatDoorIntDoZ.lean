/-
  impl.IntDo, adding numbers of one sign.
-/
import Derived.Test.YtapfolgiafnllaaGreatDoorIntSumZ
import Derived.Deep.RegionHeld3
namespace Go.Proofs.YtapfolgiafnllaaGreatDoor
open Go.RowKit

theorem overI_words {z : Int} (h : overI z = false) : (wds z.natAbs).length ≤ 4 := by
  have h2 := of_decide_eq_false h
  exact toD_length_le (by decide) 4 _ (Nat.lt_of_lt_of_le ((natLen_lt_iff z.natAbs 256).1 (by omega)) (by decide))
/-- Two variables that hold Ints. -/
def TwoVarsI (w : World) (x y : Int) (xv yv : Value) (wx : World) : Prop :=
  ∃ gx gy bx b2, xv = .pointer (some ⟨bx, 0, none⟩) ∧ yv = .pointer (some ⟨b2, 0, none⟩) ∧ wx.heap[bx]? = some (.cells #[.pointer (some ⟨gx, 0, none⟩)] 55 (0, 0)) ∧ wx.heap[b2]? = some (.cells #[.pointer (some ⟨gy, 0, none⟩)] 55 (0, 0)) ∧
    IntAt wx gx x ∧ IntAt wx gy y ∧ Below w.heap.size w wx
theorem late_cellI {w2 : World} {a : Nat} (h : a < w2.heap.size) (v : Value) : ((w2.alloc (.cells #[.pointer none] 55)).setCell ⟨a, 0, none⟩ v).cell? ⟨w2.heap.size, 0, none⟩ = some (.pointer none) ∧ ((w2.alloc (.cells #[.pointer none] 55)).setCell ⟨a, 0, none⟩ v).frozen? ⟨w2.heap.size, 0, none⟩ = false := by
  have hk : ((w2.alloc (.cells #[.pointer none] 55)).setCell ⟨a, 0, none⟩ v).heap[w2.heap.size]? = some (.cells #[.pointer none] 55 (0, 0)) := (one_other (by show w2.heap.size ≠ a; omega)).trans (heap_here _ _)
  exact ⟨one_cell hk, one_free hk 0⟩
theorem early_cellI {w1 w2 : World} (hb : Below (w1.alloc (.cells #[.pointer none] 55)).heap.size (w1.alloc (.cells #[.pointer none] 55)) w2) : w1.heap.size < w2.heap.size ∧ w2.heap[w1.heap.size]? = some (.cells #[.pointer none] 55 (0, 0)) := by
  have h1 := hb.size
  rw [heap_size_alloc] at h1
  exact ⟨h1, (hb.block _ (by rw [heap_size_alloc]; omega)).trans (heap_here _ _)⟩
theorem early_cell2I {w1 w2 : World} (hb : Below ((w1.alloc (.cells #[.pointer none] 55)).alloc (.cells #[.pointer none] 55)).heap.size ((w1.alloc (.cells #[.pointer none] 55)).alloc (.cells #[.pointer none] 55)) w2) :
    w2.heap[w1.heap.size]? = some (.cells #[.pointer none] 55 (0, 0)) ∧ w2.heap[w1.heap.size + 1]? = some (.cells #[.pointer none] 55 (0, 0)) ∧ w1.heap.size + 1 < w2.heap.size := by
  have h1 := hb.size
  rw [heap_size_alloc, heap_size_alloc] at h1
  exact ⟨(hb.block _ (by rw [heap_size_alloc, heap_size_alloc]; omega)).trans (heap_old (heap_here _ _)), (hb.block _ (by rw [heap_size_alloc, heap_size_alloc]; omega)).trans (heap_at _ _ (heap_size_alloc _ _)), h1⟩
theorem early_oldI {w2 : World} {a : Nat} (h : w2.heap[a]? = some (.cells #[.pointer none] 55 (0, 0))) (o : Obj) : (w2.alloc o).cell? ⟨a, 0, none⟩ = some (.pointer none) ∧ (w2.alloc o).frozen? ⟨a, 0, none⟩ = false := ⟨one_cell (heap_old h), one_free (heap_old h) 0⟩
theorem early_cellDI {w1 w2 : World} (hb : Below (w1.alloc (.cells #[.pointer none] 55)).drew.heap.size (w1.alloc (.cells #[.pointer none] 55)).drew w2) : w1.heap.size < w2.heap.size ∧ w2.heap[w1.heap.size]? = some (.cells #[.pointer none] 55 (0, 0)) := by
  have h1 : (w1.alloc (.cells #[.pointer none] 55)).heap.size ≤ w2.heap.size := hb.size
  rw [heap_size_alloc] at h1
  exact ⟨h1, (hb.block _ (by show _ < (w1.alloc (.cells #[.pointer none] 55)).heap.size; rw [heap_size_alloc]; omega)).trans (heap_here _ _)⟩
theorem early_cellD2I {w1 w2 : World} (hb : Below ((w1.alloc (.cells #[.pointer none] 55)).alloc (.cells #[.pointer none] 55)).drew.heap.size ((w1.alloc (.cells #[.pointer none] 55)).alloc (.cells #[.pointer none] 55)).drew w2) :
    w1.heap.size + 1 < w2.heap.size ∧ w2.heap[w1.heap.size]? = some (.cells #[.pointer none] 55 (0, 0)) ∧ w2.heap[w1.heap.size + 1]? = some (.cells #[.pointer none] 55 (0, 0)) := by
  have h1 : ((w1.alloc (.cells #[.pointer none] 55)).alloc (.cells #[.pointer none] 55)).heap.size ≤ w2.heap.size := hb.size
  rw [heap_size_alloc, heap_size_alloc] at h1
  exact ⟨h1, (hb.block _ (by show _ < ((w1.alloc (.cells #[.pointer none] 55)).alloc (.cells #[.pointer none] 55)).heap.size; rw [heap_size_alloc, heap_size_alloc]; omega)).trans (heap_old (heap_here _ _)), (hb.block _ (by show _ < ((w1.alloc (.cells #[.pointer none] 55)).alloc (.cells #[.pointer none] 55)).heap.size; rw [heap_size_alloc, heap_size_alloc]; omega)).trans (heap_at _ _ (heap_size_alloc _ _))⟩
/-- A new variable through a call before which one more may be made. -/
theorem early_onI {w1 w2 : World} {a : Nat} (h : w1.heap[a]? = some (.cells #[.pointer none] 55 (0, 0))) (hb : Below w1.heap.size w1 w2) : w2.heap[a]? = some (.cells #[.pointer none] 55 (0, 0)) := (hb.block _ (iter_lt h)).trans h
theorem after_setI {w2 : World} {a b : Nat} (h : w2.heap[b]? = some (.cells #[.pointer none] 55 (0, 0))) (hne : b ≠ a) (v : Value) : (w2.setCell ⟨a, 0, none⟩ v).cell? ⟨b, 0, none⟩ = some (.pointer none) ∧ (w2.setCell ⟨a, 0, none⟩ v).frozen? ⟨b, 0, none⟩ = false := by
  have hk := (one_other (w := w2) (u := v) (a := ⟨a, 0, none⟩) hne).trans h
  exact ⟨one_cell hk, one_free hk 0⟩
/-- Two variables, each with its number, laid into memory. -/
theorem two_endI {w W : World} {x y : Int} {g1 g2 a b : Nat} (h4 : W.heap[a]? = some (.cells #[.pointer none] 55 (0, 0))) (h5 : W.heap[b]? = some (.cells #[.pointer none] 55 (0, 0))) (hne : a ≠ b) (i1 : IntAt W g1 x) (i2 : IntAt W g2 y) (hb : Below w.heap.size w W) (l4 : w.heap.size ≤ a) (l5 : w.heap.size ≤ b) :
    TwoVarsI w x y (.pointer (some ⟨a, 0, none⟩)) (.pointer (some ⟨b, 0, none⟩)) ((W.setCell ⟨a, 0, none⟩ (.pointer (some ⟨g1, 0, none⟩))).setCell ⟨b, 0, none⟩ (.pointer (some ⟨g2, 0, none⟩))) := by
  obtain ⟨W1, hW1⟩ : ∃ W1, W.setCell ⟨a, 0, none⟩ (.pointer (some ⟨g1, 0, none⟩)) = W1 := ⟨_, rfl⟩
  have k4 : W1.heap[a]? = some (.cells #[.pointer (some ⟨g1, 0, none⟩)] 55 (0, 0)) := by rw [← hW1]; exact one_set h4
  have k5 : W1.heap[b]? = some (.cells #[.pointer none] 55 (0, 0)) := by rw [← hW1]; exact (one_other (by exact hne.symm)).trans h5
  have j1 : IntAt W1 g1 x := by rw [← hW1]; exact i1.store h4 (by decide) (by decide) _
  have j2 : IntAt W1 g2 y := by rw [← hW1]; exact i2.store h4 (by decide) (by decide) _
  have b1 : Below w.heap.size w W1 := by rw [← hW1]; exact hb.setCell (p := ⟨a, 0, none⟩) l4 _
  rw [hW1]
  exact ⟨g1, g2, a, b, rfl, rfl, (one_other (by exact hne)).trans k4, one_set k5, j1.store k5 (by decide) (by decide) _, j2.store k5 (by decide) (by decide) _, b1.setCell (p := ⟨b, 0, none⟩) l5 _⟩
/-- Both variables new. -/
theorem two_vars_newI {w W : World} {x y : Int} {g1 g2 : Nat} (i1 : IntAt W g1 x) (i2 : IntAt W g2 y) (hb : Below w.heap.size w W) :
    TwoVarsI w x y (.pointer (some ⟨W.heap.size, 0, none⟩)) (.pointer (some ⟨W.heap.size + 1, 0, none⟩)) ((W.alloc (.cells #[.pointer (some ⟨g1, 0, none⟩)] 55)).alloc (.cells #[.pointer (some ⟨g2, 0, none⟩)] 55)) ∧
    TwoVarsI w x y (.pointer (some ⟨W.heap.size + 1, 0, none⟩)) (.pointer (some ⟨W.heap.size, 0, none⟩)) ((W.alloc (.cells #[.pointer (some ⟨g2, 0, none⟩)] 55)).alloc (.cells #[.pointer (some ⟨g1, 0, none⟩)] 55)) :=
  ⟨⟨g1, g2, _, _, rfl, rfl, heap_old (heap_here _ _), heap_at _ _ (heap_size_alloc _ _), i1.below (below_a2 _ _ _), i2.below (below_a2 _ _ _), bt hb (below_a2 _ _ _)⟩,
   ⟨g1, g2, _, _, rfl, rfl, heap_at _ _ (heap_size_alloc _ _), heap_old (heap_here _ _), i1.below (below_a2 _ _ _), i2.below (below_a2 _ _ _), bt hb (below_a2 _ _ _)⟩⟩
/-- One made ahead, the other one new. -/
theorem two_vars_mixI {w W : World} {x y : Int} {g1 g2 a : Nat} (h : W.heap[a]? = some (.cells #[.pointer none] 55 (0, 0))) (i1 : IntAt W g1 x) (i2 : IntAt W g2 y) (hb : Below w.heap.size w W) (l : w.heap.size ≤ a) :
    TwoVarsI w x y (.pointer (some ⟨a, 0, none⟩)) (.pointer (some ⟨W.heap.size, 0, none⟩)) ((W.setCell ⟨a, 0, none⟩ (.pointer (some ⟨g1, 0, none⟩))).alloc (.cells #[.pointer (some ⟨g2, 0, none⟩)] 55)) ∧
    TwoVarsI w x y (.pointer (some ⟨W.heap.size, 0, none⟩)) (.pointer (some ⟨a, 0, none⟩)) ((W.setCell ⟨a, 0, none⟩ (.pointer (some ⟨g2, 0, none⟩))).alloc (.cells #[.pointer (some ⟨g1, 0, none⟩)] 55)) :=
  ⟨⟨g1, g2, _, _, rfl, rfl, heap_old (one_set h), heap_at _ _ (World.size_setCell _ _ _), (i1.store h (by decide) (by decide) _).below (below_a1 _ _), (i2.store h (by decide) (by decide) _).below (below_a1 _ _), bt (hb.setCell (p := ⟨a, 0, none⟩) l _) (below_a1 _ _)⟩,
   ⟨g1, g2, _, _, rfl, rfl, heap_at _ _ (World.size_setCell _ _ _), heap_old (one_set h), (i1.store h (by decide) (by decide) _).below (below_a1 _ _), (i2.store h (by decide) (by decide) _).below (below_a1 _ _), bt (hb.setCell (p := ⟨a, 0, none⟩) l _) (below_a1 _ _)⟩⟩
structure DoMI (w : World) (p : Addr) (w' : World) : Prop where
  below : Below w.heap.size w w'
  eof : EofIs w' p
theorem dom_drewI {w w1 : World} {p : Addr} {a b : Nat} {u v : Value} (h : w1.cell? ⟨a, 0, none⟩ = some u ∧ w1.cell? ⟨b, 0, none⟩ = some v ∧ DoMI w p w1) : w1.drew.cell? ⟨a, 0, none⟩ = some u ∧ w1.drew.cell? ⟨b, 0, none⟩ = some v ∧ DoMI w p w1.drew :=
  ⟨h.1, h.2.1, h.2.2.below.drew, h.2.2.eof⟩
theorem dom_growI {w w1 w2 : World} {p : Addr} {a b : Nat} {u v : Value} (h : w1.cell? ⟨a, 0, none⟩ = some u ∧ w1.cell? ⟨b, 0, none⟩ = some v ∧ DoMI w p w1) (k : Below w1.heap.size w1 w2) : w2.cell? ⟨a, 0, none⟩ = some u ∧ w2.cell? ⟨b, 0, none⟩ = some v ∧ DoMI w p w2 :=
  ⟨(k.cell (by exact World.block_lt_of_cell? w1 _ h.1)).trans h.1, (k.cell (by exact World.block_lt_of_cell? w1 _ h.2.1)).trans h.2.1, bt h.2.2.below k, h.2.2.eof.below k⟩
theorem dom_setI {w w1 : World} {p : Addr} {a b : Nat} {u v : Value} {q : Addr} {x : Value} (h : w1.cell? ⟨a, 0, none⟩ = some u ∧ w1.cell? ⟨b, 0, none⟩ = some v ∧ DoMI w p w1) (ha : a < q.block) (hb : b < q.block) (hw : w.heap.size ≤ q.block) (he : 2 < q.block) :
    (w1.setCell q x).cell? ⟨a, 0, none⟩ = some u ∧ (w1.setCell q x).cell? ⟨b, 0, none⟩ = some v ∧ DoMI w p (w1.setCell q x) :=
  ⟨(cell_other (Nat.ne_of_lt ha)).trans h.1, (cell_other (Nat.ne_of_lt hb)).trans h.2.1, h.2.2.below.setCell hw _, h.2.2.eof.other _ (Nat.ne_of_lt he)⟩
set_option maxRecDepth 100000 in
set_option maxHeartbeats 4000000 in
theorem intDoC_add (l1 l2 : List UInt8) (p : Addr) (b1 b2 b3 b4 : Nat) (w : World) (hok1 : readOk l1 = true) (hok2 : readOk l2 = true) (hl1 : l1.length ≤ 1000) (hl2 : l2.length ≤ 1000) (hp : EofIs w p) (hleaf : LeafIs w)
    (h1 : w.heap[b1]? = some (.cells #[.string (S l1)] 9 (0, 0))) (h2 : w.heap[b2]? = some (.cells #[.string (S l2)] 9 (0, 0))) (h3 : w.heap[b3]? = some (.cells #[.int .i64 0] 3 (0, 0))) (h4 : w.heap[b4]? = some (.cells #[.string ⟨#[]⟩] 9 (0, 0)))
    (ox : overI (readZ l1) = false) (oy : overI (readZ l2) = false) (oz : overI (readZ l1 + readZ l2) = false) (hsg : decide (readZ l1 < 0) = decide (readZ l2 < 0)) :
    Calls Tryz.prog 69 #[.pointer (some ⟨b1, 0, none⟩), .pointer (some ⟨b2, 0, none⟩), .pointer (some ⟨b3, 0, none⟩), .pointer (some ⟨b4, 0, none⟩)] w fun e w' => e = .returned (.tuple #[]) ∧ Ext (fun k => k = b4) w w' ∧
      w'.heap[b4]? = some (.cells #[.string (S (zText (readZ l1 + readZ l2)))] 9 (0, 0)) := by
  have c1 := one_cell h1
  have c2 := one_cell h2
  have lt1 := iter_lt h1
  have lt2 := iter_lt h2
  have lt3 := iter_lt h3
  have lt4 := iter_lt h4
  have lt0 := hp.lt
  have H2 := Lib.hid h2
  have H3 := Lib.hid h3
  have H4 := Lib.hid h4
  have HU1 := Lib.hid (fun (w2 : World) (hp2 : EofIs w2 p) => integer_walk l1 p w2 hok1 hl1 hp2 ox)
  have HU2 := Lib.hid (fun (w2 : World) (hp2 : EofIs w2 p) => integer_walk l2 p w2 hok2 hl2 hp2 oy)
  have HSW := Lib.hid (fun (gx gy : Nat) (w2 : World) (hx : IntAt w2 gx (readZ l1)) (hy : IntAt w2 gy (readZ l2)) => intAddC_walk gx gy _ _ w2 hx hy (by have := read_words hok1 hl1; omega) (by have := read_words hok2 hl2; omega) hsg (by have := overI_words oz; omega) oz)
  have hnl := overI_len oz
  have HP := Lib.hid hp
  have HLF := Lib.hid hleaf
  clear h1 h2 h3 h4 hp hleaf ox oy oz hsg
  go_enter Tryz.func69, Tryz.ntmps69
  go_upto_region 0 with fail
  go_cut [4, 5] (fun xv yv wx => TwoVarsI w (readZ l1) (readZ l2) xv yv wx)
  case first =>
    have hkept : w.cell? ⟨b1, 0, none⟩ = some (.string (S l1)) ∧ w.cell? ⟨b2, 0, none⟩ = some (.string (S l2)) ∧ DoMI w p w := ⟨c1, c2, Below.refl _ _, HP.out⟩
    go_region_held3 (fun w' => w'.cell? ⟨b1, 0, none⟩ = some (.string (S l1)) ∧ w'.cell? ⟨b2, 0, none⟩ = some (.string (S l2)) ∧ DoMI w p w')
      (first | assumption | exact dom_growI (by assumption) hgr | ((repeat' first | exact SW2.out | exact SW1.out | exact hkept | refine dom_setI ?_ (by dsimp only; omega) (by dsimp only; omega) (by dsimp only; omega) (by dsimp only; omega) | refine dom_growI ?_ (below_a1 _ _) | refine dom_drewI ?_); done))
      (first
        | (go_at_call 70; (with_reducible refine (HU1.out _ ?_).mono ?_); (go_split_ands; exact DoMI.eof (by assumption)); rintro e w1 ⟨g1, rfl, hi1, hgr, _⟩; have HI1 := Lib.hid hi1; have HB1 := Lib.hid hgr; have SW1 := Lib.hid (by first | exact dom_growI (dom_drewI hkept) hgr | exact dom_growI (dom_drewI (dom_growI hkept (below_a1 _ _))) hgr | exact dom_growI (dom_drewI (dom_growI (dom_growI hkept (below_a1 _ _)) (below_a1 _ _))) hgr); have hsz1 : w.heap.size ≤ w1.heap.size := (by first | exact hgr.size | exact Nat.le_of_lt (early_cellDI hgr).1 | exact Nat.le_of_lt (Nat.lt_of_succ_lt (early_cellD2I hgr).1)); (try (have E1 := Lib.hid (early_cellDI (w1 := w) hgr))); (try (have E2 := Lib.hid (early_cellD2I (w1 := w) hgr))); clear hi1)
        | (go_at_call 70; (with_reducible refine (HU2.out _ ?_).mono ?_); (go_split_ands; exact DoMI.eof (by assumption)); rintro e w2 ⟨g2, rfl, hi2, hgr, _⟩; have HI2 := Lib.hid hi2; have HB2 := Lib.hid hgr; (first | (have F0 := E1.out; clear F0) | (have F0 := E2.out; clear F0) | (try (have q3 := (early_cellI (w1 := w1) hgr).2; have q3l := (early_cellI (w1 := w1) hgr).1; have q4 := fun o => (early_oldI q3 o).1; have q5 := fun o => (early_oldI q3 o).2; have q9 := one_cell q3; have q10 := one_free q3 0; have hn3 := fun v => (late_cellI q3l v).1; have hn4 := fun v => (late_cellI q3l v).2; have Q3 := Lib.hid q3; clear q3))); (try (have q3 := early_cell2I (w1 := w1) hgr; have q20 := one_cell q3.1; have q21 := one_free q3.1 0; have q22 := one_cell q3.2.1; have q23 := one_free q3.2.1 0; have q24 := q3.2.2; have Q4 := Lib.hid q3; clear q3)); (try (have e1 := E1.out; have q3 := early_cellI (w1 := w1) hgr; have r3 : w2.heap[w.heap.size]? = some (.cells #[.pointer none] 55 (0, 0)) := (early_onI (heap_old e1.2) hgr); have s1 := one_cell r3; have s2 := one_free r3 0; have s3 := one_cell q3.2; have s4 := one_free q3.2 0; have hlt := e1.1; have hn1 : w.heap.size ≠ w1.heap.size := Nat.ne_of_lt hlt; have hn2 := hn1.symm; have s5 := fun v => (after_setI q3.2 hn2 v).1; have s6 := fun v => (after_setI q3.2 hn2 v).2; have s7 := fun v => (after_setI r3 hn1 v).1; have s8 := fun v => (after_setI r3 hn1 v).2; have F2 := Lib.hid (And.intro r3 q3.2); clear e1 q3 r3)); (try (have e1 := E1.out; have r3 := early_onI e1.2 hgr; have s1 := one_cell r3; have s2 := one_free r3 0; have s3 := fun o => (early_oldI r3 o).1; have s4 := fun o => (early_oldI r3 o).2; have r3l := iter_lt r3; have hlt := e1.1; have s5 := fun v => (late_cellI r3l v).1; have s6 := fun v => (late_cellI r3l v).2; have F3 := Lib.hid r3; clear e1 r3)); (try (have e2 := E2.out; have r3 := early_onI e2.2.1 hgr; have r4 := early_onI e2.2.2 hgr; have s1 := one_cell r3; have s2 := one_free r3 0; have s3 := one_cell r4; have s4 := one_free r4 0; have hlt := e2.1; have F1 := Lib.hid (And.intro r3 r4); clear e2 r3 r4)); have SW2 := Lib.hid (dom_growI (by first | exact SW1.out | exact dom_growI SW1.out (below_a1 _ _) | exact dom_growI (dom_growI SW1.out (below_a1 _ _)) (below_a1 _ _)) hgr); have hsz2 : w1.heap.size ≤ w2.heap.size := (by first | exact hgr.size | (have hq := hgr.size; rw [heap_size_alloc] at hq; omega) | (have hq := hgr.size; rw [heap_size_alloc, heap_size_alloc] at hq; omega)); have q1 : ∀ X, ((w2.alloc X).alloc (.cells #[.pointer none] 55)).cell? ⟨w2.heap.size + 1, 0, none⟩ = some (.pointer none) := fun X => one_cell (heap_at _ _ (heap_size_alloc _ _)); have q2 : ∀ X, ((w2.alloc X).alloc (.cells #[.pointer none] 55)).frozen? ⟨w2.heap.size + 1, 0, none⟩ = false := fun X => one_free (heap_at _ _ (heap_size_alloc _ _)) 0; clear hi2))
    all_goals (clear HU1 HU2 HSW)
    all_goals (go_wp2_with fail)
    all_goals go_meet
    all_goals (have I1 := (by first | exact HI1.out.below HB2.out | exact (HI1.out.below (below_a1 _ _)).below HB2.out | exact ((HI1.out.below (below_a1 _ _)).below (below_a1 _ _)).below HB2.out : IntAt w2 g1 (readZ l1)))
    all_goals (have I2 := HI2.out; have B2 := SW2.out.2.2.below)
    all_goals with_reducible first
      | exact (two_vars_newI I1 I2 B2).1
      | exact (two_vars_newI I1 I2 B2).2
      | exact (two_vars_mixI F3.out I1 I2 B2 (by omega)).1
      | exact (two_vars_mixI F3.out I1 I2 B2 (by omega)).2
      | exact (two_vars_mixI Q3.out I1 I2 B2 (by omega)).1
      | exact (two_vars_mixI Q3.out I1 I2 B2 (by omega)).2
      | exact two_endI F1.out.1 F1.out.2 (by omega) I1 I2 B2 (by omega) (by omega)
      | exact two_endI F1.out.2 F1.out.1 (by omega) I1 I2 B2 (by omega) (by omega)
      | exact two_endI F2.out.1 F2.out.2 (by omega) I1 I2 B2 (by omega) (by omega)
      | exact two_endI F2.out.2 F2.out.1 (by omega) I1 I2 B2 (by omega) (by omega)
      | exact two_endI Q4.out.1 Q4.out.2.1 (by omega) I1 I2 B2 (by omega) (by omega)
      | exact two_endI Q4.out.2.1 Q4.out.1 (by omega) I1 I2 B2 (by omega) (by omega)
  case rest =>
    obtain ⟨gx, gy, bx, by2, rfl, rfl, hbx, hby, hix, hiy, hbw⟩ := hcut
    have k3 := (hbw.block b3 lt3).trans H3.out
    have k4 := (hbw.block b4 lt4).trans H4.out
    have c3 := one_cell k3
    have cx := one_cell hbx
    have cy := one_cell hby
    have K4 := Lib.hid k4
    have HIX := Lib.hid hix
    have HIY := Lib.hid hiy
    have HBW := Lib.hid hbw
    clear k3 k4 hbx hby hix hiy hbw c1 c2
    go_wp2_with fail
    refine (HSW.out gx gy _ HIX.out HIY.out).mono ?_
    rintro e w5 ⟨g5, rfl, hi5, hb5, _⟩
    have HI5 := Lib.hid hi5
    have HB5 := Lib.hid (bt HBW.out hb5)
    clear hi5 hb5
    go_wp2_with fail
    refine (intStringI_walk g5 _ w5 HI5.out hnl (HLF.out.below HB5.out)).mono ?_
    rintro e w6 ⟨rfl, hb6⟩
    have hb06 := bt HB5.out hb6
    have k4 := (hb06.block b4 lt4).trans H4.out
    have c4 := one_cell k4
    have f4 := one_free k4 0
    have K4' := Lib.hid k4
    have HB6 := Lib.hid hb06
    clear k4 hb6 hb06
    go_wp2_with fail
    go_end0
    exact ⟨rfl, Ext.setCell (D := fun k => k = b4) (p := ⟨b4, 0, none⟩) (Ext.of_below HB6.out) (fun _ => rfl) _, one_set K4'.out⟩

set_option maxRecDepth 100000 in
theorem callCUintDoI : ∀ (caps : Array Value) (w : World), (callFunc 69 caps).run Tryz.prog w = .ok (.enter 69 caps) w := fun _ _ => by rfl
set_option maxRecDepth 100000 in
set_option maxHeartbeats 2000000 in
theorem intDo_walk (l1 l2 : List UInt8) (p : Addr) (w : World) (hok1 : readOk l1 = true) (hok2 : readOk l2 = true) (hl1 : l1.length ≤ 1000) (hl2 : l2.length ≤ 1000) (hp : EofIs w p) (hleaf : LeafIs w) (ox : overI (readZ l1) = false) (oy : overI (readZ l2) = false) (oz : overI (readZ l1 + readZ l2) = false) (hsg : decide (readZ l1 < 0) = decide (readZ l2 < 0)) :
    Calls Tryz.prog 32 #[.int .i64 0, .string (S l1), .string (S l2)] w fun e w' => e = .returned (.tuple #[.string (S (zText (readZ l1 + readZ l2))), .bool true]) ∧ Below w.heap.size w w' := by
  have hmf : ∀ (fn : Fn) (first cap : Array Value) (w : World), (Instr.makeFunc fn first cap).run Tryz.prog w = .ok (.func fn first cap) w := fun _ _ _ _ => rfl
  obtain ⟨T, hT⟩ : ∃ T, zText (readZ l1 + readZ l2) = T := ⟨_, rfl⟩
  have HS : Hid (Calls Tryz.prog 27 #[.func (.func 69) #[] #[.pointer (some ⟨w.heap.size + 1, 0, none⟩), .pointer (some ⟨w.heap.size + 1 + 1, 0, none⟩), .pointer (some ⟨w.heap.size, 0, none⟩), .pointer (some ⟨w.heap.size + 1 + 1 + 1, 0, none⟩)]]
      ((((w.alloc (.cells #[.int .i64 0] 3)).alloc (.cells #[.string (S l1)] 9)).alloc (.cells #[.string (S l2)] 9)).alloc (.cells #[.string ⟨#[]⟩] 9))
      fun e w' => e = .returned (.bool true) ∧ Below w.heap.size w w' ∧ w'.heap[w.heap.size + 1 + 1 + 1]? = some (.cells #[.string (S T)] 9 (0, 0))) := by
    apply Lib.hid
    have k0 : ((((w.alloc (.cells #[.int .i64 0] 3)).alloc (.cells #[.string (S l1)] 9)).alloc (.cells #[.string (S l2)] 9)).alloc (.cells #[.string ⟨#[]⟩] 9)).heap[w.heap.size]? = some (.cells #[.int .i64 0] 3 (0, 0)) := heap_old (heap_old (heap_old (heap_here _ _)))
    have k1 : ((((w.alloc (.cells #[.int .i64 0] 3)).alloc (.cells #[.string (S l1)] 9)).alloc (.cells #[.string (S l2)] 9)).alloc (.cells #[.string ⟨#[]⟩] 9)).heap[w.heap.size + 1]? = some (.cells #[.string (S l1)] 9 (0, 0)) := heap_old (heap_old (heap_at _ _ (heap_size_alloc _ _)))
    have k2 : ((((w.alloc (.cells #[.int .i64 0] 3)).alloc (.cells #[.string (S l1)] 9)).alloc (.cells #[.string (S l2)] 9)).alloc (.cells #[.string ⟨#[]⟩] 9)).heap[w.heap.size + 1 + 1]? = some (.cells #[.string (S l2)] 9 (0, 0)) := heap_old (heap_at _ _ (by simp only [heap_size_alloc]))
    have k3 : ((((w.alloc (.cells #[.int .i64 0] 3)).alloc (.cells #[.string (S l1)] 9)).alloc (.cells #[.string (S l2)] 9)).alloc (.cells #[.string ⟨#[]⟩] 9)).heap[w.heap.size + 1 + 1 + 1]? = some (.cells #[.string ⟨#[]⟩] 9 (0, 0)) := heap_at _ _ (by simp only [heap_size_alloc])
    have hb : Below w.heap.size w ((((w.alloc (.cells #[.int .i64 0] 3)).alloc (.cells #[.string (S l1)] 9)).alloc (.cells #[.string (S l2)] 9)).alloc (.cells #[.string ⟨#[]⟩] 9)) := bt (below_a2 _ _ _) (below_a2 _ _ _)
    obtain ⟨wa, hwa⟩ : ∃ wa, (((w.alloc (.cells #[.int .i64 0] 3)).alloc (.cells #[.string (S l1)] 9)).alloc (.cells #[.string (S l2)] 9)).alloc (.cells #[.string ⟨#[]⟩] 9) = wa := ⟨_, rfl⟩
    rw [hwa] at k0 k1 k2 k3 hb ⊢
    clear hwa
    have lt3 := iter_lt k3
    refine safe_ret 69 _ wa (fun w' => Below w.heap.size w w' ∧ w'.heap[w.heap.size + 1 + 1 + 1]? = some (.cells #[.string (S T)] 9 (0, 0))) (callCUintDoI _) ?_
    refine (intDoC_add l1 l2 p _ _ _ _ _ hok1 hok2 hl1 hl2 ((hp.below hb).below (below_a1 _ _)) ((hleaf.below hb).below (below_a1 _ _)) (heap_old k1) (heap_old k2) (heap_old k0) (heap_old k3) ox oy oz hsg).mono ?_
    rw [hT]
    rintro e w1 ⟨rfl, he, j3⟩
    refine ⟨rfl, (he.block wa.heap.size (by rw [heap_size_alloc]; omega) (by omega)).trans (heap_here _ _), ?_, ?_⟩
    · refine Below.setCell (Below.setCell ?_ (by show w.heap.size ≤ wa.heap.size; omega) _) (by show w.heap.size ≤ wa.heap.size; omega) _
      exact (hb.trans ((below_a1 wa _).mono (by omega))).trans (he.below (by rw [heap_size_alloc]; omega) (fun k hk => by omega))
    · exact ((one_other (by show w.heap.size + 1 + 1 + 1 ≠ wa.heap.size; omega)).trans (one_other (by show w.heap.size + 1 + 1 + 1 ≠ wa.heap.size; omega))).trans j3
  rw [hT]
  clear hT hp hleaf ox oy oz hok1 hok2
  go_enter Tryz.func32, Tryz.ntmps32
  go_wp2_with fail
  refine HS.out.mono ?_
  rintro e w1 ⟨rfl, hb, k3⟩
  have c3 := one_cell k3
  have f3 := one_free k3 0
  have K3 := Lib.hid k3
  clear k3
  go_wp2_with fail
  have e3 := one_set (u := .string (S T)) K3.out
  have d3 := one_cell e3
  exact bodyPost_ret (v := .tuple #[.string (S T), .bool true]) (by simp [results, Tryz.results32, go_sem, d3]) rfl ⟨rfl, hb.setCell (p := ⟨w.heap.size + 1 + 1 + 1, 0, none⟩) (by show w.heap.size ≤ w.heap.size + 1 + 1 + 1; omega) _⟩
end Go.Proofs.YtapfolgiafnllaaGreatDoor
