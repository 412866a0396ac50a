/-
  The reference's Unsigned and Zero.
-/
import Derived.Test.YtapfolgiafnllaaGreatDoorSpecFitsZ
import Derived.Deep.RegionHeld3
import Derived.Deep.RegionWith
namespace Go.Proofs.YtapfolgiafnllaaGreatDoor
open Go.RowKit

theorem toD_get : ∀ (m N : Nat) (h : m < (toD 10 N).length), (toD 10 N)[m] = N / 10 ^ m % 10
  | 0, N, h => by
    have h0 : N ≠ 0 := by intro e; subst e; rw [toD_zero] at h; simp at h
    simp [toD_pos (b := 10) (by decide) h0]
  | m + 1, N, h => by
    have h0 : N ≠ 0 := by intro e; subst e; rw [toD_zero] at h; simp at h
    have e := toD_pos (b := 10) (by decide) h0
    simp only [e, List.getElem_cons_succ]
    rw [toD_get m (N / 10), Nat.div_div_eq_div_mul, Nat.pow_succ, Nat.mul_comm 10]
theorem div_step (N m : Nat) : 10 * (N / 10 ^ (m + 1)) + N / 10 ^ m % 10 = N / 10 ^ m := by
  rw [Nat.pow_succ, ← Nat.div_div_eq_div_mul]
  omega

set_option maxRecDepth 100000 in
set_option maxHeartbeats 1000000 in
theorem zero_walk (v : Value) (z : Int) (w : World) (hv : IsNum w v z) :
    Calls Tryz.prog 23 #[v] w fun e w' => e = .returned (.bool (decide (z = 0))) ∧ Below w.heap.size w w' := by
  obtain ⟨A, c, rfl, hc, hcm, hr⟩ := hv.open
  have hz : decide (z = 0) = ((toD 10 z.natAbs).length == 0) := by
    by_cases h : z = 0
    · subst h; rw [decide_eq_true rfl]; simp [toD_zero]
    · rw [decide_eq_false h]
      symm
      rw [beq_eq_false_iff_ne]
      intro h2
      have := (toD_nil_iff (by decide)).1 (List.eq_nil_of_length_eq_zero h2)
      omega
  rw [hz]
  clear hr hv hz
  go_enter Tryz.func23, Tryz.ntmps23
  go_wp2_with fail
  go_ret
  exact ⟨by congr 2; simp [Int.natCast_eq_zero, BEq.beq], below_a1 _ _⟩

/-- The number as a uint64. -/
def unsOk (z : Int) : Bool := decide (0 ≤ z) && decide (z < 18446744073709551616)
def unsZ (z : Int) : Int := if unsOk z = true then z else 0
theorem uns_cmp {z : Int} (h0 : 0 ≤ z) (h : unsOk z = false) : sgnC (z - ((18446744073709551615 : Nat) : Int)) = 1 := by
  unfold unsOk at h
  rw [decide_eq_true h0, Bool.true_and, decide_eq_false_iff_not] at h
  unfold sgnC
  rw [if_neg (by omega), if_neg (by omega)]
def UnsRel (N : Nat) (A : Option Addr) (b : Bool) (k0 c : Nat) (w : World) (n i : Value) (wr : World) : Prop :=
  ∃ k : Nat, n = .int .u64 ((N / 10 ^ k : Nat) : Int) ∧ i = .int .i64 ((k : Int) - 1) ∧ k ≤ k0 ∧ Below w.heap.size w wr ∧ wr.heap[w.heap.size]? = some (.cells #[.bool b, .slice A k0 c] 25 (0, 0))
theorem un_drew {w0 w1 : World} {a b : Addr} {u v : Value} (h : w1.cell? a = some u ∧ w1.cell? b = some v ∧ Below w0.heap.size w0 w1) : w1.drew.cell? a = some u ∧ w1.drew.cell? b = some v ∧ Below w0.heap.size w0 w1.drew := ⟨h.1, h.2.1, h.2.2.drew⟩
theorem un_grow {w0 w1 w2 : World} {a b : Addr} {u v : Value} (h : w1.cell? a = some u ∧ w1.cell? b = some v ∧ Below w0.heap.size w0 w1) (k : Below w1.heap.size w1 w2) : w2.cell? a = some u ∧ w2.cell? b = some v ∧ Below w0.heap.size w0 w2 :=
  ⟨(k.cell (by exact World.block_lt_of_cell? w1 _ h.1)).trans h.1, (k.cell (by exact World.block_lt_of_cell? w1 _ h.2.1)).trans h.2.1, bt h.2.2 k⟩

end Go.Proofs.YtapfolgiafnllaaGreatDoor

/-
  The reference's Int, Uint.
-/
namespace Go.Proofs.YtapfolgiafnllaaGreatDoor
open Go.RowKit

/-- The text is that of a number that fits. -/
def intOk (l : List UInt8) : Bool := decide (l.length ≤ 90) && (readOk l && decide ((readZ l).natAbs < 2 ^ 256))
def uintOk (l : List UInt8) : Bool := intOk l && !decide (readZ l < 0)
def Int2Post (w : World) (z : Int) (ok : Bool) (e : Ending) (w' : World) : Prop :=
  ∃ b A n c, e = .returned (.tuple #[.agg #[.bool b, .slice A n c], .bool ok]) ∧ (ok = true → IsNum w' (.agg #[.bool b, .slice A n c]) z) ∧ Below w.heap.size w w'

/-- What holds on the way in spec.Int. -/
structure IntM (w : World) (A : Option Addr) (ds : List Nat) (w' : World) : Prop where
  below : Below w.heap.size w w'
  rd : Rd w' A (u8s ds)
  res : ∃ b C n c, w'.heap[w.heap.size]? = some (.cells #[.bool b, .slice C n c] 25 (0, 0))
theorem intm_drew {w w1 : World} {A : Option Addr} {ds : List Nat} {g : Nat} {u v : Value} (h : w1.cell? ⟨g, 0, none⟩ = some u ∧ w1.cell? ⟨g, 1, none⟩ = some v ∧ IntM w A ds w1) : w1.drew.cell? ⟨g, 0, none⟩ = some u ∧ w1.drew.cell? ⟨g, 1, none⟩ = some v ∧ IntM w A ds w1.drew :=
  ⟨h.1, h.2.1, h.2.2.below.drew, h.2.2.rd, h.2.2.res⟩
theorem intm_grow {w w1 w2 : World} {A : Option Addr} {ds : List Nat} {g : Nat} {u v : Value} (h : w1.cell? ⟨g, 0, none⟩ = some u ∧ w1.cell? ⟨g, 1, none⟩ = some v ∧ IntM w A ds w1) (k : Below w1.heap.size w1 w2) : w2.cell? ⟨g, 0, none⟩ = some u ∧ w2.cell? ⟨g, 1, none⟩ = some v ∧ IntM w A ds w2 := by
  obtain ⟨h1, h2, h3, h4, b, C, n, c, h5⟩ := h
  exact ⟨(k.cell (by exact World.block_lt_of_cell? w1 _ h1)).trans h1, (k.cell (by exact World.block_lt_of_cell? w1 _ h2)).trans h2, bt h3 k, h4.below k, b, C, n, c, (k.block _ (iter_lt h5)).trans h5⟩
theorem intm_set {w w1 : World} {A : Option Addr} {ds : List Nat} {g : Nat} {u v : Value} {y : Bool} {D : Option Addr} {p q : Nat} (hg : w.heap.size < g) (h : w1.cell? ⟨g, 0, none⟩ = some u ∧ w1.cell? ⟨g, 1, none⟩ = some v ∧ IntM w A ds w1) :
    ((w1.setCell ⟨w.heap.size, 0, none⟩ (.bool y)).setCell ⟨w.heap.size, 1, none⟩ (.slice D p q)).cell? ⟨g, 0, none⟩ = some u ∧ ((w1.setCell ⟨w.heap.size, 0, none⟩ (.bool y)).setCell ⟨w.heap.size, 1, none⟩ (.slice D p q)).cell? ⟨g, 1, none⟩ = some v ∧
    IntM w A ds ((w1.setCell ⟨w.heap.size, 0, none⟩ (.bool y)).setCell ⟨w.heap.size, 1, none⟩ (.slice D p q)) := by
  obtain ⟨h1, h2, h3, h4, x, C, n, m, h8⟩ := h
  have e : ∀ (o : Nat), ((w1.setCell ⟨w.heap.size, 0, none⟩ (.bool y)).setCell ⟨w.heap.size, 1, none⟩ (.slice D p q)).cell? ⟨g, o, none⟩ = w1.cell? ⟨g, o, none⟩ := fun o =>
    (cell_other (by show g ≠ w.heap.size; omega)).trans (cell_other (by show g ≠ w.heap.size; omega))
  exact ⟨(e _).trans h1, (e _).trans h2,
    (h3.setCell (p := ⟨w.heap.size, 0, none⟩) (Nat.le_refl _) _).setCell (p := ⟨w.heap.size, 1, none⟩) (Nat.le_refl _) _, rd_set2 h8 h4, y, D, p, q, cells_set (cells_set h8 0 _) 1 _⟩
theorem intm_blk {w w1 w2 : World} {A : Option Addr} {ds : List Nat} (k : Below w1.heap.size w1 w2) (h : IntM w A ds w1) : ∃ x C n c, w2.heap[w.heap.size]? = some (.cells #[.bool x, .slice C n c] 25 (0, 0)) := by
  obtain ⟨_, _, x, C, n, c, h8⟩ := h
  exact ⟨x, C, n, c, (k.block _ (iter_lt h8)).trans h8⟩

set_option maxRecDepth 100000 in
set_option maxHeartbeats 4000000 in
theorem specInt_walk (l : List UInt8) (w : World) (hs : l.length ≤ 140737488355328) :
    Calls Tryz.prog 20 #[.string (S l)] w (Int2Post w (readZ l) (intOk l)) := by
  by_cases h90 : l.length ≤ 90
  · have h90' : ¬ (90 : Int) < l.length := by omega
    have hio : intOk l = (readOk l && decide ((readZ l).natAbs < 2 ^ 256)) := by unfold intOk; rw [decide_eq_true h90]; rfl
    have hr := read_walk l (w.alloc (.cells #[.bool false, .slice none 0 0] 25)) hs
    cases hok : readOk l with
    | false =>
      rw [hok] at hr hio
      rw [Bool.false_and] at hio
      rw [hio]
      have HR := Lib.hid hr
      clear hr hio hok
      go_enter Tryz.func20, Tryz.ntmps20
      go_wp2_with fail
      refine HR.out.mono ?_
      rintro e w1 ⟨v, rfl, ⟨A, c, rfl, hc1, hc2, hrd⟩, hb⟩
      have hk1 := (hb.block w.heap.size (by rw [heap_size_alloc]; omega)).trans (heap_here w (.cells #[.bool false, .slice none 0 0] 25))
      have hbw := bt (below_a1 w (.cells #[.bool false, .slice none 0 0] 25)) hb
      have hne : ¬ w.heap.size = w1.heap.size := by have := iter_lt hk1; omega
      have c0 : ∀ o, (w1.alloc o).cell? ⟨w.heap.size, 0, none⟩ = some (.bool false) := fun o => num_cell0 (heap_old hk1)
      have c1 : ∀ o, (w1.alloc o).cell? ⟨w.heap.size, 1, none⟩ = some (.slice none 0 0) := fun o => num_cell1 (heap_old hk1)
      have f0 : ∀ o, (w1.alloc o).frozen? ⟨w.heap.size, 0, none⟩ = false := fun o => one_free (heap_old hk1) 0
      have f1 : ∀ o, (w1.alloc o).frozen? ⟨w.heap.size, 1, none⟩ = false := fun o => one_free (heap_old hk1) 1
      have HK1 := Lib.hid hk1
      have HBW := Lib.hid hbw
      clear hrd hb hk1 hbw
      go_wp2_with fail
      go_region_with fail
      all_goals
        go_wp2_with fail
        have k0 := cells_set (cells_set (heap_old (o := .cells #[.bool (readSign l), .slice A (readDs l).length c] 25) HK1.out) 0 (.bool (readSign l))) 1 (.slice A (readDs l).length c)
        have d0 := num_cell0 k0
        have d1 := num_cell1 k0
        exact bodyPost_ret (v := .tuple #[.agg #[.bool (readSign l), .slice A (readDs l).length c], .bool false]) (by simp [results, Tryz.results20, go_sem, d0, d1]) rfl
          ⟨_, _, _, _, rfl, (fun h => by cases h), (((HBW.out.alloc HBW.out.size _).setCell (p := ⟨w.heap.size, 0, none⟩) (Nat.le_refl _) _).setCell (p := ⟨w.heap.size, 1, none⟩) (Nat.le_refl _) _).drew⟩
    | true =>
      obtain ⟨hn1, hn2⟩ := read_num hok
      rw [hok, hn1, hn2] at hr
      rw [hok, Bool.true_and] at hio
      rw [hio]
      obtain ⟨z, hz⟩ : ∃ z, readZ l = z := ⟨_, rfl⟩
      rw [hz] at hr ⊢
      obtain ⟨sg, hsg⟩ : ∃ sg, decide (z < 0) = sg := ⟨_, rfl⟩
      obtain ⟨ds, hds⟩ : ∃ ds, toD 10 z.natAbs = ds := ⟨_, rfl⟩
      obtain ⟨R, hR⟩ : ∃ R, decide (z.natAbs < 2 ^ 256) = R := ⟨_, rfl⟩
      rw [hsg, hds] at hr
      rw [hR]
      have HSG := Lib.hid hsg
      have HDS := Lib.hid hds
      have HRR := Lib.hid hR
      have HR := Lib.hid hr
      clear hr hio hok hn1 hn2 hz hsg hds hR
      go_enter Tryz.func20, Tryz.ntmps20
      go_wp2_with fail
      refine HR.out.mono ?_
      rintro e w1 ⟨v, rfl, ⟨A, c, rfl, hc1, hc2, hrd⟩, hb⟩
      have hk1 := (hb.block w.heap.size (by rw [heap_size_alloc]; omega)).trans (heap_here w (.cells #[.bool false, .slice none 0 0] 25))
      have hbw := bt (below_a1 w (.cells #[.bool false, .slice none 0 0] 25)) hb
      have hlt := iter_lt hk1
      have hkept : (w1.alloc (.cells #[.bool sg, .slice A ds.length c] 25)).cell? ⟨w1.heap.size, 0, none⟩ = some (.bool sg) ∧ (w1.alloc (.cells #[.bool sg, .slice A ds.length c] 25)).cell? ⟨w1.heap.size, 1, none⟩ = some (.slice A ds.length c) ∧ IntM w A ds (w1.alloc (.cells #[.bool sg, .slice A ds.length c] 25)) :=
        ⟨num_cell0 (heap_here _ _), num_cell1 (heap_here _ _), bt hbw (below_a1 _ _), hrd.below (below_a1 _ _), _, _, _, _, heap_old hk1⟩
      have HK1 := Lib.hid hk1
      clear hrd hb hk1 hbw
      go_wp2_with fail
      go_region_held3 (fun w' => w'.cell? ⟨w1.heap.size, 0, none⟩ = some (.bool sg) ∧ w'.cell? ⟨w1.heap.size, 1, none⟩ = some (.slice A ds.length c) ∧ IntM w A ds w')
        (first | exact intm_drew hkept | exact intm_grow (by assumption) hgr | exact intm_set hlt (by assumption) | assumption)
        (first | (go_at_call 25; refine (fits_walk (.agg #[.bool sg, .slice A ds.length c]) z _ ⟨A, c, by rw [HSG.out, HDS.out], by rw [HDS.out]; exact hc1, hc2, by rw [HDS.out]; go_split_ands; exact IntM.rd (by assumption)⟩).mono ?_; rw [HRR.out]; rintro e w7 ⟨rfl, hgr⟩; obtain ⟨x2, C2, n2, m2, hk2⟩ := intm_blk hgr (by go_split_ands; assumption); have c20 := num_cell0 hk2; have c21 := num_cell1 hk2; have f20 := one_free hk2 0; have f21 := one_free hk2 1; have HK2 := Lib.hid hk2; clear hk2))
      all_goals
        have hB := (‹_ ∧ _ ∧ IntM w A ds ((w7.setCell _ _).setCell _ _)›).2.2
        go_wp2_with fail
        have k0 := cells_set (cells_set HK2.out 0 (.bool sg)) 1 (.slice A ds.length c)
        have d0 := num_cell0 k0
        have d1 := num_cell1 k0
        exact bodyPost_ret (v := .tuple #[.agg #[.bool sg, .slice A ds.length c], .bool R]) (by simp [results, Tryz.results20, go_sem, d0, d1]) rfl
          ⟨_, _, _, _, rfl, (fun _ => ⟨A, c, by rw [HSG.out, HDS.out], by rw [HDS.out]; exact hc1, hc2, by rw [HDS.out]; exact hB.rd⟩), hB.below⟩
  · have h90' : (90 : Int) < l.length := by omega
    have hio : intOk l = false := by unfold intOk; rw [decide_eq_false h90]; rfl
    rw [hio]
    go_enter Tryz.func20, Tryz.ntmps20
    go_wp2_with fail
    have hk := heap_here w (.cells #[.bool false, .slice none 0 0] 25)
    have d0 := num_cell0 hk
    have d1 := num_cell1 hk
    exact bodyPost_ret (v := .tuple #[.agg #[.bool false, .slice none 0 0], .bool false]) (by simp [results, Tryz.results20, go_sem, d0, d1]) rfl
      ⟨_, _, _, _, rfl, (fun h => by cases h), below_a1 _ _⟩
set_option maxRecDepth 100000 in
set_option maxHeartbeats 4000000 in
theorem specUint_walk (l : List UInt8) (w : World) (hs : l.length ≤ 140737488355328) :
    Calls Tryz.prog 5 #[.string (S l)] w (Int2Post w (readZ l) (uintOk l)) := by
  have hr := specInt_walk l (w.alloc (.cells #[.bool false, .slice none 0 0] 25)) hs
  obtain ⟨z, hz⟩ : ∃ z, readZ l = z := ⟨_, rfl⟩
  have hu : uintOk l = (intOk l && !decide (z < 0)) := by rw [← hz]; rfl
  rw [hu, hz]
  rw [hz] at hr
  obtain ⟨ok, hok⟩ : ∃ ok, intOk l = ok := ⟨_, rfl⟩
  rw [hok] at hr ⊢
  have HR := Lib.hid hr
  clear hr hu hz hok
  go_enter Tryz.func5, Tryz.ntmps5
  go_wp2_with fail
  refine HR.out.mono ?_
  rintro e w1 ⟨b, A, n, c, rfl, hnum, hb⟩
  have hk1 := (hb.block w.heap.size (by rw [heap_size_alloc]; omega)).trans (heap_here w (.cells #[.bool false, .slice none 0 0] 25))
  have hbw := bt (below_a1 w (.cells #[.bool false, .slice none 0 0] 25)) hb
  have hne : ¬ w.heap.size = w1.heap.size := by have := iter_lt hk1; omega
  have hnb : ok = true → b = decide (z < 0) := fun h => by
    obtain ⟨A2, c2, he, -⟩ := hnum h
    injection he with he
    injection he with he
    injection he with he1 he2
    injection he1
  have c0 : ∀ o, (w1.alloc o).cell? ⟨w.heap.size, 0, none⟩ = some (.bool false) := fun o => num_cell0 (heap_old hk1)
  have c1 : ∀ o, (w1.alloc o).cell? ⟨w.heap.size, 1, none⟩ = some (.slice none 0 0) := fun o => num_cell1 (heap_old hk1)
  have f0 : ∀ o, (w1.alloc o).frozen? ⟨w.heap.size, 0, none⟩ = false := fun o => one_free (heap_old hk1) 0
  have f1 : ∀ o, (w1.alloc o).frozen? ⟨w.heap.size, 1, none⟩ = false := fun o => one_free (heap_old hk1) 1
  have hfin : ∀ r, (r = true → ok = true) → Int2Post w z r (.returned (.tuple #[.agg #[.bool b, .slice A n c], .bool r])) ((((w1.alloc (.cells #[.bool b, .slice A n c] 25)).setCell ⟨w.heap.size, 0, none⟩ (.bool b)).setCell ⟨w.heap.size, 1, none⟩ (.slice A n c)).drew) := fun r hro => by
    refine ⟨_, _, _, _, rfl, fun h => ?_, ((((hbw.alloc hbw.size _).setCell (p := ⟨w.heap.size, 0, none⟩) (Nat.le_refl _) _).setCell (p := ⟨w.heap.size, 1, none⟩) (Nat.le_refl _) _).drew)⟩
    obtain ⟨A2, c2, he, h1, h2, h3⟩ := hnum (hro h)
    refine ⟨A2, c2, he, h1, h2, ?_⟩
    exact rd_set2 (heap_old hk1) (h3.below (below_a1 _ _))
  have HK1 := Lib.hid hk1
  have HF := Lib.hid hfin
  clear hb hk1 hbw hnum hfin
  cases ok with
  | false =>
    clear hnb
    go_wp2_with fail
    go_region
    all_goals
      go_wp2_with fail
      have k0 := cells_set (cells_set (heap_old (o := .cells #[.bool b, .slice A n c] 25) HK1.out) 0 (.bool b)) 1 (.slice A n c)
      have d0 := num_cell0 k0
      have d1 := num_cell1 k0
      exact bodyPost_ret (v := .tuple #[.agg #[.bool b, .slice A n c], .bool false]) (by simp [results, Tryz.results5, go_sem, d0, d1]) rfl
        (HF.out false (fun h => h))
  | true =>
    obtain rfl := hnb rfl
    cases hzz : decide (z < 0) with
    | false =>
      rw [hzz] at HF
      have HZ := Lib.hid hzz
      clear hzz
      go_wp2_with fail
      go_region_with fail
      all_goals
        go_wp2_with fail
        have k0 := cells_set (cells_set (heap_old (o := .cells #[.bool false, .slice A n c] 25) HK1.out) 0 (.bool false)) 1 (.slice A n c)
        have d0 := num_cell0 k0
        have d1 := num_cell1 k0
        exact bodyPost_ret (v := .tuple #[.agg #[.bool false, .slice A n c], .bool true]) (by simp [results, Tryz.results5, go_sem, d0, d1]) rfl
          (by rw [HZ.out]; exact HF.out true (by simp))
    | true =>
      rw [hzz] at HF
      have HZ := Lib.hid hzz
      clear hzz
      go_wp2_with fail
      go_region_with fail
      all_goals
        go_wp2_with fail
        have k0 := cells_set (cells_set (heap_old (o := .cells #[.bool true, .slice A n c] 25) HK1.out) 0 (.bool true)) 1 (.slice A n c)
        have d0 := num_cell0 k0
        have d1 := num_cell1 k0
        exact bodyPost_ret (v := .tuple #[.agg #[.bool true, .slice A n c], .bool false]) (by simp [results, Tryz.results5, go_sem, d0, d1]) rfl
          (by rw [HZ.out]; exact HF.out false (by simp))
end Go.Proofs.YtapfolgiafnllaaGreatDoor
