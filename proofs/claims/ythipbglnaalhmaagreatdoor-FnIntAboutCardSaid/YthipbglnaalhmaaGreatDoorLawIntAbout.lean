/-
  The walk of laws.FnIntAbout.
-/
import Derived.Test.YthipbglnaalhmaaGreatDoorIntAboutW
import Derived.Test.YthipbglnaalhmaaGreatDoorIntAwake
import Derived.Test.YthipbglnaalhmaaGreatDoorSpecUint
import Derived.Laws.StructEq
namespace Go.Proofs.YthipbglnaalhmaaGreatDoor
open Go.RowKit

/-- What a text that spec.Int takes is. -/
theorem intOk_isA {l : List UInt8} (h : intOk l = true) : readOk l = true ∧ l.length ≤ 1000 ∧ overI (readZ l) = false ∧ (toD 10 (readZ l).natAbs).length ≤ 1000000 := by
  unfold intOk at h
  simp only [Bool.and_eq_true, decide_eq_true_eq] at h
  obtain ⟨h1, h2, h3⟩ := h
  refine ⟨h2, by omega, ?_, ?_⟩
  · rw [overI_fits, decide_eq_true h3]; rfl
  · exact Nat.le_trans (toD_length_le (by decide) 100 _ (Nat.lt_of_lt_of_le h3 (by decide))) (by decide)
theorem sgn_lt (z : Int) : decide (sgnC z < 0) = decide (z < 0) ∧ decide (0 < sgnC z) = decide (0 < z) := by
  unfold sgnC
  by_cases h1 : z < 0
  · rw [if_pos h1, decide_eq_true h1, decide_eq_false (by omega : ¬ 0 < z)]; exact ⟨rfl, rfl⟩
  · rw [if_neg h1, decide_eq_false h1]
    by_cases h2 : z = 0
    · rw [if_pos h2, decide_eq_false (by omega : ¬ 0 < z)]; exact ⟨rfl, rfl⟩
    · rw [if_neg h2, decide_eq_true (by omega : 0 < z)]; exact ⟨rfl, rfl⟩
theorem askFields : Tryz.prog.underlying 52 = some (.struct (Tryz.prog.fieldsOf 52)) := by
  unfold Program.fieldsOf
  rw [Tryz.underlying52]
set_option maxRecDepth 100000 in
theorem ask_eq (w : World) (s v7 v8 : Int) (b1 b2 b3 b5 b6 : Bool) : (binOp .eql 52 (.agg #[.int .i64 s, .bool b1, .bool b2, .bool b3, .bool false, .bool b5, .bool b6, .int .i64 v7, .int .u64 v8, .bool b5, .bool b6]) (.agg #[.int .i64 s, .bool b1, .bool b2, .bool b3, .bool false, .bool b5, .bool b6, .int .i64 v7, .int .u64 v8, .bool b5, .bool b6])).run Tryz.prog w = .ok (.bool true) w := by
  rw [run_eql_struct, run_equalIn_agg w 9999 52 _ _ askFields (by kernel_rfl)]
  unfold Program.fieldsOf
  rw [Tryz.underlying52]
  simp [Op.eqFields, go_sem, part]
/-- The reference's answer, on the way. -/
structure WantM (X G : Nat) (b : Bool) (A : Option Addr) (n c : Nat) (cs : Array Value) (w0 w : World) : Prop where
  kq : w.heap[G]? = some (.cells cs 52 (0, 0))
  kx : w.heap[X]? = some (.cells #[.bool b, .slice A n c] 29 (0, 0))
  lg : w0.heap.size ≤ G
  lx : X ≠ G
  below : Below w0.heap.size w0 w
theorem WantM.next {X G : Nat} {b : Bool} {A : Option Addr} {n c : Nat} {cs : Array Value} {w0 w w' : World} (h : WantM X G b A n c cs w0 w) (hb : Below w.heap.size w w') : WantM X G b A n c cs w0 w' :=
  ⟨(hb.block _ (iter_lt h.kq)).trans h.kq, (hb.block _ (iter_lt h.kx)).trans h.kx, h.lg, h.lx, bt h.below hb⟩
theorem WantM.set {X G : Nat} {b : Bool} {A : Option Addr} {n c : Nat} {cs : Array Value} {w0 w : World} (h : WantM X G b A n c cs w0 w) (k : Nat) (v : Value) : WantM X G b A n c (cs.setIfInBounds k v) w0 (w.setCell ⟨G, k, none⟩ v) :=
  ⟨cells_set h.kq k v, (one_other (by exact h.lx)).trans h.kx, h.lg, h.lx, h.below.setCell (p := ⟨G, k, none⟩) h.lg _⟩
theorem want_s {X G : Nat} {b : Bool} {A : Option Addr} {n c : Nat} {s v7 v8 : Int} {b1 b2 b3 b5 b6 : Bool} {w0 w : World} (h : WantM X G b A n c #[.int .i64 s, .bool b1, .bool b2, .bool b3, .bool false, .bool b5, .bool b6, .int .i64 v7, .int .u64 v8, .bool b5, .bool b6] w0 w) :
    w.cell? ⟨G, 0, none⟩ = some (.int .i64 s) ∧ w.cell? ⟨G, 1, none⟩ = some (.bool b1) ∧ w.cell? ⟨G, 2, none⟩ = some (.bool b2) ∧ w.cell? ⟨G, 3, none⟩ = some (.bool b3) ∧ w.cell? ⟨G, 4, none⟩ = some (.bool false) ∧ w.cell? ⟨G, 5, none⟩ = some (.bool b5) ∧ w.cell? ⟨G, 6, none⟩ = some (.bool b6) ∧ w.cell? ⟨G, 7, none⟩ = some (.int .i64 v7) ∧ w.cell? ⟨G, 8, none⟩ = some (.int .u64 v8) ∧ w.cell? ⟨G, 9, none⟩ = some (.bool b5) ∧ w.cell? ⟨G, 10, none⟩ = some (.bool b6) ∧ WantM X G b A n c #[.int .i64 s, .bool b1, .bool b2, .bool b3, .bool false, .bool b5, .bool b6, .int .i64 v7, .int .u64 v8, .bool b5, .bool b6] w0 w :=
  ⟨blk_cell (k := 0) h.kq rfl, blk_cell (k := 1) h.kq rfl, blk_cell (k := 2) h.kq rfl, blk_cell (k := 3) h.kq rfl, blk_cell (k := 4) h.kq rfl, blk_cell (k := 5) h.kq rfl, blk_cell (k := 6) h.kq rfl, blk_cell (k := 7) h.kq rfl, blk_cell (k := 8) h.kq rfl, blk_cell (k := 9) h.kq rfl, blk_cell (k := 10) h.kq rfl, h⟩
def WantRel (X : Nat) (b : Bool) (A : Option Addr) (n c : Nat) (cs : Array Value) (w0 : World) (xv : Value) (wx : World) : Prop := ∃ G, xv = .pointer (some ⟨G, 0, none⟩) ∧ WantM X G b A n c cs w0 wx
theorem want_new {W w' : World} {X : Obj} (hb : Below (W.alloc X).heap.size (W.alloc X) w') : w'.heap[W.heap.size]? = some X := (hb.block _ (by rw [heap_size_alloc]; omega)).trans (heap_here _ _)
theorem want_newD {W w' : World} {X : Obj} (hb : Below (W.alloc X).drew.heap.size (W.alloc X).drew w') : w'.heap[W.heap.size]? = some X := (hb.block _ (by show W.heap.size < (W.alloc X).heap.size; rw [heap_size_alloc]; omega)).trans (heap_here _ _)
theorem al_size {W w' : World} {X : Obj} (hb : Below (W.alloc X).heap.size (W.alloc X) w') : W.heap.size ≤ w'.heap.size := by
  have h := hb.size
  rw [heap_size_alloc] at h
  omega
theorem al_sizeD {W w' : World} {X : Obj} (hb : Below (W.alloc X).drew.heap.size (W.alloc X).drew w') : W.heap.size ≤ w'.heap.size := by
  have h : (W.alloc X).heap.size ≤ w'.heap.size := hb.size
  rw [heap_size_alloc] at h
  omega
theorem want_fresh {X : Nat} {b : Bool} {A : Option Addr} {n c : Nat} {s : Int} {b1 b2 b3 : Bool} {w0 w : World} (hk : w.heap[X]? = some (.cells #[.bool b, .slice A n c] 29 (0, 0))) (hb : Below w0.heap.size w0 w) (hX : X < w0.heap.size) :
    WantRel X b A n c #[.int .i64 s, .bool b1, .bool b2, .bool b3, .bool false, .bool false, .bool false, .int .i64 0, .int .u64 0, .bool false, .bool false] w0 (.pointer (some ⟨w.heap.size, 0, none⟩)) (w.alloc (.cells #[.int .i64 s, .bool b1, .bool b2, .bool b3, .bool false, .bool false, .bool false, .int .i64 0, .int .u64 0, .bool false, .bool false] 52)) :=
  ⟨_, rfl, heap_here _ _, heap_old hk, hb.size, by have := hb.size; omega, bt hb (below_a1 _ _)⟩
theorem want_old {X G : Nat} {b : Bool} {A : Option Addr} {n c : Nat} {s : Int} {b1 b2 b3 : Bool} {w0 w : World} (hq : w.heap[G]? = some (.cells #[.int .i64 0, .bool false, .bool false, .bool false, .bool false, .bool false, .bool false, .int .i64 0, .int .u64 0, .bool false, .bool false] 52 (0, 0))) (hk : w.heap[X]? = some (.cells #[.bool b, .slice A n c] 29 (0, 0))) (lg : w0.heap.size ≤ G) (hb : Below w0.heap.size w0 w) (hX : X < w0.heap.size) :
    WantRel X b A n c #[.int .i64 s, .bool b1, .bool b2, .bool b3, .bool false, .bool false, .bool false, .int .i64 0, .int .u64 0, .bool false, .bool false] w0 (.pointer (some ⟨G, 0, none⟩)) (((((((((((w.setCell ⟨G, 0, none⟩ (.int .i64 s)).setCell ⟨G, 1, none⟩ (.bool b1)).setCell ⟨G, 2, none⟩ (.bool b2)).setCell ⟨G, 3, none⟩ (.bool b3)).setCell ⟨G, 4, none⟩ (.bool false)).setCell ⟨G, 5, none⟩ (.bool false)).setCell ⟨G, 6, none⟩ (.bool false)).setCell ⟨G, 7, none⟩ (.int .i64 0)).setCell ⟨G, 8, none⟩ (.int .u64 0)).setCell ⟨G, 9, none⟩ (.bool false)).setCell ⟨G, 10, none⟩ (.bool false)) := by
  have hM : WantM X G b A n c #[.int .i64 0, .bool false, .bool false, .bool false, .bool false, .bool false, .bool false, .int .i64 0, .int .u64 0, .bool false, .bool false] w0 w := ⟨hq, hk, lg, by omega, hb⟩
  have m0 : WantM X G b A n c #[.int .i64 s, .bool false, .bool false, .bool false, .bool false, .bool false, .bool false, .int .i64 0, .int .u64 0, .bool false, .bool false] w0 (w.setCell ⟨G, 0, none⟩ (.int .i64 s)) := hM.set 0 (.int .i64 s)
  have m1 : WantM X G b A n c #[.int .i64 s, .bool b1, .bool false, .bool false, .bool false, .bool false, .bool false, .int .i64 0, .int .u64 0, .bool false, .bool false] w0 ((w.setCell ⟨G, 0, none⟩ (.int .i64 s)).setCell ⟨G, 1, none⟩ (.bool b1)) := m0.set 1 (.bool b1)
  have m2 : WantM X G b A n c #[.int .i64 s, .bool b1, .bool b2, .bool false, .bool false, .bool false, .bool false, .int .i64 0, .int .u64 0, .bool false, .bool false] w0 (((w.setCell ⟨G, 0, none⟩ (.int .i64 s)).setCell ⟨G, 1, none⟩ (.bool b1)).setCell ⟨G, 2, none⟩ (.bool b2)) := m1.set 2 (.bool b2)
  have m3 : WantM X G b A n c #[.int .i64 s, .bool b1, .bool b2, .bool b3, .bool false, .bool false, .bool false, .int .i64 0, .int .u64 0, .bool false, .bool false] w0 ((((w.setCell ⟨G, 0, none⟩ (.int .i64 s)).setCell ⟨G, 1, none⟩ (.bool b1)).setCell ⟨G, 2, none⟩ (.bool b2)).setCell ⟨G, 3, none⟩ (.bool b3)) := m2.set 3 (.bool b3)
  have m4 : WantM X G b A n c #[.int .i64 s, .bool b1, .bool b2, .bool b3, .bool false, .bool false, .bool false, .int .i64 0, .int .u64 0, .bool false, .bool false] w0 (((((w.setCell ⟨G, 0, none⟩ (.int .i64 s)).setCell ⟨G, 1, none⟩ (.bool b1)).setCell ⟨G, 2, none⟩ (.bool b2)).setCell ⟨G, 3, none⟩ (.bool b3)).setCell ⟨G, 4, none⟩ (.bool false)) := m3.set 4 (.bool false)
  have m5 : WantM X G b A n c #[.int .i64 s, .bool b1, .bool b2, .bool b3, .bool false, .bool false, .bool false, .int .i64 0, .int .u64 0, .bool false, .bool false] w0 ((((((w.setCell ⟨G, 0, none⟩ (.int .i64 s)).setCell ⟨G, 1, none⟩ (.bool b1)).setCell ⟨G, 2, none⟩ (.bool b2)).setCell ⟨G, 3, none⟩ (.bool b3)).setCell ⟨G, 4, none⟩ (.bool false)).setCell ⟨G, 5, none⟩ (.bool false)) := m4.set 5 (.bool false)
  have m6 : WantM X G b A n c #[.int .i64 s, .bool b1, .bool b2, .bool b3, .bool false, .bool false, .bool false, .int .i64 0, .int .u64 0, .bool false, .bool false] w0 (((((((w.setCell ⟨G, 0, none⟩ (.int .i64 s)).setCell ⟨G, 1, none⟩ (.bool b1)).setCell ⟨G, 2, none⟩ (.bool b2)).setCell ⟨G, 3, none⟩ (.bool b3)).setCell ⟨G, 4, none⟩ (.bool false)).setCell ⟨G, 5, none⟩ (.bool false)).setCell ⟨G, 6, none⟩ (.bool false)) := m5.set 6 (.bool false)
  have m7 : WantM X G b A n c #[.int .i64 s, .bool b1, .bool b2, .bool b3, .bool false, .bool false, .bool false, .int .i64 0, .int .u64 0, .bool false, .bool false] w0 ((((((((w.setCell ⟨G, 0, none⟩ (.int .i64 s)).setCell ⟨G, 1, none⟩ (.bool b1)).setCell ⟨G, 2, none⟩ (.bool b2)).setCell ⟨G, 3, none⟩ (.bool b3)).setCell ⟨G, 4, none⟩ (.bool false)).setCell ⟨G, 5, none⟩ (.bool false)).setCell ⟨G, 6, none⟩ (.bool false)).setCell ⟨G, 7, none⟩ (.int .i64 0)) := m6.set 7 (.int .i64 0)
  have m8 : WantM X G b A n c #[.int .i64 s, .bool b1, .bool b2, .bool b3, .bool false, .bool false, .bool false, .int .i64 0, .int .u64 0, .bool false, .bool false] w0 (((((((((w.setCell ⟨G, 0, none⟩ (.int .i64 s)).setCell ⟨G, 1, none⟩ (.bool b1)).setCell ⟨G, 2, none⟩ (.bool b2)).setCell ⟨G, 3, none⟩ (.bool b3)).setCell ⟨G, 4, none⟩ (.bool false)).setCell ⟨G, 5, none⟩ (.bool false)).setCell ⟨G, 6, none⟩ (.bool false)).setCell ⟨G, 7, none⟩ (.int .i64 0)).setCell ⟨G, 8, none⟩ (.int .u64 0)) := m7.set 8 (.int .u64 0)
  have m9 : WantM X G b A n c #[.int .i64 s, .bool b1, .bool b2, .bool b3, .bool false, .bool false, .bool false, .int .i64 0, .int .u64 0, .bool false, .bool false] w0 ((((((((((w.setCell ⟨G, 0, none⟩ (.int .i64 s)).setCell ⟨G, 1, none⟩ (.bool b1)).setCell ⟨G, 2, none⟩ (.bool b2)).setCell ⟨G, 3, none⟩ (.bool b3)).setCell ⟨G, 4, none⟩ (.bool false)).setCell ⟨G, 5, none⟩ (.bool false)).setCell ⟨G, 6, none⟩ (.bool false)).setCell ⟨G, 7, none⟩ (.int .i64 0)).setCell ⟨G, 8, none⟩ (.int .u64 0)).setCell ⟨G, 9, none⟩ (.bool false)) := m8.set 9 (.bool false)
  have m10 : WantM X G b A n c #[.int .i64 s, .bool b1, .bool b2, .bool b3, .bool false, .bool false, .bool false, .int .i64 0, .int .u64 0, .bool false, .bool false] w0 (((((((((((w.setCell ⟨G, 0, none⟩ (.int .i64 s)).setCell ⟨G, 1, none⟩ (.bool b1)).setCell ⟨G, 2, none⟩ (.bool b2)).setCell ⟨G, 3, none⟩ (.bool b3)).setCell ⟨G, 4, none⟩ (.bool false)).setCell ⟨G, 5, none⟩ (.bool false)).setCell ⟨G, 6, none⟩ (.bool false)).setCell ⟨G, 7, none⟩ (.int .i64 0)).setCell ⟨G, 8, none⟩ (.int .u64 0)).setCell ⟨G, 9, none⟩ (.bool false)).setCell ⟨G, 10, none⟩ (.bool false)) := m9.set 10 (.bool false)
  exact ⟨G, rfl, m10⟩
theorem zero_facts {w : World} {G : Nat} (q : w.heap[G]? = some (.cells #[.int .i64 0, .bool false, .bool false, .bool false, .bool false, .bool false, .bool false, .int .i64 0, .int .u64 0, .bool false, .bool false] 52 (0, 0))) : w.cell? ⟨G, 0, none⟩ = some (.int .i64 0) ∧ w.cell? ⟨G, 1, none⟩ = some (.bool false) ∧ w.cell? ⟨G, 2, none⟩ = some (.bool false) ∧ w.cell? ⟨G, 3, none⟩ = some (.bool false) ∧ w.cell? ⟨G, 4, none⟩ = some (.bool false) ∧ w.cell? ⟨G, 5, none⟩ = some (.bool false) ∧ w.cell? ⟨G, 6, none⟩ = some (.bool false) ∧ w.cell? ⟨G, 7, none⟩ = some (.int .i64 0) ∧ w.cell? ⟨G, 8, none⟩ = some (.int .u64 0) ∧ w.cell? ⟨G, 9, none⟩ = some (.bool false) ∧ w.cell? ⟨G, 10, none⟩ = some (.bool false) ∧ w.frozen? ⟨G, 0, none⟩ = false ∧ w.frozen? ⟨G, 1, none⟩ = false ∧ w.frozen? ⟨G, 2, none⟩ = false ∧ w.frozen? ⟨G, 3, none⟩ = false ∧ w.frozen? ⟨G, 4, none⟩ = false ∧ w.frozen? ⟨G, 5, none⟩ = false ∧ w.frozen? ⟨G, 6, none⟩ = false ∧ w.frozen? ⟨G, 7, none⟩ = false ∧ w.frozen? ⟨G, 8, none⟩ = false ∧ w.frozen? ⟨G, 9, none⟩ = false ∧ w.frozen? ⟨G, 10, none⟩ = false :=
  ⟨blk_cell (k := 0) q rfl, blk_cell (k := 1) q rfl, blk_cell (k := 2) q rfl, blk_cell (k := 3) q rfl, blk_cell (k := 4) q rfl, blk_cell (k := 5) q rfl, blk_cell (k := 6) q rfl, blk_cell (k := 7) q rfl, blk_cell (k := 8) q rfl, blk_cell (k := 9) q rfl, blk_cell (k := 10) q rfl, one_free q 0, one_free q 1, one_free q 2, one_free q 3, one_free q 4, one_free q 5, one_free q 6, one_free q 7, one_free q 8, one_free q 9, one_free q 10⟩
theorem wa_drew {w0 w1 : World} {a b : Addr} {u v : Value} (h : w1.cell? a = some u ∧ w1.cell? b = some v ∧ Below w0.heap.size w0 w1) : w1.drew.cell? a = some u ∧ w1.drew.cell? b = some v ∧ Below w0.heap.size w0 w1.drew := ⟨h.1, h.2.1, h.2.2.drew⟩
theorem wa_grow {w0 w1 w2 : World} {a b : Addr} {u v : Value} (h : w1.cell? a = some u ∧ w1.cell? b = some v ∧ Below w0.heap.size w0 w1) (k : Below w1.heap.size w1 w2) : w2.cell? a = some u ∧ w2.cell? b = some v ∧ Below w0.heap.size w0 w2 :=
  ⟨(k.cell (by exact World.block_lt_of_cell? w1 _ h.1)).trans h.1, (k.cell (by exact World.block_lt_of_cell? w1 _ h.2.1)).trans h.2.1, bt h.2.2 k⟩

theorem wa_old {w0 w1 : World} {X G : Nat} {u v : Value} {s : Int} {b1 b2 b3 : Bool} (h : w1.cell? ⟨X, 0, none⟩ = some u ∧ w1.cell? ⟨X, 1, none⟩ = some v ∧ Below w0.heap.size w0 w1) (hX : X < w0.heap.size) (hG : w0.heap.size ≤ G) :
    (((((((((((w1.setCell ⟨G, 0, none⟩ (.int .i64 s)).setCell ⟨G, 1, none⟩ (.bool b1)).setCell ⟨G, 2, none⟩ (.bool b2)).setCell ⟨G, 3, none⟩ (.bool b3)).setCell ⟨G, 4, none⟩ (.bool false)).setCell ⟨G, 5, none⟩ (.bool false)).setCell ⟨G, 6, none⟩ (.bool false)).setCell ⟨G, 7, none⟩ (.int .i64 0)).setCell ⟨G, 8, none⟩ (.int .u64 0)).setCell ⟨G, 9, none⟩ (.bool false)).setCell ⟨G, 10, none⟩ (.bool false)).cell? ⟨X, 0, none⟩ = some u ∧ (((((((((((w1.setCell ⟨G, 0, none⟩ (.int .i64 s)).setCell ⟨G, 1, none⟩ (.bool b1)).setCell ⟨G, 2, none⟩ (.bool b2)).setCell ⟨G, 3, none⟩ (.bool b3)).setCell ⟨G, 4, none⟩ (.bool false)).setCell ⟨G, 5, none⟩ (.bool false)).setCell ⟨G, 6, none⟩ (.bool false)).setCell ⟨G, 7, none⟩ (.int .i64 0)).setCell ⟨G, 8, none⟩ (.int .u64 0)).setCell ⟨G, 9, none⟩ (.bool false)).setCell ⟨G, 10, none⟩ (.bool false)).cell? ⟨X, 1, none⟩ = some v ∧ Below w0.heap.size w0 (((((((((((w1.setCell ⟨G, 0, none⟩ (.int .i64 s)).setCell ⟨G, 1, none⟩ (.bool b1)).setCell ⟨G, 2, none⟩ (.bool b2)).setCell ⟨G, 3, none⟩ (.bool b3)).setCell ⟨G, 4, none⟩ (.bool false)).setCell ⟨G, 5, none⟩ (.bool false)).setCell ⟨G, 6, none⟩ (.bool false)).setCell ⟨G, 7, none⟩ (.int .i64 0)).setCell ⟨G, 8, none⟩ (.int .u64 0)).setCell ⟨G, 9, none⟩ (.bool false)).setCell ⟨G, 10, none⟩ (.bool false)) := by
  have hn : X ≠ G := by omega
  exact ⟨((cell_other hn).trans ((cell_other hn).trans ((cell_other hn).trans ((cell_other hn).trans ((cell_other hn).trans ((cell_other hn).trans ((cell_other hn).trans ((cell_other hn).trans ((cell_other hn).trans ((cell_other hn).trans ((cell_other hn).trans h.1))))))))))), ((cell_other hn).trans ((cell_other hn).trans ((cell_other hn).trans ((cell_other hn).trans ((cell_other hn).trans ((cell_other hn).trans ((cell_other hn).trans ((cell_other hn).trans ((cell_other hn).trans ((cell_other hn).trans ((cell_other hn).trans h.2.1))))))))))), (Below.setCell (p := ⟨G, 10, none⟩) (Below.setCell (p := ⟨G, 9, none⟩) (Below.setCell (p := ⟨G, 8, none⟩) (Below.setCell (p := ⟨G, 7, none⟩) (Below.setCell (p := ⟨G, 6, none⟩) (Below.setCell (p := ⟨G, 5, none⟩) (Below.setCell (p := ⟨G, 4, none⟩) (Below.setCell (p := ⟨G, 3, none⟩) (Below.setCell (p := ⟨G, 2, none⟩) (Below.setCell (p := ⟨G, 1, none⟩) (Below.setCell (p := ⟨G, 0, none⟩) h.2.2 hG (.int .i64 s)) hG (.bool b1)) hG (.bool b2)) hG (.bool b3)) hG (.bool false)) hG (.bool false)) hG (.bool false)) hG (.int .i64 0)) hG (.int .u64 0)) hG (.bool false)) hG (.bool false))⟩

set_option maxRecDepth 100000 in
set_option maxHeartbeats 8000000 in
theorem fnIntAbout_walk (l : List UInt8) (p : Addr) (w : World) (hl : l.length ≤ 140737488355328) (hp : EofIs w p) (hleaf : LeafIs w) :
    Calls Tryz.prog 9 #[.string (S l)] w fun e w' => e = .returned (.bool true) ∧ Below w.heap.size w w' := by
  have HAW := Lib.hid (fun (w' : World) (h1 : EofIs w' p) (h2 : LeafIs w') => intAwake_walk p w' h1 h2)
  have HP := Lib.hid hp
  have HLF := Lib.hid hleaf
  have hs0 := specInt_walk l w hl
  by_cases h0 : l.length ≤ 2147483647
  · have h0' : ¬ (2147483647 : Int) < l.length := by omega
    cases hok : intOk l with
    | false =>
      rw [hok] at hs0
      have HS := Lib.hid hs0
      clear hs0 hp hleaf
      go_enter Tryz.func9, Tryz.ntmps9
      go_wp2_with fail
      refine HS.out.mono ?_
      rintro e w1 ⟨b, A, n, c, rfl, _, hb⟩
      have HB := Lib.hid (bt hb (below_a1 w1 (.cells #[.bool b, .slice A n c] 29)))
      clear hb
      go_wp2_with fail
      refine (HAW.out _ (HP.out.below HB.out) (HLF.out.below HB.out)).mono ?_
      rintro e w2 ⟨rfl, hb2⟩
      go_wp2_with fail
      go_ret
      exact ⟨rfl, bt HB.out hb2⟩
    | true =>
      obtain ⟨r1, q1, v1, d1⟩ := intOk_isA hok
      have hab := fun (w' : World) (h1 : EofIs w' p) => intAbout_walk l p w' r1 q1 h1 v1
      rw [hok] at hs0
      obtain ⟨z, hz⟩ : ∃ z, readZ l = z := ⟨_, rfl⟩
      rw [hz] at hs0 hab d1
      have h1 := fun (w' : World) (v : Value) (h : IsNum w' v z) => sign_walk v z w' h
      have h2 := fun (w' : World) (v : Value) (h : IsNum w' v z) => zero_walk v z w' h
      have h3 := fun (w' : World) (v : Value) (h : IsNum w' v z) => small_walk v z w' h d1
      have h4 := fun (w' : World) (v : Value) (h : IsNum w' v z) => unsigned64_walk v z w' h d1
      obtain ⟨hb2', hb3'⟩ := sgn_lt z
      obtain ⟨s, hs⟩ : ∃ s, sgnC z = s := ⟨_, rfl⟩
      obtain ⟨b1, hb1⟩ : ∃ b1, decide (z = 0) = b1 := ⟨_, rfl⟩
      obtain ⟨b2, hb2⟩ : ∃ b2, decide (z < 0) = b2 := ⟨_, rfl⟩
      obtain ⟨b3, hb3⟩ : ∃ b3, decide (0 < z) = b3 := ⟨_, rfl⟩
      obtain ⟨b5, hb5⟩ : ∃ b5, smlOk z = b5 := ⟨_, rfl⟩
      obtain ⟨b6, hb6⟩ : ∃ b6, unsOk z = b6 := ⟨_, rfl⟩
      obtain ⟨v7, hv7⟩ : ∃ v7, smlZ z = v7 := ⟨_, rfl⟩
      obtain ⟨v8, hv8⟩ : ∃ v8, unsZ z = v8 := ⟨_, rfl⟩
      rw [hs, hb2] at hb2'
      rw [hs, hb3] at hb3'
      rw [hs] at h1
      rw [hb1] at h2
      rw [hb5, hv7] at h3
      rw [hb6, hv8] at h4
      rw [hs, hb1, hb2, hb3, hb5, hb6, hv7, hv8] at hab
      have heq := fun (w' : World) => ask_eq w' s v7 v8 b1 b2 b3 b5 b6
      have HSG := Lib.hid h1
      have HZE := Lib.hid h2
      have HSM := Lib.hid h3
      have HUN := Lib.hid h4
      have HAB := Lib.hid hab
      have HS := Lib.hid hs0
      have HEQ := Lib.hid heq
      clear hs0 hab h1 h2 h3 h4 hp hleaf hok r1 q1 v1 d1 hz hs hb1 hb2 hb3 hb5 hb6 hv7 hv8 heq
      go_enter Tryz.func9, Tryz.ntmps9
      go_wp2_with fail
      refine HS.out.mono ?_
      rintro e w1 ⟨b, A, n, c, rfl, hn, hb⟩
      have hn := hn rfl
      have hn1 := hn.below (below_a1 w1 (.cells #[.bool b, .slice A n c] 29))
      have hbb := bt hb (below_a1 w1 (.cells #[.bool b, .slice A n c] 29))
      have hk1 := heap_here w1 (.cells #[.bool b, .slice A n c] 29)
      have hsz : w.heap.size ≤ w1.heap.size := hb.size
      obtain ⟨wA, hwA⟩ : ∃ wA, w1.alloc (.cells #[.bool b, .slice A n c] 29) = wA := ⟨_, rfl⟩
      rw [hwA] at hn1 hbb hk1
      have HN1 := Lib.hid hn1
      have HB1 := Lib.hid hbb
      have HK1 := Lib.hid hk1
      have HWA := Lib.hid hwA
      have hkept : wA.cell? ⟨w1.heap.size, 0, none⟩ = some (.bool b) ∧ wA.cell? ⟨w1.heap.size, 1, none⟩ = some (.slice A n c) ∧ Below wA.heap.size wA wA := ⟨num_cell0 hk1, num_cell1 hk1, Below.refl _ _⟩
      have hltA := iter_lt hk1
      clear hn hb hn1 hbb hk1 hwA
      go_upto_region 6 with fail
      rw [HWA.out]
      go_cut [5] (fun xv wx => WantRel w1.heap.size b A n c #[.int .i64 s, .bool b1, .bool b2, .bool b3, .bool false, .bool false, .bool false, .int .i64 0, .int .u64 0, .bool false, .bool false] wA xv wx)
      case first =>
        go_region_held3 (fun w' => w'.cell? ⟨w1.heap.size, 0, none⟩ = some (.bool b) ∧ w'.cell? ⟨w1.heap.size, 1, none⟩ = some (.slice A n c) ∧ Below wA.heap.size wA w')
          (with_reducible first | assumption | exact wa_old HS4.out hltA E.out.2 | exact wa_grow HS4.out (below_a1 _ _) | exact wa_grow (by assumption) hgr | exact wa_grow (by assumption) (below_a1 _ _) | exact wa_drew hkept | exact wa_drew (wa_grow hkept (below_a1 _ _)))
          (first
            | (go_at_call 34; (with_reducible refine (HSG.out _ _ (HN1.out.below (by go_split_ands; assumption))).mono ?_); rintro e w4 ⟨rfl, hgr⟩; have HS4 := Lib.hid (wa_grow (by assumption) hgr); have HB4 := Lib.hid HS4.out.2.2; (first | (have q := want_newD hgr; have E := Lib.hid (And.intro q (Nat.le_refl wA.heap.size)); obtain ⟨k0, k1, k2, k3, k4, k5, k6, k7, k8, k9, k10, f0, f1, f2, f3, f4, f5, f6, f7, f8, f9, f10⟩ := zero_facts q; clear q) | (have q := want_new hgr; have E := Lib.hid (And.intro q hsz); obtain ⟨k0, k1, k2, k3, k4, k5, k6, k7, k8, k9, k10, f0, f1, f2, f3, f4, f5, f6, f7, f8, f9, f10⟩ := zero_facts q; clear q) | (have q := (hgr.block _ (iter_lt E.out.1)).trans E.out.1; have E2 := Lib.hid (And.intro q E.out.2); clear E; have E := E2; clear E2; clear k0 f0 k1 f1 k2 f2 k3 f3 k4 f4 k5 f5 k6 f6 k7 f7 k8 f8 k9 f9 k10 f10; obtain ⟨k0, k1, k2, k3, k4, k5, k6, k7, k8, k9, k10, f0, f1, f2, f3, f4, f5, f6, f7, f8, f9, f10⟩ := zero_facts q; clear q) | skip); have hsz2 : wA.heap.size ≤ w4.heap.size := (by first | exact al_sizeD hgr | exact Nat.le_trans hsz (al_size hgr) | exact Nat.le_trans hsz hgr.size | exact hgr.size); (try clear hsz); have hsz := hsz2; clear hsz2)
            | (go_at_call 26; (with_reducible refine (HZE.out _ _ (HN1.out.below (by go_split_ands; assumption))).mono ?_); rintro e w4 ⟨rfl, hgr⟩; have HS4 := Lib.hid (wa_grow (by assumption) hgr); have HB4 := Lib.hid HS4.out.2.2; (first | (have q := want_newD hgr; have E := Lib.hid (And.intro q (Nat.le_refl wA.heap.size)); obtain ⟨k0, k1, k2, k3, k4, k5, k6, k7, k8, k9, k10, f0, f1, f2, f3, f4, f5, f6, f7, f8, f9, f10⟩ := zero_facts q; clear q) | (have q := want_new hgr; have E := Lib.hid (And.intro q hsz); obtain ⟨k0, k1, k2, k3, k4, k5, k6, k7, k8, k9, k10, f0, f1, f2, f3, f4, f5, f6, f7, f8, f9, f10⟩ := zero_facts q; clear q) | (have q := (hgr.block _ (iter_lt E.out.1)).trans E.out.1; have E2 := Lib.hid (And.intro q E.out.2); clear E; have E := E2; clear E2; clear k0 f0 k1 f1 k2 f2 k3 f3 k4 f4 k5 f5 k6 f6 k7 f7 k8 f8 k9 f9 k10 f10; obtain ⟨k0, k1, k2, k3, k4, k5, k6, k7, k8, k9, k10, f0, f1, f2, f3, f4, f5, f6, f7, f8, f9, f10⟩ := zero_facts q; clear q) | skip); have hsz2 : wA.heap.size ≤ w4.heap.size := (by first | exact al_sizeD hgr | exact Nat.le_trans hsz (al_size hgr) | exact Nat.le_trans hsz hgr.size | exact hgr.size); (try clear hsz); have hsz := hsz2; clear hsz2))
        all_goals go_wp2_with fail
        all_goals go_meet
        all_goals first
          | with_reducible exact want_fresh ((HB4.out.block _ hltA).trans HK1.out) HB4.out hltA
          | with_reducible exact want_old E.out.1 ((HB4.out.block _ hltA).trans HK1.out) E.out.2 HB4.out hltA

      case rest =>
        obtain ⟨G, rfl, hM⟩ := hcut
        have c0 := num_cell0 hM.kx
        have c1 := num_cell1 hM.kx
        have HM := Lib.hid hM
        have hne := hM.lx
        clear hM
        go_wp2_with fail
        refine (HSM.out _ _ (HN1.out.below HM.out.below)).mono ?_
        rintro e w5 ⟨rfl, hb5⟩
        have m5 := HM.out.next hb5
        have d7 := blk_cell (k := 7) m5.kq rfl
        have f7 := one_free m5.kq 7
        have d5 := blk_cell (k := 5) m5.kq rfl
        have f5 := one_free m5.kq 5
        have M6 : Hid (WantM w1.heap.size G b A n c #[.int .i64 s, .bool b1, .bool b2, .bool b3, .bool false, .bool b5, .bool false, .int .i64 v7, .int .u64 0, .bool false, .bool false] wA ((w5.setCell ⟨G, 7, none⟩ (.int .i64 v7)).setCell ⟨G, 5, none⟩ (.bool b5))) := Lib.hid ((m5.set 7 (.int .i64 v7)).set 5 (.bool b5))
        clear m5 hb5 c0 c1
        go_upto_region 8 with fail
        obtain ⟨w6, hw6⟩ : ∃ w6, (w5.setCell ⟨G, 7, none⟩ (.int .i64 v7)).setCell ⟨G, 5, none⟩ (.bool b5) = w6 := ⟨_, rfl⟩
        rw [hw6] at M6 ⊢
        clear hw6 d7 f7 d5 f5
        have c0 := num_cell0 M6.out.kx
        have c1 := num_cell1 M6.out.kx
        go_wp2_with fail
        refine (HUN.out _ _ (HN1.out.below M6.out.below)).mono ?_
        rintro e w7 ⟨rfl, hb7⟩
        have m7 := M6.out.next hb7
        have d8 := blk_cell (k := 8) m7.kq rfl
        have f8 := one_free m7.kq 8
        have d6 := blk_cell (k := 6) m7.kq rfl
        have f6 := one_free m7.kq 6
        have M8 : Hid (WantM w1.heap.size G b A n c #[.int .i64 s, .bool b1, .bool b2, .bool b3, .bool false, .bool b5, .bool b6, .int .i64 v7, .int .u64 v8, .bool false, .bool false] wA ((w7.setCell ⟨G, 8, none⟩ (.int .u64 v8)).setCell ⟨G, 6, none⟩ (.bool b6))) := Lib.hid ((m7.set 8 (.int .u64 v8)).set 6 (.bool b6))
        clear m7 hb7 c0 c1
        go_upto_region 9 with fail
        obtain ⟨w8, hw8⟩ : ∃ w8, (w7.setCell ⟨G, 8, none⟩ (.int .u64 v8)).setCell ⟨G, 6, none⟩ (.bool b6) = w8 := ⟨_, rfl⟩
        rw [hw8] at M8 ⊢
        clear hw8 d8 f8 d6 f6
        have d5 := blk_cell (k := 5) M8.out.kq rfl
        have d6 := blk_cell (k := 6) M8.out.kq rfl
        have d9 := blk_cell (k := 9) M8.out.kq rfl
        have d10 := blk_cell (k := 10) M8.out.kq rfl
        have f9 := one_free M8.out.kq 9
        have f10 := one_free M8.out.kq 10
        have M9 : Hid (WantM w1.heap.size G b A n c #[.int .i64 s, .bool b1, .bool b2, .bool b3, .bool false, .bool b5, .bool b6, .int .i64 v7, .int .u64 v8, .bool b5, .bool b6] wA ((w8.setCell ⟨G, 9, none⟩ (.bool b5)).setCell ⟨G, 10, none⟩ (.bool b6))) := Lib.hid ((M8.out.set 9 (.bool b5)).set 10 (.bool b6))
        go_upto_region 10 with fail
        obtain ⟨w9, hw9⟩ : ∃ w9, (w8.setCell ⟨G, 9, none⟩ (.bool b5)).setCell ⟨G, 10, none⟩ (.bool b6) = w9 := ⟨_, rfl⟩
        rw [hw9] at M9 ⊢
        clear hw9 d5 d6 d9 d10 f9 f10
        have hM9 := M9.out
        have heq := HEQ.out
        have hgd : Tryz.prog.eqGuardType Tryz.prog.depth 52 = false := by kernel_rfl
        go_region_held3 (fun w' => w'.cell? ⟨G, 0, none⟩ = some (.int .i64 s) ∧ w'.cell? ⟨G, 1, none⟩ = some (.bool b1) ∧ w'.cell? ⟨G, 2, none⟩ = some (.bool b2) ∧ w'.cell? ⟨G, 3, none⟩ = some (.bool b3) ∧ w'.cell? ⟨G, 4, none⟩ = some (.bool false) ∧ w'.cell? ⟨G, 5, none⟩ = some (.bool b5) ∧ w'.cell? ⟨G, 6, none⟩ = some (.bool b6) ∧ w'.cell? ⟨G, 7, none⟩ = some (.int .i64 v7) ∧ w'.cell? ⟨G, 8, none⟩ = some (.int .u64 v8) ∧ w'.cell? ⟨G, 9, none⟩ = some (.bool b5) ∧ w'.cell? ⟨G, 10, none⟩ = some (.bool b6) ∧ WantM w1.heap.size G b A n c #[.int .i64 s, .bool b1, .bool b2, .bool b3, .bool false, .bool b5, .bool b6, .int .i64 v7, .int .u64 v8, .bool b5, .bool b6] wA w')
          (first | assumption | exact want_s (hM9.next ((Below.refl _ _).drew)) | exact want_s (WantM.next (by go_split_ands; assumption) hgr))
          (first
            | (go_at_call 27; (with_reducible refine (HAW.out _ (HP.out.below (bt HB1.out (by go_split_ands; exact WantM.below (by assumption)))) (HLF.out.below (bt HB1.out (by go_split_ands; exact WantM.below (by assumption))))).mono ?_); rintro e w10 ⟨rfl, hgr⟩)
            | (go_at_call 36; (with_reducible refine (HAB.out _ (HP.out.below (bt HB1.out (by go_split_ands; exact WantM.below (by assumption))))).mono ?_); rintro e w11 ⟨rfl, hgr⟩))
        all_goals
          have hB := (‹_ ∧ _ ∧ _ ∧ _ ∧ _ ∧ _ ∧ _ ∧ _ ∧ _ ∧ _ ∧ _ ∧ WantM w1.heap.size G b A n c _ wA w11›).2.2.2.2.2.2.2.2.2.2.2.below
          go_wp2_with fail
          go_ret
          exact ⟨rfl, bt HB1.out hB⟩
  · have h0' : (2147483647 : Int) < l.length := by omega
    go_enter Tryz.func9, Tryz.ntmps9
    go_wp2_with fail
    go_ret
    exact ⟨rfl, Below.refl _ _⟩
end Go.Proofs.YthipbglnaalhmaaGreatDoor
