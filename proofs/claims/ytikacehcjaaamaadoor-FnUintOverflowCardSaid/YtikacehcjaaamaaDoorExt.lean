/-
  A world that has grown, some blocks written.
-/
import Derived.Test.YtikacehcjaaamaaDoorFmtDec
namespace Go.Proofs.YtikacehcjaaamaaDoor
open Go.RowKit

/-- w' is w, grown; of the old blocks only those of D may have been written. -/
structure Ext (D : Nat → Prop) (w w' : World) : Prop where
  os : w'.os = w.os
  tape : w'.tape = w.tape
  output : w'.output = w.output
  size : w.heap.size ≤ w'.heap.size
  block : ∀ k, k < w.heap.size → ¬ D k → w'.heap[k]? = w.heap[k]?

theorem Ext.refl (D : Nat → Prop) (w : World) : Ext D w w := ⟨rfl, rfl, rfl, Nat.le_refl _, fun _ _ _ => rfl⟩
theorem Ext.trans {D : Nat → Prop} {a b c : World} (h : Ext D a b) (k : Ext D b c) : Ext D a c :=
  ⟨k.os.trans h.os, k.tape.trans h.tape, k.output.trans h.output, Nat.le_trans h.size k.size, fun i hi hd => (k.block i (Nat.lt_of_lt_of_le hi h.size) hd).trans (h.block i hi hd)⟩
theorem Ext.mono {D D' : Nat → Prop} {w w' : World} (h : Ext D w w') (hd : ∀ k, k < w.heap.size → D k → D' k) : Ext D' w w' :=
  ⟨h.os, h.tape, h.output, h.size, fun k hk hn => h.block k hk (fun x => hn (hd k hk x))⟩
theorem Ext.of_below {D : Nat → Prop} {w w' : World} (h : Below w.heap.size w w') : Ext D w w' := ⟨h.os, h.tape, h.output, h.size, fun k hk _ => h.block k hk⟩
/-- Below some number B, everything from B on being of D. -/
theorem Ext.of_below' {D : Nat → Prop} {B : Nat} {w w' : World} (h : Below B w w') (hd : ∀ k, k < w.heap.size → ¬ D k → k < B) : Ext D w w' := ⟨h.os, h.tape, h.output, h.size, fun k hk hn => h.block k (hd k hk hn)⟩
theorem Ext.below {D : Nat → Prop} {B : Nat} {w w' : World} (h : Ext D w w') (hB : B ≤ w.heap.size) (hd : ∀ k, D k → B ≤ k) : Below B w w' :=
  ⟨h.os, h.tape, h.output, h.size, fun k hk => h.block k (Nat.lt_of_lt_of_le hk hB) (fun x => by have := hd k x; omega)⟩
theorem Ext.then_below {D : Nat → Prop} {a b c : World} (h : Ext D a b) (k : Below b.heap.size b c) : Ext D a c := h.trans (Ext.of_below k)
/-- What comes behind may write D's blocks and new ones. -/
theorem Ext.trans' {D D' : Nat → Prop} {a b c : World} (h : Ext D a b) (k : Ext D' b c) (hd : ∀ i, i < a.heap.size → D' i → D i) : Ext D a c :=
  ⟨k.os.trans h.os, k.tape.trans h.tape, k.output.trans h.output, Nat.le_trans h.size k.size, fun i hi hn => (k.block i (Nat.lt_of_lt_of_le hi h.size) (fun x => hn (hd i hi x))).trans (h.block i hi hn)⟩
theorem Ext.setCell {D : Nat → Prop} {a w : World} (h : Ext D a w) {p : Addr} (hp : p.block < a.heap.size → D p.block) (u : Value) : Ext D a (w.setCell p u) :=
  ⟨h.os, h.tape, h.output, by simpa [World.setCell] using h.size, fun k hk hn => by
    rw [Below.heap_setCell _ _ _ _ (fun e => hn (by rw [e] at hk ⊢; exact hp hk))]
    exact h.block k hk hn⟩
theorem Ext.alloc {D : Nat → Prop} {a w : World} (h : Ext D a w) (o : Obj) : Ext D a (w.alloc o) := h.then_below ((Below.refl _ _).alloc (Nat.le_refl _) _)
theorem Ext.drewN {D : Nat → Prop} {a w : World} (h : Ext D a w) (n : Nat) : Ext D a (w.drewN n) := ⟨h.os, h.tape, h.output, h.size, h.block⟩
theorem Ext.drew {D : Nat → Prop} {a w : World} (h : Ext D a w) : Ext D a w.drew := ⟨h.os, h.tape, h.output, h.size, h.block⟩
theorem one_drew {w : World} {g : Nat} : (w.drew).heap[g]? = w.heap[g]? := rfl
theorem one_other {w : World} {g : Nat} {a : Addr} {u : Value} (h : g ≠ a.block) : (w.setCell a u).heap[g]? = w.heap[g]? := Below.heap_setCell _ _ _ _ h
theorem heap_size_alloc (w : World) (o : Obj) : (w.alloc o).heap.size = w.heap.size + 1 := by show (w.heap.push o).size = _; rw [Array.size_push]
theorem heap_get (w : World) (o : Obj) (k : Nat) : (w.alloc o).heap[k]? = if k = w.heap.size then some o else w.heap[k]? := by show (w.heap.push o)[k]? = _; rw [Array.getElem?_push]
theorem heap_here (w : World) (o : Obj) : (w.alloc o).heap[w.heap.size]? = some o := heap_alloc_new w o
theorem heap_old {w : World} {o : Obj} {k : Nat} {x : Obj} (h : w.heap[k]? = some x) : (w.alloc o).heap[k]? = some x := (Below.heap_alloc w o k (iter_lt h)).trans h

end Go.Proofs.YtikacehcjaaamaaDoor
