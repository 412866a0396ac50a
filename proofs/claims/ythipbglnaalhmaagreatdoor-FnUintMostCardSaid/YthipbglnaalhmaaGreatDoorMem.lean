/-
  A block of numbers in memory.
-/
import Derived.Test.YthipbglnaalhmaaGreatDoorSpecCmp2
import Derived.Deep.OwnRows
namespace Go.Proofs.YthipbglnaalhmaaGreatDoor
open Go.RowKit

def idxOf (n : Nat) : Value → Nat | .int _ k => n - k.toNat | _ => 0
def nums (k : IntKind) (ds : List Nat) : List Value := ds.map fun (d : Nat) => Value.int k (d : Int)
theorem nums_u8s (ds : List Nat) : u8s ds = nums .u8 ds := rfl
theorem nums_length (k : IntKind) (ds : List Nat) : (nums k ds).length = ds.length := by simp [nums]
/-- Block g holds the numbers xs. -/
def Row (w : World) (g : Nat) (k : IntKind) (T : TypeId) (xs : List Nat) : Prop := w.heap[g]? = some (.cells (nums k xs).toArray T (0, 0))
theorem Row.lt {w : World} {g : Nat} {k : IntKind} {T : TypeId} {xs : List Nat} (h : Row w g k T xs) : g < w.heap.size := iter_lt h
theorem Row.cell {w : World} {g : Nat} {k : IntKind} {T : TypeId} {xs : List Nat} (h : Row w g k T xs) {j : Nat} (hj : j < xs.length) : w.cell? ⟨g, j, none⟩ = some (.int k (xs[j] : Int)) := by
  have h1 : w.heap[g]? = some (.cells (nums k xs).toArray T (0, 0)) := h
  simp [World.cell?, h1, nums, hj]
theorem Row.free {w : World} {g : Nat} {k : IntKind} {T : TypeId} {xs : List Nat} (h : Row w g k T xs) (j : Nat) : w.frozen? ⟨g, j, none⟩ = false := one_free h j
theorem Row.set {w : World} {g : Nat} {k : IntKind} {T : TypeId} {xs : List Nat} (h : Row w g k T xs) (j v : Nat) : Row (w.setCell ⟨g, j, none⟩ (.int k (v : Int))) g k T (xs.set j v) := by
  have h2 := cells_set h j (.int k (v : Int))
  unfold Row
  rw [h2]
  congr 2
  simp [nums, List.map_set]
theorem Row.drew {w : World} {g : Nat} {k : IntKind} {T : TypeId} {xs : List Nat} (h : Row w g k T xs) (n : Nat) : Row (w.drewN n) g k T xs := h
theorem Row.block {w w' : World} {B g : Nat} {k : IntKind} {T : TypeId} {xs : List Nat} (h : Row w g k T xs) (hb : Below B w w') (hg : g < B) : Row w' g k T xs := (hb.block g hg).trans h
theorem Row.alloc {w : World} {g : Nat} {k : IntKind} {T : TypeId} {xs : List Nat} (h : Row w g k T xs) (o : Obj) : Row (w.alloc o) g k T xs := heap_old h
theorem Row.below {w w' : World} {g : Nat} {k : IntKind} {T : TypeId} {xs : List Nat} (h : Row w g k T xs) (hb : Below w.heap.size w w') : Row w' g k T xs := h.block hb h.lt
theorem Row.other {w : World} {g : Nat} {k : IntKind} {T : TypeId} {xs : List Nat} (h : Row w g k T xs) {p : Addr} (u : Value) (hp : g ≠ p.block) : Row (w.setCell p u) g k T xs := (one_other hp).trans h
theorem row_made (w : World) (k : IntKind) (n : Nat) (T : TypeId) : Row (w.alloc (.cells (madeCells #[.int k 0] n) T)) w.heap.size k T (List.replicate n 0) := by
  unfold Row
  rw [heap_here]
  congr 2
  apply Array.ext
  · simp [madeCells, nums]
  · intro i h1 h2
    simp [madeCells, nums, Nat.mod_one]
theorem add_off (g o j : Nat) : (⟨g, o, none⟩ : Addr).add j = ⟨g, o + j, none⟩ := by
  unfold Addr.add
  by_cases h : j = 0
  · subst h; simp
  · rw [if_neg h]
theorem Row.rd {w : World} {g : Nat} {k : IntKind} {T : TypeId} {xs : List Nat} (h : Row w g k T xs) (o : Nat) : Rd w (some ⟨g, o, none⟩) (nums k (xs.drop o)) := by
  right
  refine ⟨_, rfl, fun j u hu => ?_⟩
  rw [add_off]
  simp only [nums, List.getElem?_map, List.getElem?_drop, Option.map_eq_some_iff] at hu
  obtain ⟨d, hd, rfl⟩ := hu
  obtain ⟨hlt, rfl⟩ := List.getElem?_eq_some_iff.1 hd
  exact h.cell hlt
theorem Rd.take {w : World} {A : Option Addr} {k : IntKind} {xs : List Nat} (h : Rd w A (nums k xs)) (n : Nat) : Rd w A (nums k (xs.take n)) := by
  have e : nums k xs = nums k (xs.take n) ++ nums k (xs.drop n) := by rw [nums, nums, nums, ← List.map_append, List.take_append_drop]
  rw [e] at h
  exact h.prefix
theorem rd_cell {w : World} {A : Option Addr} {k : IntKind} {ds : List Nat} (hr : Rd w A (nums k ds)) {j : Nat} (hj : j < ds.length) : ∃ a, A = some a ∧ w.cell? (a.add j) = some (.int k (ds[j] : Int)) := by
  rcases hr with h | ⟨a, rfl, h⟩
  · have := congrArg List.length h
    simp [nums] at this
    subst this
    simp at hj
  · exact ⟨a, rfl, h j _ (by simp [nums, List.getElem?_eq_getElem hj])⟩
/-- What has been read lies in old memory, which a store into another block leaves. -/
theorem Rd.other {w : World} {A : Option Addr} {vs : List Value} (h : Rd w A vs) {p : Addr} (u : Value) (hp : ∀ a, A = some a → a.block ≠ p.block) : Rd (w.setCell p u) A vs := by
  rcases h with h | ⟨a, rfl, h⟩
  · exact .inl h
  · exact .inr ⟨a, rfl, fun j v hv => by rw [cell_other (by rw [add_block]; exact hp a rfl)]; exact h j v hv⟩
theorem Rd.lt {w : World} {A : Option Addr} {vs : List Value} (h : Rd w A vs) (hne : vs ≠ []) : ∃ a, A = some a ∧ a.block < w.heap.size := by
  rcases h with h | ⟨a, rfl, h⟩
  · exact absurd h hne
  · cases vs with
    | nil => exact absurd rfl hne
    | cons v t =>
      have := World.block_lt_of_cell? w _ (h 0 v rfl)
      rw [add_block] at this
      exact ⟨a, rfl, this⟩
theorem valD_set {b : Nat} : ∀ (xs : List Nat) (j v : Nat) (h : j < xs.length), valD b (xs.set j (xs[j] + v)) = valD b xs + b ^ j * v
  | x :: r, 0, v, _ => by simp [valD]; omega
  | x :: r, j + 1, v, h => by
    have := valD_set (b := b) r j v (by simpa using h)
    simp only [List.set_cons_succ, List.getElem_cons_succ, valD, this, Nat.pow_succ]
    rw [Nat.mul_add, ← Nat.mul_assoc, Nat.mul_comm b (b ^ j), Nat.add_assoc]
theorem valD_replicate (b n : Nat) : valD b (List.replicate n 0) = 0 := by
  induction n with
  | zero => rfl
  | succ n ih => rw [List.replicate_succ]; simp [valD, ih]
theorem valD_take_succ {b : Nat} {xs : List Nat} {k : Nat} (h : k < xs.length) : valD b (xs.take (k + 1)) = valD b (xs.take k) + b ^ k * xs[k] := by
  have e : xs.take (k + 1) = xs.take k ++ [xs[k]] := by rw [List.take_add_one, List.getElem?_eq_getElem h]; rfl
  rw [e, valD_append]
  simp [valD, List.length_take, Nat.min_eq_left (Nat.le_of_lt h)]
end Go.Proofs.YthipbglnaalhmaaGreatDoor
