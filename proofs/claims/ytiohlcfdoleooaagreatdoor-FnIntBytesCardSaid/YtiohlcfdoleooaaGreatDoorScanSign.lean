/-
  A block of numbers in memory.
  strings.Reader.
  scanSign.
-/
import Derived.Test.YtiohlcfdoleooaaGreatDoorSpecCmp2
import Derived.Deep.OwnRows
namespace Go.Proofs.YtiohlcfdoleooaaGreatDoor
open Go.RowKit

def idxOf (n : Nat) : Value → Nat | .int _ k => n - k.toNat | _ => 0
def nums (k : IntKind) (ds : List Nat) : List Value := ds.map fun (d : Nat) => Value.int k (d : Int)
theorem nums_u8s (ds : List Nat) : u8s ds = nums .u8 ds := rfl
theorem nums_length (k : IntKind) (ds : List Nat) : (nums k ds).length = ds.length := by simp [nums]
/-- Block g holds the numbers xs. -/
def Row (w : World) (g : Nat) (k : IntKind) (T : TypeId) (xs : List Nat) : Prop := w.heap[g]? = some (.cells (nums k xs).toArray T (0, 0))
theorem Row.lt {w : World} {g : Nat} {k : IntKind} {T : TypeId} {xs : List Nat} (h : Row w g k T xs) : g < w.heap.size := iter_lt h
theorem Row.cell {w : World} {g : Nat} {k : IntKind} {T : TypeId} {xs : List Nat} (h : Row w g k T xs) {j : Nat} (hj : j < xs.length) : w.cell? ⟨g, j, none⟩ = some (.int k (xs[j] : Int)) := by
  have h1 : w.heap[g]? = some (.cells (nums k xs).toArray T (0, 0)) := h
  simp [World.cell?, h1, nums, hj]
theorem Row.free {w : World} {g : Nat} {k : IntKind} {T : TypeId} {xs : List Nat} (h : Row w g k T xs) (j : Nat) : w.frozen? ⟨g, j, none⟩ = false := one_free h j
theorem Row.set {w : World} {g : Nat} {k : IntKind} {T : TypeId} {xs : List Nat} (h : Row w g k T xs) (j v : Nat) : Row (w.setCell ⟨g, j, none⟩ (.int k (v : Int))) g k T (xs.set j v) := by
  have h2 := cells_set h j (.int k (v : Int))
  unfold Row
  rw [h2]
  congr 2
  simp [nums, List.map_set]
theorem Row.drew {w : World} {g : Nat} {k : IntKind} {T : TypeId} {xs : List Nat} (h : Row w g k T xs) (n : Nat) : Row (w.drewN n) g k T xs := h
theorem Row.block {w w' : World} {B g : Nat} {k : IntKind} {T : TypeId} {xs : List Nat} (h : Row w g k T xs) (hb : Below B w w') (hg : g < B) : Row w' g k T xs := (hb.block g hg).trans h
theorem Row.alloc {w : World} {g : Nat} {k : IntKind} {T : TypeId} {xs : List Nat} (h : Row w g k T xs) (o : Obj) : Row (w.alloc o) g k T xs := heap_old h
theorem Row.below {w w' : World} {g : Nat} {k : IntKind} {T : TypeId} {xs : List Nat} (h : Row w g k T xs) (hb : Below w.heap.size w w') : Row w' g k T xs := h.block hb h.lt
theorem Row.other {w : World} {g : Nat} {k : IntKind} {T : TypeId} {xs : List Nat} (h : Row w g k T xs) {p : Addr} (u : Value) (hp : g ≠ p.block) : Row (w.setCell p u) g k T xs := (one_other hp).trans h
theorem row_made (w : World) (k : IntKind) (n : Nat) (T : TypeId) : Row (w.alloc (.cells (madeCells #[.int k 0] n) T)) w.heap.size k T (List.replicate n 0) := by
  unfold Row
  rw [heap_here]
  congr 2
  apply Array.ext
  · simp [madeCells, nums]
  · intro i h1 h2
    simp [madeCells, nums, Nat.mod_one]
theorem add_off (g o j : Nat) : (⟨g, o, none⟩ : Addr).add j = ⟨g, o + j, none⟩ := by
  unfold Addr.add
  by_cases h : j = 0
  · subst h; simp
  · rw [if_neg h]
theorem Row.rd {w : World} {g : Nat} {k : IntKind} {T : TypeId} {xs : List Nat} (h : Row w g k T xs) (o : Nat) : Rd w (some ⟨g, o, none⟩) (nums k (xs.drop o)) := by
  right
  refine ⟨_, rfl, fun j u hu => ?_⟩
  rw [add_off]
  simp only [nums, List.getElem?_map, List.getElem?_drop, Option.map_eq_some_iff] at hu
  obtain ⟨d, hd, rfl⟩ := hu
  obtain ⟨hlt, rfl⟩ := List.getElem?_eq_some_iff.1 hd
  exact h.cell hlt
theorem Rd.take {w : World} {A : Option Addr} {k : IntKind} {xs : List Nat} (h : Rd w A (nums k xs)) (n : Nat) : Rd w A (nums k (xs.take n)) := by
  have e : nums k xs = nums k (xs.take n) ++ nums k (xs.drop n) := by rw [nums, nums, nums, ← List.map_append, List.take_append_drop]
  rw [e] at h
  exact h.prefix
theorem rd_cell {w : World} {A : Option Addr} {k : IntKind} {ds : List Nat} (hr : Rd w A (nums k ds)) {j : Nat} (hj : j < ds.length) : ∃ a, A = some a ∧ w.cell? (a.add j) = some (.int k (ds[j] : Int)) := by
  rcases hr with h | ⟨a, rfl, h⟩
  · have := congrArg List.length h
    simp [nums] at this
    subst this
    simp at hj
  · exact ⟨a, rfl, h j _ (by simp [nums, List.getElem?_eq_getElem hj])⟩
/-- What has been read lies in old memory, which a store into another block leaves. -/
theorem Rd.other {w : World} {A : Option Addr} {vs : List Value} (h : Rd w A vs) {p : Addr} (u : Value) (hp : ∀ a, A = some a → a.block ≠ p.block) : Rd (w.setCell p u) A vs := by
  rcases h with h | ⟨a, rfl, h⟩
  · exact .inl h
  · exact .inr ⟨a, rfl, fun j v hv => by rw [cell_other (by rw [add_block]; exact hp a rfl)]; exact h j v hv⟩
theorem Rd.lt {w : World} {A : Option Addr} {vs : List Value} (h : Rd w A vs) (hne : vs ≠ []) : ∃ a, A = some a ∧ a.block < w.heap.size := by
  rcases h with h | ⟨a, rfl, h⟩
  · exact absurd h hne
  · cases vs with
    | nil => exact absurd rfl hne
    | cons v t =>
      have := World.block_lt_of_cell? w _ (h 0 v rfl)
      rw [add_block] at this
      exact ⟨a, rfl, this⟩
theorem valD_set {b : Nat} : ∀ (xs : List Nat) (j v : Nat) (h : j < xs.length), valD b (xs.set j (xs[j] + v)) = valD b xs + b ^ j * v
  | x :: r, 0, v, _ => by simp [valD]; omega
  | x :: r, j + 1, v, h => by
    have := valD_set (b := b) r j v (by simpa using h)
    simp only [List.set_cons_succ, List.getElem_cons_succ, valD, this, Nat.pow_succ]
    rw [Nat.mul_add, ← Nat.mul_assoc, Nat.mul_comm b (b ^ j), Nat.add_assoc]
theorem valD_replicate (b n : Nat) : valD b (List.replicate n 0) = 0 := by
  induction n with
  | zero => rfl
  | succ n ih => rw [List.replicate_succ]; simp [valD, ih]
theorem valD_take_succ {b : Nat} {xs : List Nat} {k : Nat} (h : k < xs.length) : valD b (xs.take (k + 1)) = valD b (xs.take k) + b ^ k * xs[k] := by
  have e : xs.take (k + 1) = xs.take k ++ [xs[k]] := by rw [List.take_add_one, List.getElem?_eq_getElem h]; rfl
  rw [e, valD_append]
  simp [valD, List.length_take, Nat.min_eq_left (Nat.le_of_lt h)]
end Go.Proofs.YtiohlcfdoleooaaGreatDoor

namespace Go.Proofs.YtiohlcfdoleooaaGreatDoor
open Go.RowKit

/-- Block g is a reader of l, at place i. -/
def ReaderAt (w : World) (g : Nat) (l : List UInt8) (i : Nat) : Prop := ∃ pr : Int, w.heap[g]? = some (.cells #[.string (S l), .int .i64 i, .int .i64 pr] 180 (0, 0))
/-- io.EOF is v. -/
def EofIs (w : World) (p : Addr) : Prop := w.cell? ⟨2, 0, none⟩ = some (.iface 145 (.pointer (some p)))
theorem EofIs.lt {w : World} {p : Addr} (h : EofIs w p) : 2 < w.heap.size := World.block_lt_of_cell? w _ h
theorem EofIs.ext {D : Nat → Prop} {w w' : World} {p : Addr} (h : EofIs w p) (he : Ext D w w') (hd : ¬ D 2) : EofIs w' p := (World.cell?_of_block (he.block _ h.lt hd)).trans h
theorem EofIs.below {w w' : World} {p : Addr} (h : EofIs w p) (hb : Below w.heap.size w w') : EofIs w' p := (hb.cell (by exact h.lt)).trans h
theorem ReaderAt.lt {w : World} {g : Nat} {l : List UInt8} {i : Nat} (h : ReaderAt w g l i) : g < w.heap.size := by obtain ⟨_, h⟩ := h; exact iter_lt h
theorem three0 {w : World} {g : Nat} {a b c : Value} {T : TypeId} (h : w.heap[g]? = some (.cells #[a, b, c] T (0, 0))) : w.cell? ⟨g, 0, none⟩ = some a := by simp [World.cell?, h]
theorem three1 {w : World} {g : Nat} {a b c : Value} {T : TypeId} (h : w.heap[g]? = some (.cells #[a, b, c] T (0, 0))) : w.cell? ⟨g, 1, none⟩ = some b := by simp [World.cell?, h]
theorem three2 {w : World} {g : Nat} {a b c : Value} {T : TypeId} (h : w.heap[g]? = some (.cells #[a, b, c] T (0, 0))) : w.cell? ⟨g, 2, none⟩ = some c := by simp [World.cell?, h]
theorem ReaderAt.ext {D : Nat → Prop} {w w' : World} {g : Nat} {l : List UInt8} {i : Nat} (h : ReaderAt w g l i) (he : Ext D w w') (hd : ¬ D g) : ReaderAt w' g l i := by
  obtain ⟨pr, h⟩ := h
  exact ⟨pr, (he.block _ (iter_lt h) hd).trans h⟩

set_option maxRecDepth 100000 in
set_option maxHeartbeats 1000000 in
theorem newReader_walk (l : List UInt8) (w : World) :
    Calls Tryz.prog 194 #[.string (S l)] w fun e w' => e = .returned (.pointer (some ⟨w.heap.size, 0, none⟩)) ∧ ReaderAt w' w.heap.size l 0 ∧ Below w.heap.size w w' := by
  go_enter Tryz.func194, Tryz.ntmps194
  go_wp2_with fail
  go_ret
  exact ⟨rfl, ⟨-1, heap_here _ _⟩, below_a1 _ _⟩

/-- The error that reading at place j gives. -/
def nextErr (l : List UInt8) (j : Nat) (p : Addr) : Value := if j < l.length then .nilIface else .iface 145 (.pointer (some p))
/-- What ReadByte leaves behind. -/
def ReadPost (w : World) (g : Nat) (l : List UInt8) (i : Nat) (v : Value) (e : Ending) (w' : World) : Prop := e = .returned v ∧ ReaderAt w' g l i ∧ Ext (fun b => b = g) w w' ∧ w'.heap.size = w.heap.size

set_option maxRecDepth 100000 in
set_option maxHeartbeats 1000000 in
theorem readByte_walk (g : Nat) (l : List UInt8) (i : Nat) (p : Addr) (w : World) (hr : ReaderAt w g l i) (hl : l.length ≤ 140737488355328) (hp : EofIs w p) (hg : g ≠ 2) (hi : i ≤ l.length) :
    Calls Tryz.prog 345 #[.pointer (some ⟨g, 0, none⟩)] w
      (ReadPost w g l (min (i + 1) l.length) (.tuple #[.int .u8 ((l.getD i 0).toNat : Int), nextErr l i p])) := by
  obtain ⟨pr, hk⟩ := hr
  have c0 := three0 hk
  have c1 := three1 hk
  have c2 := three2 hk
  have f0 := one_free hk 0
  have f1 := one_free hk 1
  have f2 := one_free hk 2
  have HK := Lib.hid hk
  clear hk
  obtain ⟨w2, hw2⟩ : ∃ w2, w.setCell ⟨g, 2, none⟩ (.int .i64 (-1)) = w2 := ⟨_, rfl⟩
  have k2 : w2.heap[g]? = some (.cells #[.string (S l), .int .i64 i, .int .i64 (-1)] 180 (0, 0)) := by rw [← hw2]; exact cells_set HK.out 2 _
  have hE : w2.cell? ⟨2, 0, none⟩ = some (.iface 145 (.pointer (some p))) := by rw [← hw2]; exact (cell_other (by exact Ne.symm hg)).trans hp
  have hx : Ext (fun b => b = g) w w2 := by rw [← hw2]; exact Ext.setCell (D := fun b => b = g) (Ext.refl _ _) (fun _ => rfl) _
  have hsz : w2.heap.size = w.heap.size := by rw [← hw2]; simp [World.setCell]
  have d0 := three0 k2
  have d1 := three1 k2
  have d2 := three2 k2
  have e0 := one_free k2 0
  have e1 := one_free k2 1
  have K2 := Lib.hid k2
  clear k2
  by_cases h : i < l.length
  · have h' : ¬ (l.length : Int) ≤ i := by omega
    have h2 : (i : Int) < l.length := by omega
    have hd : l.getD i 0 = l[i] := by simp [List.getD_eq_getElem?_getD, List.getElem?_eq_getElem h]
    have hn : nextErr l i p = .nilIface := if_pos h
    rw [hn, hd, Nat.min_eq_left (by omega)]
    go_enter Tryz.func345, Tryz.ntmps345
    go_wp2_with fail
    go_quiet (fail)
    go_wp2_with fail
    have hi0 : (0 : Int) ≤ i := by omega
    go_quiet (fail)
    go_wp2_with fail
    exact bodyPost_ret (v := .tuple #[.int .u8 (l[i].toNat : Int), .nilIface]) (by simp [results, Tryz.results345, go_sem]) rfl
      ⟨rfl, ⟨-1, cells_set (w := w2.drewN _) K2.out 1 (.int .i64 ((i + 1 : Nat) : Int))⟩, (hx.drewN _).setCell (p := ⟨g, 1, none⟩) (fun _ => rfl) _, by simpa [World.setCell] using hsz⟩
  · have h' : (l.length : Int) ≤ i := by omega
    have hn : nextErr l i p = .iface 145 (.pointer (some p)) := if_neg h
    have hd : l.getD i 0 = 0 := by simp [List.getD_eq_getElem?_getD, List.getElem?_eq_none (show l.length ≤ i by omega)]
    have hil : min (i + 1) l.length = i := by omega
    rw [hn, hd, hil]
    clear hn hd hil
    go_enter Tryz.func345, Tryz.ntmps345
    go_wp2_with fail
    go_quiet (fail)
    go_wp2_with fail
    go_quiet (fail)
    go_wp2_with fail
    exact bodyPost_ret (v := .tuple #[.int .u8 0, .iface 145 (.pointer (some p))]) (by simp [results, Tryz.results345, go_sem]) rfl
      ⟨rfl, ⟨-1, K2.out⟩, (hx.drewN _).drewN _, hsz⟩

set_option maxRecDepth 100000 in
set_option maxHeartbeats 1000000 in
theorem unreadByte_walk (g : Nat) (l : List UInt8) (i : Nat) (w : World) (hr : ReaderAt w g l (i + 1)) (hl : l.length ≤ 140737488355328) (hi : i + 1 ≤ l.length) :
    Calls Tryz.prog 346 #[.pointer (some ⟨g, 0, none⟩)] w (ReadPost w g l i .nilIface) := by
  obtain ⟨pr, hk⟩ := hr
  have c1 := three1 hk
  have c2 := three2 hk
  have f1 := one_free hk 1
  have f2 := one_free hk 2
  have hi1 : ((i + 1 : Nat) : Int) = (i : Int) + 1 := by omega
  rw [hi1] at c1
  have h0 : ¬ (i : Int) + 1 ≤ 0 := by omega
  have h3 : (i : Int) + 1 ≤ 140737488355328 := by omega
  have HK := Lib.hid hk
  clear hk
  go_enter Tryz.func346, Tryz.ntmps346
  go_wp2_with fail
  exact bodyPost_ret (v := .nilIface) (by simp [results, Tryz.results346, go_sem]) rfl
    ⟨rfl, ⟨-1, cells_set (cells_set HK.out 2 (.int .i64 (-1))) 1 (.int .i64 (i : Int))⟩, Ext.setCell (D := fun b => b = g) (Ext.setCell (D := fun b => b = g) (Ext.refl _ _) (fun _ => rfl) _) (fun _ => rfl) _, by simp [World.setCell]⟩
end Go.Proofs.YtiohlcfdoleooaaGreatDoor

namespace Go.Proofs.YtiohlcfdoleooaaGreatDoor
open Go.RowKit

set_option maxRecDepth 100000 in
theorem met_read (g : Nat) (w : World) : (method 382 152 (.pointer (some ⟨g, 0, none⟩)) "ReadByte").run Tryz.prog w = .ok (345, .pointer (some ⟨g, 0, none⟩)) w := by kernel_rfl
set_option maxRecDepth 100000 in
theorem met_unread (g : Nat) (w : World) : (method 382 152 (.pointer (some ⟨g, 0, none⟩)) "UnreadByte").run Tryz.prog w = .ok (346, .pointer (some ⟨g, 0, none⟩)) w := by kernel_rfl

set_option maxRecDepth 100000 in
set_option maxHeartbeats 1000000 in
theorem scanSign_walk (g : Nat) (c : UInt8) (l : List UInt8) (p : Addr) (w : World) (hr : ReaderAt w g (c :: l) 0) (hl : (c :: l).length ≤ 140737488355328) (hp : EofIs w p) (hg : g ≠ 2) (hc : c ≠ 43) :
    Calls Tryz.prog 215 #[.iface 152 (.pointer (some ⟨g, 0, none⟩))] w
      (ReadPost w g (c :: l) (if c = 45 then 1 else 0) (.tuple #[.bool (c == 45), .nilIface])) := by
  have m1 := met_read g
  have hn : nextErr (c :: l) 0 p = .nilIface := if_pos (by simp)
  have m2 := met_unread g
  have hcb : ((c.toNat : Int) == 43) = false := by
    have : ¬ ((c.toNat : Int) = 43) := fun k => hc (UInt8.toNat_inj.1 (show c.toNat = 43 by omega))
    exact beq_eq_false_iff_ne.2 this
  by_cases h : c = 45
  · subst h
    rw [if_pos rfl]
    go_enter Tryz.func215, Tryz.ntmps215
    go_wp2_with fail
    refine (readByte_walk g _ 0 p _ hr hl hp hg (Nat.zero_le _)).mono ?_
    rw [hn]
    rintro e w1 ⟨rfl, hr1, hx1, hs1⟩
    go_wp2_with fail
    have e1 : min (0 + 1) (45 :: l).length = 1 := by simp
    rw [e1] at hr1
    exact bodyPost_ret (v := .tuple #[.bool true, .nilIface]) (by simp [results, Tryz.results215, go_sem]) rfl ⟨rfl, hr1, hx1, hs1⟩
  · have hcb2 : ((c.toNat : Int) == 45) = false := by
      have : ¬ ((c.toNat : Int) = 45) := fun k => h (UInt8.toNat_inj.1 (show c.toNat = 45 by omega))
      exact beq_eq_false_iff_ne.2 this
    have hcb3 : (c == 45) = false := beq_eq_false_iff_ne.2 h
    rw [if_neg h, hcb3]
    go_enter Tryz.func215, Tryz.ntmps215
    go_wp2_with fail
    refine (readByte_walk g _ 0 p _ hr hl hp hg (Nat.zero_le _)).mono ?_
    rw [hn]
    rintro e w1 ⟨rfl, hr1, hx1, hs1⟩
    go_wp2_with fail
    have e1 : min (0 + 1) (c :: l).length = 0 + 1 := by simp
    rw [e1] at hr1
    refine (unreadByte_walk g _ 0 _ hr1 hl (by simp)).mono ?_
    rintro e w2 ⟨rfl, hr2, hx2, hs2⟩
    go_wp2_with fail
    exact bodyPost_ret (v := .tuple #[.bool false, .nilIface]) (by simp [results, Tryz.results215, go_sem]) rfl ⟨rfl, hr2, hx1.trans hx2, hs2.trans hs1⟩
end Go.Proofs.YtiohlcfdoleooaaGreatDoor
