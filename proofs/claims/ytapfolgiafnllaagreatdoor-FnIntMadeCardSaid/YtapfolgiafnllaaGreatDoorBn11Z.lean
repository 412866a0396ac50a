/-
  A block of numbers in memory.
  strings.Reader.
  scanSign.
-/
import Derived.Test.YtapfolgiafnllaaGreatDoorSpecCmp2Z
import Derived.Deep.OwnRows
namespace Go.Proofs.YtapfolgiafnllaaGreatDoor
open Go.RowKit

def idxOf (n : Nat) : Value → Nat | .int _ k => n - k.toNat | _ => 0
def nums (k : IntKind) (ds : List Nat) : List Value := ds.map fun (d : Nat) => Value.int k (d : Int)
theorem nums_u8s (ds : List Nat) : u8s ds = nums .u8 ds := rfl
theorem nums_length (k : IntKind) (ds : List Nat) : (nums k ds).length = ds.length := by simp [nums]
/-- Block g holds the numbers xs. -/
def Row (w : World) (g : Nat) (k : IntKind) (T : TypeId) (xs : List Nat) : Prop := w.heap[g]? = some (.cells (nums k xs).toArray T (0, 0))
theorem Row.lt {w : World} {g : Nat} {k : IntKind} {T : TypeId} {xs : List Nat} (h : Row w g k T xs) : g < w.heap.size := iter_lt h
theorem Row.cell {w : World} {g : Nat} {k : IntKind} {T : TypeId} {xs : List Nat} (h : Row w g k T xs) {j : Nat} (hj : j < xs.length) : w.cell? ⟨g, j, none⟩ = some (.int k (xs[j] : Int)) := by
  have h1 : w.heap[g]? = some (.cells (nums k xs).toArray T (0, 0)) := h
  simp [World.cell?, h1, nums, hj]
theorem Row.free {w : World} {g : Nat} {k : IntKind} {T : TypeId} {xs : List Nat} (h : Row w g k T xs) (j : Nat) : w.frozen? ⟨g, j, none⟩ = false := one_free h j
theorem Row.set {w : World} {g : Nat} {k : IntKind} {T : TypeId} {xs : List Nat} (h : Row w g k T xs) (j v : Nat) : Row (w.setCell ⟨g, j, none⟩ (.int k (v : Int))) g k T (xs.set j v) := by
  have h2 := cells_set h j (.int k (v : Int))
  unfold Row
  rw [h2]
  congr 2
  simp [nums, List.map_set]
theorem Row.drew {w : World} {g : Nat} {k : IntKind} {T : TypeId} {xs : List Nat} (h : Row w g k T xs) (n : Nat) : Row (w.drewN n) g k T xs := h
theorem Row.block {w w' : World} {B g : Nat} {k : IntKind} {T : TypeId} {xs : List Nat} (h : Row w g k T xs) (hb : Below B w w') (hg : g < B) : Row w' g k T xs := (hb.block g hg).trans h
theorem Row.alloc {w : World} {g : Nat} {k : IntKind} {T : TypeId} {xs : List Nat} (h : Row w g k T xs) (o : Obj) : Row (w.alloc o) g k T xs := heap_old h
theorem Row.below {w w' : World} {g : Nat} {k : IntKind} {T : TypeId} {xs : List Nat} (h : Row w g k T xs) (hb : Below w.heap.size w w') : Row w' g k T xs := h.block hb h.lt
theorem Row.other {w : World} {g : Nat} {k : IntKind} {T : TypeId} {xs : List Nat} (h : Row w g k T xs) {p : Addr} (u : Value) (hp : g ≠ p.block) : Row (w.setCell p u) g k T xs := (one_other hp).trans h
theorem row_made (w : World) (k : IntKind) (n : Nat) (T : TypeId) : Row (w.alloc (.cells (madeCells #[.int k 0] n) T)) w.heap.size k T (List.replicate n 0) := by
  unfold Row
  rw [heap_here]
  congr 2
  apply Array.ext
  · simp [madeCells, nums]
  · intro i h1 h2
    simp [madeCells, nums, Nat.mod_one]
theorem add_off (g o j : Nat) : (⟨g, o, none⟩ : Addr).add j = ⟨g, o + j, none⟩ := by
  unfold Addr.add
  by_cases h : j = 0
  · subst h; simp
  · rw [if_neg h]
theorem Row.rd {w : World} {g : Nat} {k : IntKind} {T : TypeId} {xs : List Nat} (h : Row w g k T xs) (o : Nat) : Rd w (some ⟨g, o, none⟩) (nums k (xs.drop o)) := by
  right
  refine ⟨_, rfl, fun j u hu => ?_⟩
  rw [add_off]
  simp only [nums, List.getElem?_map, List.getElem?_drop, Option.map_eq_some_iff] at hu
  obtain ⟨d, hd, rfl⟩ := hu
  obtain ⟨hlt, rfl⟩ := List.getElem?_eq_some_iff.1 hd
  exact h.cell hlt
theorem Rd.take {w : World} {A : Option Addr} {k : IntKind} {xs : List Nat} (h : Rd w A (nums k xs)) (n : Nat) : Rd w A (nums k (xs.take n)) := by
  have e : nums k xs = nums k (xs.take n) ++ nums k (xs.drop n) := by rw [nums, nums, nums, ← List.map_append, List.take_append_drop]
  rw [e] at h
  exact h.prefix
theorem rd_cell {w : World} {A : Option Addr} {k : IntKind} {ds : List Nat} (hr : Rd w A (nums k ds)) {j : Nat} (hj : j < ds.length) : ∃ a, A = some a ∧ w.cell? (a.add j) = some (.int k (ds[j] : Int)) := by
  rcases hr with h | ⟨a, rfl, h⟩
  · have := congrArg List.length h
    simp [nums] at this
    subst this
    simp at hj
  · exact ⟨a, rfl, h j _ (by simp [nums, List.getElem?_eq_getElem hj])⟩
/-- What has been read lies in old memory, which a store into another block leaves. -/
theorem Rd.other {w : World} {A : Option Addr} {vs : List Value} (h : Rd w A vs) {p : Addr} (u : Value) (hp : ∀ a, A = some a → a.block ≠ p.block) : Rd (w.setCell p u) A vs := by
  rcases h with h | ⟨a, rfl, h⟩
  · exact .inl h
  · exact .inr ⟨a, rfl, fun j v hv => by rw [cell_other (by rw [add_block]; exact hp a rfl)]; exact h j v hv⟩
theorem Rd.lt {w : World} {A : Option Addr} {vs : List Value} (h : Rd w A vs) (hne : vs ≠ []) : ∃ a, A = some a ∧ a.block < w.heap.size := by
  rcases h with h | ⟨a, rfl, h⟩
  · exact absurd h hne
  · cases vs with
    | nil => exact absurd rfl hne
    | cons v t =>
      have := World.block_lt_of_cell? w _ (h 0 v rfl)
      rw [add_block] at this
      exact ⟨a, rfl, this⟩
theorem valD_set {b : Nat} : ∀ (xs : List Nat) (j v : Nat) (h : j < xs.length), valD b (xs.set j (xs[j] + v)) = valD b xs + b ^ j * v
  | x :: r, 0, v, _ => by simp [valD]; omega
  | x :: r, j + 1, v, h => by
    have := valD_set (b := b) r j v (by simpa using h)
    simp only [List.set_cons_succ, List.getElem_cons_succ, valD, this, Nat.pow_succ]
    rw [Nat.mul_add, ← Nat.mul_assoc, Nat.mul_comm b (b ^ j), Nat.add_assoc]
theorem valD_replicate (b n : Nat) : valD b (List.replicate n 0) = 0 := by
  induction n with
  | zero => rfl
  | succ n ih => rw [List.replicate_succ]; simp [valD, ih]
theorem valD_take_succ {b : Nat} {xs : List Nat} {k : Nat} (h : k < xs.length) : valD b (xs.take (k + 1)) = valD b (xs.take k) + b ^ k * xs[k] := by
  have e : xs.take (k + 1) = xs.take k ++ [xs[k]] := by rw [List.take_add_one, List.getElem?_eq_getElem h]; rfl
  rw [e, valD_append]
  simp [valD, List.length_take, Nat.min_eq_left (Nat.le_of_lt h)]
end Go.Proofs.YtapfolgiafnllaaGreatDoor

namespace Go.Proofs.YtapfolgiafnllaaGreatDoor
open Go.RowKit

/-- Block g is a reader of l, at place i. -/
def ReaderAt (w : World) (g : Nat) (l : List UInt8) (i : Nat) : Prop := ∃ pr : Int, w.heap[g]? = some (.cells #[.string (S l), .int .i64 i, .int .i64 pr] 143 (0, 0))
/-- io.EOF is v. -/
def EofIs (w : World) (p : Addr) : Prop := w.cell? ⟨2, 0, none⟩ = some (.iface 117 (.pointer (some p)))
theorem EofIs.lt {w : World} {p : Addr} (h : EofIs w p) : 2 < w.heap.size := World.block_lt_of_cell? w _ h
theorem EofIs.ext {D : Nat → Prop} {w w' : World} {p : Addr} (h : EofIs w p) (he : Ext D w w') (hd : ¬ D 2) : EofIs w' p := (World.cell?_of_block (he.block _ h.lt hd)).trans h
theorem EofIs.below {w w' : World} {p : Addr} (h : EofIs w p) (hb : Below w.heap.size w w') : EofIs w' p := (hb.cell (by exact h.lt)).trans h
theorem ReaderAt.lt {w : World} {g : Nat} {l : List UInt8} {i : Nat} (h : ReaderAt w g l i) : g < w.heap.size := by obtain ⟨_, h⟩ := h; exact iter_lt h
theorem three0 {w : World} {g : Nat} {a b c : Value} {T : TypeId} (h : w.heap[g]? = some (.cells #[a, b, c] T (0, 0))) : w.cell? ⟨g, 0, none⟩ = some a := by simp [World.cell?, h]
theorem three1 {w : World} {g : Nat} {a b c : Value} {T : TypeId} (h : w.heap[g]? = some (.cells #[a, b, c] T (0, 0))) : w.cell? ⟨g, 1, none⟩ = some b := by simp [World.cell?, h]
theorem three2 {w : World} {g : Nat} {a b c : Value} {T : TypeId} (h : w.heap[g]? = some (.cells #[a, b, c] T (0, 0))) : w.cell? ⟨g, 2, none⟩ = some c := by simp [World.cell?, h]
theorem ReaderAt.ext {D : Nat → Prop} {w w' : World} {g : Nat} {l : List UInt8} {i : Nat} (h : ReaderAt w g l i) (he : Ext D w w') (hd : ¬ D g) : ReaderAt w' g l i := by
  obtain ⟨pr, h⟩ := h
  exact ⟨pr, (he.block _ (iter_lt h) hd).trans h⟩

set_option maxRecDepth 100000 in
set_option maxHeartbeats 1000000 in
theorem newReader_walk (l : List UInt8) (w : World) :
    Calls Tryz.prog 119 #[.string (S l)] w fun e w' => e = .returned (.pointer (some ⟨w.heap.size, 0, none⟩)) ∧ ReaderAt w' w.heap.size l 0 ∧ Below w.heap.size w w' := by
  go_enter Tryz.func119, Tryz.ntmps119
  go_wp2_with fail
  go_ret
  exact ⟨rfl, ⟨-1, heap_here _ _⟩, below_a1 _ _⟩

/-- The error that reading at place j gives. -/
def nextErr (l : List UInt8) (j : Nat) (p : Addr) : Value := if j < l.length then .nilIface else .iface 117 (.pointer (some p))
/-- What ReadByte leaves behind. -/
def ReadPost (w : World) (g : Nat) (l : List UInt8) (i : Nat) (v : Value) (e : Ending) (w' : World) : Prop := e = .returned v ∧ ReaderAt w' g l i ∧ Ext (fun b => b = g) w w' ∧ w'.heap.size = w.heap.size

set_option maxRecDepth 100000 in
set_option maxHeartbeats 1000000 in
theorem readByte_walk (g : Nat) (l : List UInt8) (i : Nat) (p : Addr) (w : World) (hr : ReaderAt w g l i) (hl : l.length ≤ 140737488355328) (hp : EofIs w p) (hg : g ≠ 2) (hi : i ≤ l.length) :
    Calls Tryz.prog 272 #[.pointer (some ⟨g, 0, none⟩)] w
      (ReadPost w g l (min (i + 1) l.length) (.tuple #[.int .u8 ((l.getD i 0).toNat : Int), nextErr l i p])) := by
  obtain ⟨pr, hk⟩ := hr
  have c0 := three0 hk
  have c1 := three1 hk
  have c2 := three2 hk
  have f0 := one_free hk 0
  have f1 := one_free hk 1
  have f2 := one_free hk 2
  have HK := Lib.hid hk
  clear hk
  obtain ⟨w2, hw2⟩ : ∃ w2, w.setCell ⟨g, 2, none⟩ (.int .i64 (-1)) = w2 := ⟨_, rfl⟩
  have k2 : w2.heap[g]? = some (.cells #[.string (S l), .int .i64 i, .int .i64 (-1)] 143 (0, 0)) := by rw [← hw2]; exact cells_set HK.out 2 _
  have hE : w2.cell? ⟨2, 0, none⟩ = some (.iface 117 (.pointer (some p))) := by rw [← hw2]; exact (cell_other (by exact Ne.symm hg)).trans hp
  have hx : Ext (fun b => b = g) w w2 := by rw [← hw2]; exact Ext.setCell (D := fun b => b = g) (Ext.refl _ _) (fun _ => rfl) _
  have hsz : w2.heap.size = w.heap.size := by rw [← hw2]; simp [World.setCell]
  have d0 := three0 k2
  have d1 := three1 k2
  have d2 := three2 k2
  have e0 := one_free k2 0
  have e1 := one_free k2 1
  have K2 := Lib.hid k2
  clear k2
  by_cases h : i < l.length
  · have h' : ¬ (l.length : Int) ≤ i := by omega
    have h2 : (i : Int) < l.length := by omega
    have hd : l.getD i 0 = l[i] := by simp [List.getD_eq_getElem?_getD, List.getElem?_eq_getElem h]
    have hn : nextErr l i p = .nilIface := if_pos h
    rw [hn, hd, Nat.min_eq_left (by omega)]
    go_enter Tryz.func272, Tryz.ntmps272
    go_wp2_with fail
    go_quiet (fail)
    go_wp2_with fail
    have hi0 : (0 : Int) ≤ i := by omega
    go_quiet (fail)
    go_wp2_with fail
    exact bodyPost_ret (v := .tuple #[.int .u8 (l[i].toNat : Int), .nilIface]) (by simp [results, Tryz.results272, go_sem]) rfl
      ⟨rfl, ⟨-1, cells_set (w := w2.drewN _) K2.out 1 (.int .i64 ((i + 1 : Nat) : Int))⟩, (hx.drewN _).setCell (p := ⟨g, 1, none⟩) (fun _ => rfl) _, by simpa [World.setCell] using hsz⟩
  · have h' : (l.length : Int) ≤ i := by omega
    have hn : nextErr l i p = .iface 117 (.pointer (some p)) := if_neg h
    have hd : l.getD i 0 = 0 := by simp [List.getD_eq_getElem?_getD, List.getElem?_eq_none (show l.length ≤ i by omega)]
    have hil : min (i + 1) l.length = i := by omega
    rw [hn, hd, hil]
    clear hn hd hil
    go_enter Tryz.func272, Tryz.ntmps272
    go_wp2_with fail
    go_quiet (fail)
    go_wp2_with fail
    go_quiet (fail)
    go_wp2_with fail
    exact bodyPost_ret (v := .tuple #[.int .u8 0, .iface 117 (.pointer (some p))]) (by simp [results, Tryz.results272, go_sem]) rfl
      ⟨rfl, ⟨-1, K2.out⟩, (hx.drewN _).drewN _, hsz⟩

set_option maxRecDepth 100000 in
set_option maxHeartbeats 1000000 in
theorem unreadByte_walk (g : Nat) (l : List UInt8) (i : Nat) (w : World) (hr : ReaderAt w g l (i + 1)) (hl : l.length ≤ 140737488355328) (hi : i + 1 ≤ l.length) :
    Calls Tryz.prog 273 #[.pointer (some ⟨g, 0, none⟩)] w (ReadPost w g l i .nilIface) := by
  obtain ⟨pr, hk⟩ := hr
  have c1 := three1 hk
  have c2 := three2 hk
  have f1 := one_free hk 1
  have f2 := one_free hk 2
  have hi1 : ((i + 1 : Nat) : Int) = (i : Int) + 1 := by omega
  rw [hi1] at c1
  have h0 : ¬ (i : Int) + 1 ≤ 0 := by omega
  have h3 : (i : Int) + 1 ≤ 140737488355328 := by omega
  have HK := Lib.hid hk
  clear hk
  go_enter Tryz.func273, Tryz.ntmps273
  go_wp2_with fail
  exact bodyPost_ret (v := .nilIface) (by simp [results, Tryz.results273, go_sem]) rfl
    ⟨rfl, ⟨-1, cells_set (cells_set HK.out 2 (.int .i64 (-1))) 1 (.int .i64 (i : Int))⟩, Ext.setCell (D := fun b => b = g) (Ext.setCell (D := fun b => b = g) (Ext.refl _ _) (fun _ => rfl) _) (fun _ => rfl) _, by simp [World.setCell]⟩
end Go.Proofs.YtapfolgiafnllaaGreatDoor

namespace Go.Proofs.YtapfolgiafnllaaGreatDoor
open Go.RowKit

set_option maxRecDepth 100000 in
theorem met_read (g : Nat) (w : World) : (method 345 115 (.pointer (some ⟨g, 0, none⟩)) "ReadByte").run Tryz.prog w = .ok (272, .pointer (some ⟨g, 0, none⟩)) w := by kernel_rfl
set_option maxRecDepth 100000 in
theorem met_unread (g : Nat) (w : World) : (method 345 115 (.pointer (some ⟨g, 0, none⟩)) "UnreadByte").run Tryz.prog w = .ok (273, .pointer (some ⟨g, 0, none⟩)) w := by kernel_rfl

set_option maxRecDepth 100000 in
set_option maxHeartbeats 1000000 in
theorem scanSign_walk (g : Nat) (c : UInt8) (l : List UInt8) (p : Addr) (w : World) (hr : ReaderAt w g (c :: l) 0) (hl : (c :: l).length ≤ 140737488355328) (hp : EofIs w p) (hg : g ≠ 2) (hc : c ≠ 43) :
    Calls Tryz.prog 178 #[.iface 115 (.pointer (some ⟨g, 0, none⟩))] w
      (ReadPost w g (c :: l) (if c = 45 then 1 else 0) (.tuple #[.bool (c == 45), .nilIface])) := by
  have m1 := met_read g
  have hn : nextErr (c :: l) 0 p = .nilIface := if_pos (by simp)
  have m2 := met_unread g
  have hcb : ((c.toNat : Int) == 43) = false := by
    have : ¬ ((c.toNat : Int) = 43) := fun k => hc (UInt8.toNat_inj.1 (show c.toNat = 43 by omega))
    exact beq_eq_false_iff_ne.2 this
  by_cases h : c = 45
  · subst h
    rw [if_pos rfl]
    go_enter Tryz.func178, Tryz.ntmps178
    go_wp2_with fail
    refine (readByte_walk g _ 0 p _ hr hl hp hg (Nat.zero_le _)).mono ?_
    rw [hn]
    rintro e w1 ⟨rfl, hr1, hx1, hs1⟩
    go_wp2_with fail
    have e1 : min (0 + 1) (45 :: l).length = 1 := by simp
    rw [e1] at hr1
    exact bodyPost_ret (v := .tuple #[.bool true, .nilIface]) (by simp [results, Tryz.results178, go_sem]) rfl ⟨rfl, hr1, hx1, hs1⟩
  · have hcb2 : ((c.toNat : Int) == 45) = false := by
      have : ¬ ((c.toNat : Int) = 45) := fun k => h (UInt8.toNat_inj.1 (show c.toNat = 45 by omega))
      exact beq_eq_false_iff_ne.2 this
    have hcb3 : (c == 45) = false := beq_eq_false_iff_ne.2 h
    rw [if_neg h, hcb3]
    go_enter Tryz.func178, Tryz.ntmps178
    go_wp2_with fail
    refine (readByte_walk g _ 0 p _ hr hl hp hg (Nat.zero_le _)).mono ?_
    rw [hn]
    rintro e w1 ⟨rfl, hr1, hx1, hs1⟩
    go_wp2_with fail
    have e1 : min (0 + 1) (c :: l).length = 0 + 1 := by simp
    rw [e1] at hr1
    refine (unreadByte_walk g _ 0 _ hr1 hl (by simp)).mono ?_
    rintro e w2 ⟨rfl, hr2, hx2, hs2⟩
    go_wp2_with fail
    exact bodyPost_ret (v := .tuple #[.bool false, .nilIface]) (by simp [results, Tryz.results178, go_sem]) rfl ⟨rfl, hr2, hx1.trans hx2, hs2.trans hs1⟩
end Go.Proofs.YtapfolgiafnllaaGreatDoor

/-
  Long division by a guessed digit, in plain numbers.
-/
namespace Go.Proofs.YtapfolgiafnllaaGreatDoor

theorem hd_mul (q y1 y0 B : Nat) : q * (y1 * B + y0) = q * y1 * B + q * y0 := by rw [Nat.mul_add, Nat.mul_assoc]
/-- The guess is right when the test fails. -/
theorem hd_stop {B n d y1 y0 q r : Nat} (he : q * y1 + r = n) (ht : q * y0 ≤ r * B + d) (hy : 0 < y1 * B + y0) (hQ : (n * B + d) / (y1 * B + y0) ≤ q) : q = (n * B + d) / (y1 * B + y0) := by
  refine Nat.le_antisymm ?_ hQ
  rw [Nat.le_div_iff_mul_le hy, hd_mul]
  have e2 : n * B = q * y1 * B + r * B := by rw [← he, Nat.add_mul]
  rw [e2]
  omega
theorem hd_lt {B n d y : Nat} (hn : n < y) (hd : d < B) : (n * B + d) / y < B := by
  rw [Nat.div_lt_iff_lt_mul (by omega)]
  have h1 : (n + 1) * B ≤ y * B := Nat.mul_le_mul_right _ hn
  rw [Nat.succ_mul] at h1
  rw [Nat.mul_comm B y]
  omega
/-- The guess is too great when the test holds. -/
theorem hd_go {B n d y1 y0 q r : Nat} (he : q * y1 + r = n) (ht : B ≤ q ∨ r * B + d < q * y0) (hn : n < y1 * B + y0) (hd : d < B) (hQ : (n * B + d) / (y1 * B + y0) ≤ q) : (n * B + d) / (y1 * B + y0) + 1 ≤ q := by
  refine Nat.lt_of_le_of_ne hQ fun e => ?_
  have hlt := hd_lt hn hd
  have hle : q * (y1 * B + y0) ≤ n * B + d := by
    have := Nat.div_mul_le_self (n * B + d) (y1 * B + y0)
    rw [e] at this
    exact this
  rw [hd_mul] at hle
  have e2 : n * B = q * y1 * B + r * B := by rw [← he, Nat.add_mul]
  rw [e2] at hle
  rcases ht with ht | ht <;> omega
/-- The guess is right when the rest has outgrown a digit. -/
theorem hd_brk {B n d y1 y0 q r : Nat} (he : q * y1 + r = n) (hr : B ≤ r) (hq : q ≤ B) (hy0 : y0 < B) (hQ : (n * B + d) / (y1 * B + y0) ≤ q) (hy : 0 < y1 * B + y0) : q = (n * B + d) / (y1 * B + y0) := by
  refine hd_stop he ?_ hy hQ
  have h1 : q * y0 ≤ B * B := Nat.mul_le_mul hq (Nat.le_of_lt hy0)
  have h2 : B * B ≤ r * B := Nat.mul_le_mul_right _ hr
  omega
/-- The first guess is not too small. -/
theorem hd_first {B n d y1 y0 : Nat} (hy1 : 0 < y1) (hd : d < B) : (n * B + d) / (y1 * B + y0) ≤ n / y1 := by
  have hB : 0 < B := by omega
  rw [Nat.le_div_iff_mul_le hy1]
  have h1 := Nat.div_mul_le_self (n * B + d) (y1 * B + y0)
  obtain ⟨q, hq⟩ : ∃ q, (n * B + d) / (y1 * B + y0) = q := ⟨_, rfl⟩
  rw [hq] at h1 ⊢
  rw [hd_mul] at h1
  refine Nat.le_of_not_lt fun h => ?_
  have h2 : (n + 1) * B ≤ q * y1 * B := Nat.mul_le_mul_right _ h
  rw [Nat.succ_mul] at h2
  omega
/-- The first guess is at most one above the base. -/
theorem hd_top {B n y1 y0 : Nat} (hn : n < y1 * B + y0) (hy0 : y0 < B) (hB : B ≤ 2 * y1) (hy1 : 0 < y1) : n / y1 ≤ B + 1 := by
  have h : n / y1 < B + 2 := by
    rw [Nat.div_lt_iff_lt_mul hy1, Nat.add_mul, Nat.mul_comm B y1]
    omega
  omega

/-- The guess from the first three digits is not too small .. -/
theorem q3_ge {P U3 Ul V2 Vl : Nat} (hU : Ul < P) (hV : 0 < V2) : (U3 * P + Ul) / (V2 * P + Vl) ≤ U3 / V2 := by
  rw [Nat.le_div_iff_mul_le hV]
  have h1 := Nat.div_mul_le_self (U3 * P + Ul) (V2 * P + Vl)
  obtain ⟨q, hq⟩ : ∃ q, (U3 * P + Ul) / (V2 * P + Vl) = q := ⟨_, rfl⟩
  rw [hq] at h1 ⊢
  rw [hd_mul] at h1
  refine Nat.le_of_not_lt fun h => ?_
  have h2 : (U3 + 1) * P ≤ q * V2 * P := Nat.mul_le_mul_right _ h
  rw [Nat.succ_mul] at h2
  omega
/-- .. and at most one too great. -/
theorem q3_le {B P U3 Ul V2 Vl : Nat} (hVl : Vl < P) (hV : B ≤ V2) (hq : U3 / V2 ≤ B) (hV0 : 0 < V2) : U3 / V2 ≤ (U3 * P + Ul) / (V2 * P + Vl) + 1 := by
  have h1 := Nat.div_mul_le_self U3 V2
  obtain ⟨t, ht⟩ : ∃ t, U3 / V2 = t := ⟨_, rfl⟩
  rw [ht] at h1 hq ⊢
  rcases Nat.eq_zero_or_pos t with h0 | h0
  · rw [h0]; exact Nat.zero_le _
  obtain ⟨s, rfl⟩ : ∃ s, t = s + 1 := ⟨t - 1, by omega⟩
  have hP : 0 < P := by omega
  have hpos : 0 < V2 * P + Vl := by have := Nat.mul_pos hV0 hP; omega
  refine Nat.succ_le_succ ?_
  rw [Nat.le_div_iff_mul_le hpos, hd_mul]
  have h2 : (s + 1) * V2 * P ≤ U3 * P := Nat.mul_le_mul_right _ h1
  rw [Nat.succ_mul, Nat.add_mul] at h2
  have h3 : s * Vl ≤ B * P := Nat.mul_le_mul (by omega) (Nat.le_of_lt hVl)
  have h4 : B * P ≤ V2 * P := Nat.mul_le_mul_right _ hV
  omega
/-- Where the first digits are the same, the guess is the greatest digit. -/
theorem qm_le {B P v1 Ul Vl : Nat} (hVl : Vl < P) (hB : B ≤ 2 * v1 + 2) (hB2 : 2 ≤ B) (hv : 0 < v1) : B - 1 ≤ (v1 * B * P + Ul) / (v1 * P + Vl) + 1 := by
  obtain ⟨b, rfl⟩ : ∃ b, B = b + 2 := ⟨B - 2, by omega⟩
  have hP : 0 < P := by omega
  have hpos : 0 < v1 * P + Vl := by have := Nat.mul_pos hv hP; omega
  refine Nat.succ_le_succ ?_
  rw [Nat.le_div_iff_mul_le hpos, hd_mul]
  have h3 : b * Vl ≤ (2 * v1) * P := Nat.mul_le_mul (by omega) (Nat.le_of_lt hVl)
  have e : v1 * (b + 2) * P = b * v1 * P + 2 * v1 * P := by rw [Nat.mul_add, Nat.add_mul, Nat.mul_comm v1 b, Nat.mul_comm v1 2]
  rw [e]
  omega
theorem qm_ge {B U V : Nat} (h : U < V * B) (hB : 0 < B) : U / V ≤ B - 1 := by
  have : U / V < B := Nat.div_lt_of_lt_mul h
  omega
/-- A guess that is right or one too great: the one, if nothing is borrowed. -/
theorem guess_right {U V q : Nat} (hV : 0 < V) (h1 : U / V ≤ q) (hle : q * V ≤ U) : q = U / V ∧ U - q * V = U % V := by
  have h2 : q ≤ U / V := (Nat.le_div_iff_mul_le hV).2 hle
  have e : q = U / V := Nat.le_antisymm h2 h1
  refine ⟨e, ?_⟩
  have := Nat.div_add_mod U V
  rw [← e, Nat.mul_comm] at this
  omega
theorem guess_over {U V q : Nat} (h2 : q ≤ U / V + 1) (hgt : U < q * V) : q = U / V + 1 ∧ U + V - q * V = U % V ∧ q * V ≤ U + V := by
  have h3 := Nat.div_mul_le_self U V
  have h4 : ¬ q ≤ U / V := fun h => by
    have := Nat.mul_le_mul_right V h
    omega
  have e : q = U / V + 1 := by omega
  have h5 := Nat.div_add_mod U V
  have e2 : q * V = U / V * V + V := by rw [e, Nat.succ_mul]
  rw [Nat.mul_comm] at h5
  refine ⟨e, ?_, ?_⟩ <;> rw [e2] <;> omega

/-- 128 bits by 64, digit by digit of 32 bits. -/
theorem div_join {B n d1 d0 y : Nat} : ((n * B + d1) / y) * B + (((n * B + d1) % y) * B + d0) / y = (n * (B * B) + (d1 * B + d0)) / y ∧ (((n * B + d1) % y) * B + d0) % y = (n * (B * B) + (d1 * B + d0)) % y := by
  have h := Nat.div_add_mod (n * B + d1) y
  obtain ⟨q, hq⟩ : ∃ q, (n * B + d1) / y = q := ⟨_, rfl⟩
  obtain ⟨r, hr⟩ : ∃ r, (n * B + d1) % y = r := ⟨_, rfl⟩
  rw [hq, hr] at h ⊢
  have e : n * (B * B) + (d1 * B + d0) = (r * B + d0) + y * (q * B) := by
    have h2 : (y * q + r) * B = (n * B + d1) * B := by rw [h]
    rw [Nat.add_mul, Nat.add_mul, Nat.mul_assoc, Nat.mul_assoc] at h2
    omega
  rw [e]
  rcases Nat.eq_zero_or_pos y with h0 | h0
  · subst h0
    simp at h
    have : q = 0 := by rw [← hq]; simp
    subst this
    simp
  · rw [Nat.add_mul_div_left _ _ h0, Nat.add_mul_mod_self_left]
    exact ⟨by omega, rfl⟩
end Go.Proofs.YtapfolgiafnllaaGreatDoor

/-
  Numbers in words, shifted by less than a word.
-/
namespace Go.Proofs.YtapfolgiafnllaaGreatDoor

/-- Words to the left by s bits, c coming in. -/
def lshC (s : Nat) : Nat → List Nat → List Nat
  | _, [] => []
  | c, x :: r => (x * 2 ^ s % 18446744073709551616 + c) :: lshC s (x / 2 ^ (64 - s)) r
/-- What goes out at the top. -/
def lshOut (s : Nat) : Nat → List Nat → Nat
  | c, [] => c
  | _, x :: r => lshOut s (x / 2 ^ (64 - s)) r
/-- Words to the right by s bits. -/
def rshC (s : Nat) : List Nat → List Nat
  | [] => []
  | x :: r => (x / 2 ^ s + r.headD 0 * 2 ^ (64 - s) % 18446744073709551616) :: rshC s r
theorem pow_split {s : Nat} (hs : s ≤ 64) : 2 ^ s * 2 ^ (64 - s) = 18446744073709551616 := by
  rw [← Nat.pow_add, show s + (64 - s) = 64 by omega]
theorem lsh_word {s : Nat} (hs : s ≤ 64) (x : Nat) : x * 2 ^ s = x * 2 ^ s % 18446744073709551616 + 18446744073709551616 * (x / 2 ^ (64 - s)) := by
  have h := Nat.mod_add_div (x * 2 ^ s) 18446744073709551616
  have e : x * 2 ^ s / 18446744073709551616 = x / 2 ^ (64 - s) := by
    rw [← pow_split hs, Nat.mul_comm x, Nat.mul_div_mul_left _ _ (Nat.pow_pos (by decide))]
  rw [e] at h
  exact h.symm
theorem lshC_length (s : Nat) : ∀ (c : Nat) (xs : List Nat), (lshC s c xs).length = xs.length
  | _, [] => rfl
  | c, x :: r => by simp [lshC, lshC_length s _ r]
theorem rshC_length (s : Nat) : ∀ (xs : List Nat), (rshC s xs).length = xs.length
  | [] => rfl
  | x :: r => by simp [rshC, rshC_length s r]
theorem lshC_val {s : Nat} (hs : s ≤ 64) : ∀ (c : Nat) (xs : List Nat), valD 18446744073709551616 (lshC s c xs) + 18446744073709551616 ^ xs.length * lshOut s c xs = valD 18446744073709551616 xs * 2 ^ s + c
  | c, [] => by simp [lshC, lshOut, valD]
  | c, x :: r => by
    have ih := lshC_val hs (x / 2 ^ (64 - s)) r
    have hw := lsh_word hs x
    simp only [lshC, lshOut, valD, List.length_cons]
    obtain ⟨V, hV⟩ : ∃ V, valD 18446744073709551616 (lshC s (x / 2 ^ (64 - s)) r) = V := ⟨_, rfl⟩
    obtain ⟨O, hO⟩ : ∃ O, lshOut s (x / 2 ^ (64 - s)) r = O := ⟨_, rfl⟩
    rw [hV, hO] at ih ⊢
    rw [Nat.pow_succ, Nat.add_mul, Nat.mul_assoc 18446744073709551616 (valD _ r) (2 ^ s)]
    have e1 : 18446744073709551616 ^ r.length * 18446744073709551616 * O = 18446744073709551616 * (18446744073709551616 ^ r.length * O) := by
      rw [Nat.mul_comm (18446744073709551616 ^ r.length) 18446744073709551616, Nat.mul_assoc]
    rw [e1]
    omega
theorem lshC_lt {s : Nat} (hs : s < 64) : ∀ (c : Nat) (xs : List Nat), c < 2 ^ s → (∀ d ∈ xs, d < 18446744073709551616) → ∀ d ∈ lshC s c xs, d < 18446744073709551616
  | _, [], _, _ => by simp [lshC]
  | c, x :: r, hc, hx => by
    intro d hd
    simp only [lshC, List.mem_cons] at hd
    have h1 : x / 2 ^ (64 - s) < 2 ^ s := by
      rw [Nat.div_lt_iff_lt_mul (Nat.pow_pos (by decide)), pow_split (Nat.le_of_lt hs)]
      exact hx x (by simp)
    rcases hd with rfl | hd
    · have h2 : x * 2 ^ s % 18446744073709551616 = 2 ^ s * (x % 2 ^ (64 - s)) := by
        rw [← pow_split (Nat.le_of_lt hs), Nat.mul_comm x, Nat.mul_mod_mul_left]
      have h3 : x % 2 ^ (64 - s) + 1 ≤ 2 ^ (64 - s) := Nat.mod_lt _ (Nat.pow_pos (by decide))
      have h4 := Nat.mul_le_mul_left (2 ^ s) h3
      rw [pow_split (Nat.le_of_lt hs), Nat.mul_add, Nat.mul_one, ← h2] at h4
      omega
    · exact lshC_lt hs _ r h1 (fun d hd => hx d (by simp [hd])) d hd
theorem lshOut_lt {s : Nat} (hs : s < 64) : ∀ (c : Nat) (xs : List Nat), c < 2 ^ s → (∀ d ∈ xs, d < 18446744073709551616) → lshOut s c xs < 2 ^ s
  | _, [], hc, _ => hc
  | c, x :: r, _, hx => by
    have h1 : x / 2 ^ (64 - s) < 2 ^ s := by
      rw [Nat.div_lt_iff_lt_mul (Nat.pow_pos (by decide)), pow_split (Nat.le_of_lt hs)]
      exact hx x (by simp)
    exact lshOut_lt hs _ r h1 (fun d hd => hx d (by simp [hd]))
theorem lshC_get (s : Nat) : ∀ (c : Nat) (xs : List Nat) (i : Nat) (h : i < xs.length), (lshC s c xs)[i]? = some (xs[i] * 2 ^ s % 18446744073709551616 + (if i = 0 then c else xs.getD (i - 1) 0 / 2 ^ (64 - s)))
  | c, x :: r, 0, _ => by simp [lshC]
  | c, x :: r, i + 1, h => by
    have hr : i < r.length := by simpa using h
    have ih := lshC_get s (x / 2 ^ (64 - s)) r i hr
    simp only [lshC, List.getElem?_cons_succ, List.getElem_cons_succ, ih]
    congr 2
    rcases Nat.eq_zero_or_pos i with h0 | h0
    · subst h0; simp
    · obtain ⟨k, rfl⟩ : ∃ k, i = k + 1 := ⟨i - 1, by omega⟩
      simp
theorem lshOut_last (s : Nat) : ∀ (c : Nat) (xs : List Nat), 0 < xs.length → lshOut s c xs = xs.getD (xs.length - 1) 0 / 2 ^ (64 - s)
  | _, [x], _ => by simp [lshOut]
  | c, x :: y :: r, _ => by
    have ih := lshOut_last s (x / 2 ^ (64 - s)) (y :: r) (by simp)
    rw [lshOut, ih]
    simp
theorem rshC_get (s : Nat) : ∀ (xs : List Nat) (i : Nat) (h : i < xs.length), (rshC s xs)[i]? = some (xs[i] / 2 ^ s + xs.getD (i + 1) 0 * 2 ^ (64 - s) % 18446744073709551616)
  | x :: r, 0, _ => by cases r <;> simp [rshC]
  | x :: r, i + 1, h => by
    have hr : i < r.length := by simpa using h
    simp [rshC, rshC_get s r i hr]
theorem rshC_val {s : Nat} (hs : s ≤ 64) : ∀ (xs : List Nat), valD 18446744073709551616 (rshC s xs) = valD 18446744073709551616 xs / 2 ^ s
  | [] => by simp [rshC, valD]
  | x :: r => by
    have ih := rshC_val hs r
    have hp := pow_split hs
    have hpos : 0 < 2 ^ s := Nat.pow_pos (by decide)
    simp only [rshC, valD, ih]
    obtain ⟨R, hR⟩ : ∃ R, valD 18446744073709551616 r = R := ⟨_, rfl⟩
    have h0 : r.headD 0 % 2 ^ s = R % 2 ^ s := by
      rw [← hR]
      cases r with
      | nil => simp [valD]
      | cons y t =>
        simp only [List.headD_cons, valD]
        rw [← hp, Nat.mul_assoc, Nat.add_mul_mod_self_left]
    rw [hR]
    have e1 : r.headD 0 * 2 ^ (64 - s) % 18446744073709551616 = 2 ^ (64 - s) * (R % 2 ^ s) := by
      rw [← hp, Nat.mul_comm (2 ^ s), Nat.mul_comm (r.headD 0), Nat.mul_mod_mul_left, h0]
    rw [e1]
    have e2 : x + 18446744073709551616 * R = x + 2 ^ s * (2 ^ (64 - s) * R) := by rw [← hp, Nat.mul_assoc]
    rw [e2, Nat.add_mul_div_left _ _ hpos]
    have e3 : 2 ^ (64 - s) * R = 2 ^ (64 - s) * (R % 2 ^ s) + 18446744073709551616 * (R / 2 ^ s) := by
      have h4 := Nat.mod_add_div R (2 ^ s)
      have h5 : 2 ^ (64 - s) * R = 2 ^ (64 - s) * (R % 2 ^ s + 2 ^ s * (R / 2 ^ s)) := by rw [h4]
      rw [Nat.mul_add, ← Nat.mul_assoc, Nat.mul_comm (2 ^ (64 - s)) (2 ^ s), hp] at h5
      exact h5
    rw [e3]
    omega
theorem rshC_lt {s : Nat} (hs : s ≤ 64) (hs1 : 0 < s) : ∀ (xs : List Nat), (∀ d ∈ xs, d < 18446744073709551616) → ∀ d ∈ rshC s xs, d < 18446744073709551616
  | [], _ => by simp [rshC]
  | x :: r, hx => by
    intro d hd
    simp only [rshC, List.mem_cons] at hd
    rcases hd with rfl | hd
    · have hp := pow_split hs
      have h1 : x / 2 ^ s < 2 ^ (64 - s) := by
        rw [Nat.div_lt_iff_lt_mul (Nat.pow_pos (by decide)), Nat.mul_comm, hp]
        exact hx x (by simp)
      have h2 : r.headD 0 * 2 ^ (64 - s) % 18446744073709551616 = 2 ^ (64 - s) * (r.headD 0 % 2 ^ s) := by
        rw [← hp, Nat.mul_comm (2 ^ s), Nat.mul_comm (r.headD 0), Nat.mul_mod_mul_left]
      have h3 : r.headD 0 % 2 ^ s + 1 ≤ 2 ^ s := Nat.mod_lt _ (Nat.pow_pos (by decide))
      have h4 := Nat.mul_le_mul_left (2 ^ (64 - s)) h3
      rw [Nat.mul_comm (2 ^ (64 - s)) (2 ^ s), hp, Nat.mul_add, Nat.mul_one, ← h2] at h4
      omega
    · exact rshC_lt hs hs1 r (fun d hd => hx d (by simp [hd])) d hd
end Go.Proofs.YtapfolgiafnllaaGreatDoor
