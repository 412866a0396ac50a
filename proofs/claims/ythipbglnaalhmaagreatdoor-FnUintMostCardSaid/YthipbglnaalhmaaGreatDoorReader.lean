/-
  strings.Reader.
-/
import Derived.Test.YthipbglnaalhmaaGreatDoorMem
namespace Go.Proofs.YthipbglnaalhmaaGreatDoor
open Go.RowKit

/-- Block g is a reader of l, at place i. -/
def ReaderAt (w : World) (g : Nat) (l : List UInt8) (i : Nat) : Prop := ∃ pr : Int, w.heap[g]? = some (.cells #[.string (S l), .int .i64 i, .int .i64 pr] 145 (0, 0))
/-- io.EOF is v. -/
def EofIs (w : World) (p : Addr) : Prop := w.cell? ⟨0, 0, none⟩ = some (.iface 113 (.pointer (some p)))
theorem EofIs.lt {w : World} {p : Addr} (h : EofIs w p) : 0 < w.heap.size := World.block_lt_of_cell? w _ h
theorem EofIs.ext {D : Nat → Prop} {w w' : World} {p : Addr} (h : EofIs w p) (he : Ext D w w') (hd : ¬ D 0) : EofIs w' p := (World.cell?_of_block (he.block _ h.lt hd)).trans h
theorem EofIs.below {w w' : World} {p : Addr} (h : EofIs w p) (hb : Below w.heap.size w w') : EofIs w' p := (hb.cell (by exact h.lt)).trans h
theorem ReaderAt.lt {w : World} {g : Nat} {l : List UInt8} {i : Nat} (h : ReaderAt w g l i) : g < w.heap.size := by obtain ⟨_, h⟩ := h; exact iter_lt h
theorem three0 {w : World} {g : Nat} {a b c : Value} {T : TypeId} (h : w.heap[g]? = some (.cells #[a, b, c] T (0, 0))) : w.cell? ⟨g, 0, none⟩ = some a := by simp [World.cell?, h]
theorem three1 {w : World} {g : Nat} {a b c : Value} {T : TypeId} (h : w.heap[g]? = some (.cells #[a, b, c] T (0, 0))) : w.cell? ⟨g, 1, none⟩ = some b := by simp [World.cell?, h]
theorem three2 {w : World} {g : Nat} {a b c : Value} {T : TypeId} (h : w.heap[g]? = some (.cells #[a, b, c] T (0, 0))) : w.cell? ⟨g, 2, none⟩ = some c := by simp [World.cell?, h]
theorem ReaderAt.ext {D : Nat → Prop} {w w' : World} {g : Nat} {l : List UInt8} {i : Nat} (h : ReaderAt w g l i) (he : Ext D w w') (hd : ¬ D g) : ReaderAt w' g l i := by
  obtain ⟨pr, h⟩ := h
  exact ⟨pr, (he.block _ (iter_lt h) hd).trans h⟩

set_option maxRecDepth 100000 in
set_option maxHeartbeats 1000000 in
theorem newReader_walk (l : List UInt8) (w : World) :
    Calls Tryz.prog 138 #[.string (S l)] w fun e w' => e = .returned (.pointer (some ⟨w.heap.size, 0, none⟩)) ∧ ReaderAt w' w.heap.size l 0 ∧ Below w.heap.size w w' := by
  go_enter Tryz.func138, Tryz.ntmps138
  go_wp2_with fail
  go_ret
  exact ⟨rfl, ⟨-1, heap_here _ _⟩, below_a1 _ _⟩

/-- The error that reading at place j gives. -/
def nextErr (l : List UInt8) (j : Nat) (p : Addr) : Value := if j < l.length then .nilIface else .iface 113 (.pointer (some p))
/-- What ReadByte leaves behind. -/
def ReadPost (w : World) (g : Nat) (l : List UInt8) (i : Nat) (v : Value) (e : Ending) (w' : World) : Prop := e = .returned v ∧ ReaderAt w' g l i ∧ Ext (fun b => b = g) w w' ∧ w'.heap.size = w.heap.size

set_option maxRecDepth 100000 in
set_option maxHeartbeats 1000000 in
theorem readByte_walk (g : Nat) (l : List UInt8) (i : Nat) (p : Addr) (w : World) (hr : ReaderAt w g l i) (hl : l.length ≤ 140737488355328) (hp : EofIs w p) (hg : g ≠ 0) (hi : i ≤ l.length) :
    Calls Tryz.prog 327 #[.pointer (some ⟨g, 0, none⟩)] w
      (ReadPost w g l (min (i + 1) l.length) (.tuple #[.int .u8 ((l.getD i 0).toNat : Int), nextErr l i p])) := by
  obtain ⟨pr, hk⟩ := hr
  have c0 := three0 hk
  have c1 := three1 hk
  have c2 := three2 hk
  have f0 := one_free hk 0
  have f1 := one_free hk 1
  have f2 := one_free hk 2
  have HK := Lib.hid hk
  clear hk
  obtain ⟨w2, hw2⟩ : ∃ w2, w.setCell ⟨g, 2, none⟩ (.int .i64 (-1)) = w2 := ⟨_, rfl⟩
  have k2 : w2.heap[g]? = some (.cells #[.string (S l), .int .i64 i, .int .i64 (-1)] 145 (0, 0)) := by rw [← hw2]; exact cells_set HK.out 2 _
  have hE : w2.cell? ⟨0, 0, none⟩ = some (.iface 113 (.pointer (some p))) := by rw [← hw2]; exact (cell_other (by exact Ne.symm hg)).trans hp
  have hx : Ext (fun b => b = g) w w2 := by rw [← hw2]; exact Ext.setCell (D := fun b => b = g) (Ext.refl _ _) (fun _ => rfl) _
  have hsz : w2.heap.size = w.heap.size := by rw [← hw2]; simp [World.setCell]
  have d0 := three0 k2
  have d1 := three1 k2
  have d2 := three2 k2
  have e0 := one_free k2 0
  have e1 := one_free k2 1
  have K2 := Lib.hid k2
  clear k2
  by_cases h : i < l.length
  · have h' : ¬ (l.length : Int) ≤ i := by omega
    have h2 : (i : Int) < l.length := by omega
    have hd : l.getD i 0 = l[i] := by simp [List.getD_eq_getElem?_getD, List.getElem?_eq_getElem h]
    have hn : nextErr l i p = .nilIface := if_pos h
    rw [hn, hd, Nat.min_eq_left (by omega)]
    go_enter Tryz.func327, Tryz.ntmps327
    go_wp2_with fail
    go_quiet (fail)
    go_wp2_with fail
    have hi0 : (0 : Int) ≤ i := by omega
    go_quiet (fail)
    go_wp2_with fail
    exact bodyPost_ret (v := .tuple #[.int .u8 (l[i].toNat : Int), .nilIface]) (by simp [results, Tryz.results327, go_sem]) rfl
      ⟨rfl, ⟨-1, cells_set (w := w2.drewN _) K2.out 1 (.int .i64 ((i + 1 : Nat) : Int))⟩, (hx.drewN _).setCell (p := ⟨g, 1, none⟩) (fun _ => rfl) _, by simpa [World.setCell] using hsz⟩
  · have h' : (l.length : Int) ≤ i := by omega
    have hn : nextErr l i p = .iface 113 (.pointer (some p)) := if_neg h
    have hd : l.getD i 0 = 0 := by simp [List.getD_eq_getElem?_getD, List.getElem?_eq_none (show l.length ≤ i by omega)]
    have hil : min (i + 1) l.length = i := by omega
    rw [hn, hd, hil]
    clear hn hd hil
    go_enter Tryz.func327, Tryz.ntmps327
    go_wp2_with fail
    go_quiet (fail)
    go_wp2_with fail
    go_quiet (fail)
    go_wp2_with fail
    exact bodyPost_ret (v := .tuple #[.int .u8 0, .iface 113 (.pointer (some p))]) (by simp [results, Tryz.results327, go_sem]) rfl
      ⟨rfl, ⟨-1, K2.out⟩, (hx.drewN _).drewN _, hsz⟩

set_option maxRecDepth 100000 in
set_option maxHeartbeats 1000000 in
theorem unreadByte_walk (g : Nat) (l : List UInt8) (i : Nat) (w : World) (hr : ReaderAt w g l (i + 1)) (hl : l.length ≤ 140737488355328) (hi : i + 1 ≤ l.length) :
    Calls Tryz.prog 328 #[.pointer (some ⟨g, 0, none⟩)] w (ReadPost w g l i .nilIface) := by
  obtain ⟨pr, hk⟩ := hr
  have c1 := three1 hk
  have c2 := three2 hk
  have f1 := one_free hk 1
  have f2 := one_free hk 2
  have hi1 : ((i + 1 : Nat) : Int) = (i : Int) + 1 := by omega
  rw [hi1] at c1
  have h0 : ¬ (i : Int) + 1 ≤ 0 := by omega
  have h3 : (i : Int) + 1 ≤ 140737488355328 := by omega
  have HK := Lib.hid hk
  clear hk
  go_enter Tryz.func328, Tryz.ntmps328
  go_wp2_with fail
  exact bodyPost_ret (v := .nilIface) (by simp [results, Tryz.results328, go_sem]) rfl
    ⟨rfl, ⟨-1, cells_set (cells_set HK.out 2 (.int .i64 (-1))) 1 (.int .i64 (i : Int))⟩, Ext.setCell (D := fun b => b = g) (Ext.setCell (D := fun b => b = g) (Ext.refl _ _) (fun _ => rfl) _) (fun _ => rfl) _, by simp [World.setCell]⟩
end Go.Proofs.YthipbglnaalhmaaGreatDoor
