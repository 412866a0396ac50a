/-
  strings.Builder: Reset of a new one, and WriteString of one that is used.
-/
import Derived.Test.YthipbglnaalhmaaGreatDoorTexts
import Derived.Test.YthipbglnaalhmaaGreatDoorShelf
import Derived.Lib.Strings
import Derived.Lib.Slices
import Derived.Lib.Walk
import Derived.Lib.Builder
import Derived.Lib.AppendStr
import Derived.Lib.UnsafeStr
import Derived.Lib.MakeNoZero
namespace Go.Proofs.YthipbglnaalhmaaGreatDoor
open Go.RowKit

theorem infoByte : (Tryz.prog.info? 5).map (fun i => (i.zero, i.size, i.bytes)) = some (some (.int .u8 0), 1, 1) := by kernel_rfl
theorem infoBuilder : (Tryz.prog.info? 131).map (·.size) = some 2 := by kernel_rfl

set_option maxRecDepth 100000 in
set_option maxHeartbeats 400000 in
theorem copyCheck_used (b : Nat) (w : World) (h0 : w.cell? ⟨b, 0, none⟩ = some (.pointer (some ⟨b, 0, none⟩))) :
    Calls Tryz.prog 186 #[.pointer (some ⟨b, 0, none⟩)] w fun e w' => e = .returned (.tuple #[]) ∧ w = w' := by
  obtain ⟨j, hj, _⟩ := Option.map_eq_some_iff.1 infoBuilder
  go_enter Tryz.func186, Tryz.ntmps186
  go_wp2
  rw [Lib.run_neq_ptr_same w _ Tryz.underlying129 hj]
  go_wp2
  go_end0
  exact ⟨rfl, rfl⟩

theorem cells_set {w : World} {g : Nat} {cs : Array Value} {T : TypeId} {f : Nat × Nat} (h : w.heap[g]? = some (.cells cs T f)) (i : Nat) (u : Value) :
    (w.setCell ⟨g, i, none⟩ u).heap[g]? = some (.cells (cs.setIfInBounds i u) T f) := by
  simp only [World.setCell, Array.getElem?_modify, h]
  simp

set_option maxRecDepth 100000 in
set_option maxHeartbeats 400000 in
theorem reset_walk (b : Nat) (w : World) (hbk : w.heap[b]? = some (.cells #[.pointer none, .slice none 0 0] 131 (0, 0))) :
    Calls Tryz.prog 164 #[.pointer (some ⟨b, 0, none⟩)] w fun e w' => e = .returned (.tuple #[]) ∧ Below b w w' ∧ w.heap.size ≤ w'.heap.size ∧ w'.heap[b]? = some (.cells #[.pointer none, .slice none 0 0] 131 (0, 0)) := by
  have c0 : w.cell? ⟨b, 0, none⟩ = some (.pointer none) := by rw [Lib.cell_of_heap hbk]; rfl
  have c1 : w.cell? ⟨b, 1, none⟩ = some (.slice none 0 0) := by rw [Lib.cell_of_heap hbk]; rfl
  have f0 : w.frozen? ⟨b, 0, none⟩ = false := Lib.frozen_of_heap hbk 0
  have f1 : w.frozen? ⟨b, 1, none⟩ = false := Lib.frozen_of_heap hbk 1
  have H := Lib.hid hbk
  clear hbk
  go_enter Tryz.func164, Tryz.ntmps164
  go_wp2
  go_end0
  refine ⟨rfl, ((Below.refl _ _).setCell (p := ⟨b, 0, none⟩) (Nat.le_refl _) _).setCell (p := ⟨b, 1, none⟩) (Nat.le_refl _) _, by simp [World.setCell], ?_⟩
  have h1 := cells_set H.out 0 (.pointer none)
  have h2 := cells_set h1 1 (.slice none 0 0)
  exact h2

set_option maxRecDepth 100000 in
set_option maxHeartbeats 1000000 in
theorem writeString_walk (B b : Nat) (bs : List Value) (s : ByteArray) (w : World) (h : Lib.BuilderAt 131 5 B b (.pointer (some ⟨b, 0, none⟩)) bs w) (hlen : bs.length + s.size ≤ 140737488355328) (hBw : B ≤ w.heap.size) :
    Calls Tryz.prog 166 #[.pointer (some ⟨b, 0, none⟩), .string s] w fun e w' => e = .returned (.tuple #[.int .i64 s.size, .nilIface]) ∧ Lib.BuilderAt 131 5 B b (.pointer (some ⟨b, 0, none⟩)) (bs ++ Lib.strCells s) w' ∧ Below B w w' := by
  obtain ⟨i0, hi, hz0, hz1, hz2⟩ := info_parts infoByte
  obtain ⟨hB, v, hbk, hown, hne⟩ := h
  have c0 : w.cell? ⟨b, 0, none⟩ = some (.pointer (some ⟨b, 0, none⟩)) := by rw [Lib.cell_of_heap hbk]; rfl
  have c1 : w.cell? ⟨b, 1, none⟩ = some v := by rw [Lib.cell_of_heap hbk]; rfl
  have HK := Lib.hid hbk
  clear hbk
  go_enter Tryz.func166, Tryz.ntmps166
  go_wp2_with (first
    | (go_at_call 186; ((with_reducible refine (copyCheck_used b w c0).mono ?_); rintro e w1 ⟨rfl, rfl⟩))
    | (at_builtin; refine Lib.wpList_append_own_string _ rfl _ _ 27 9 rfl B 5 i0 Tryz.underlying27 Tryz.underlying9 hi hz0 hz1 hz2 _ _ _ rfl hown s rfl ?c3 ?c4 ?c5 ?_))
  case c3 => unfold maxLen; omega
  case c4 => omega
  case c5 => omega
  intro v' w2 hown' hgrow _
  have hbk := HK.out
  have hlt : b < w.heap.size := iter_lt hbk
  have hb2 : w2.heap[b]? = some (.cells #[.pointer (some ⟨b, 0, none⟩), v] 131 (0, 0)) := by
    rw [hgrow.block b hlt (fun e => hne e.symm)]
    exact hbk
  have d0 : w2.cell? ⟨b, 0, none⟩ = some (.pointer (some ⟨b, 0, none⟩)) := by rw [Lib.cell_of_heap hb2]; rfl
  have d1 : w2.cell? ⟨b, 1, none⟩ = some v := by rw [Lib.cell_of_heap hb2]; rfl
  have f1 : w2.frozen? ⟨b, 1, none⟩ = false := Lib.frozen_of_heap hb2 1
  obtain ⟨ao, n', cap, rfl⟩ : ∃ ao n' cap, v' = .slice ao n' cap := by
    rcases hown'.2 with ⟨hv, _⟩ | ⟨g, cap, cur, hv, _⟩
    · exact ⟨_, _, _, hv⟩
    · exact ⟨_, _, _, hv⟩
  clear hbk
  go_wp2
  go_ret2
  refine ⟨rfl, ?_, ?_⟩
  · exact Lib.BuilderAt.put (T := 131) (e := 5) hB hb2 (bs' := bs ++ Lib.strCells s) (by simpa [Lib.strCells_length] using hown') (by decide)
  · exact ((Below.refl B w).grown hgrow hBw (fun k hk => (hown.lt k hk).1)).setCell (p := ⟨b, 1, none⟩) hB _

end Go.Proofs.YthipbglnaalhmaaGreatDoor
