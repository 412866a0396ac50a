/-
  strings.Builder: Reset of a new one, and WriteString of one that is used.
-/
import Derived.Test.YtapfolgiafnllaaGreatDoorBn13Z
import Derived.Test.YtapfolgiafnllaaGreatDoorShelf
import Derived.Lib.Strings
import Derived.Lib.Slices
import Derived.Lib.Walk
import Derived.Lib.Builder
import Derived.Lib.AppendStr
import Derived.Lib.UnsafeStr
import Derived.Lib.MakeNoZero
namespace Go.Proofs.YtapfolgiafnllaaGreatDoor
open Go.RowKit

theorem infoByte : (Tryz.prog.info? 5).map (fun i => (i.zero, i.size, i.bytes)) = some (some (.int .u8 0), 1, 1) := by kernel_rfl
theorem cells_set {w : World} {g : Nat} {cs : Array Value} {T : TypeId} {f : Nat × Nat} (h : w.heap[g]? = some (.cells cs T f)) (i : Nat) (u : Value) :
    (w.setCell ⟨g, i, none⟩ u).heap[g]? = some (.cells (cs.setIfInBounds i u) T f) := by
  simp only [World.setCell, Array.getElem?_modify, h]
  simp

end Go.Proofs.YtapfolgiafnllaaGreatDoor
