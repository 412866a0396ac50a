/-
  The reference's Do.
-/
import Derived.Test.YtapfolgiafnllaaGreatDoorSpecQuoZ
import Derived.Test.YtapfolgiafnllaaGreatDoorBn22Z
import Derived.Test.YtapfolgiafnllaaGreatDoorBn21Z
namespace Go.Proofs.YtapfolgiafnllaaGreatDoor
open Go.RowKit

/-- What the reference does with two numbers; none: a division by 0. -/
def refZ (op : Nat) (x y : Int) : Option Int :=
  match op with
  | 0 => some (x + y)
  | 1 => some (x - y)
  | 2 => some (x * y)
  | 3 => if y = 0 then none else some (x.tdiv y)
  | 4 => if y = 0 then none else some (if x.tmod y < 0 then x.tmod y + y.natAbs else x.tmod y)
  | 5 => some (if x < y then x else y)
  | 6 => some (if x < y then y else x)
  | _ => none
def DoNum (w : World) (r : Option Int) (e : Ending) (w' : World) : Prop := ∃ v, e = .returned (.tuple #[v, .bool r.isSome]) ∧ IsNum w' v (r.getD 0) ∧ Below w.heap.size w w'
theorem sgnC_neg {z : Int} : sgnC z < 0 ↔ z < 0 := by
  unfold sgnC
  split
  · omega
  · split <;> omega

end Go.Proofs.YtapfolgiafnllaaGreatDoor
