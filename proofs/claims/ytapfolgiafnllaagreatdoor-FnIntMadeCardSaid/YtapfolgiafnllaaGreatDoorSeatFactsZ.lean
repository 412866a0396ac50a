/-
  Closed facts of the program, for the cards.
-/
import Derived.Test.YtapfolgiafnllaaGreatDoorRows
import Derived.Test.YtapfolgiafnllaaGreatDoorCards
import Derived.KernelRfl
import Derived.SevenTiedAt
namespace Go.Proofs.YtapfolgiafnllaaGreatDoor
open Go
set_option maxRecDepth 100000 in
theorem seatMain : Tryz.pinned.checked.prog.mainIs = some (true, "e247721a5a8b1a8ace9b1116f3af14c6d5e88de7c8204abb37eacb2fd89fd4ca".toList) := by kernel_rfl
set_option maxRecDepth 100000 in
theorem seatLooks : true = Tryz.pinned.checked.prog.looks [] := by kernel_rfl
end Go.Proofs.YtapfolgiafnllaaGreatDoor
