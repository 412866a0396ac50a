/-
  Closed facts of the program, for the cards.
-/
import Derived.Test.YtiohlcfdoleooaaGreatDoorRows
import Derived.Test.YtiohlcfdoleooaaGreatDoorCards
import Derived.KernelRfl
import Derived.SevenTiedAt
namespace Go.Proofs.YtiohlcfdoleooaaGreatDoor
open Go
set_option maxRecDepth 100000 in
theorem seatMain : Tryz.pinned.checked.prog.mainIs = some (true, "09d3aff1805efd983447cfd6f224b4738feaf5e6a5cf9d1fe43750db53516aaf".toList) := by kernel_rfl
set_option maxRecDepth 100000 in
theorem seatLooks : true = Tryz.pinned.checked.prog.looks [] := by kernel_rfl
end Go.Proofs.YtiohlcfdoleooaaGreatDoor
