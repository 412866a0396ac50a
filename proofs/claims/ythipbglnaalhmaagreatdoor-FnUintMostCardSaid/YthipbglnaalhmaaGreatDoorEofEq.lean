/-
  io.EOF is itself.
-/
import Derived.Test.YthipbglnaalhmaaGreatDoorNat5
import Derived.LaidEqlPtr
namespace Go.Proofs.YthipbglnaalhmaaGreatDoor
open Go.RowKit

theorem infoErrT : (Tryz.prog.info? 113).map (·.comparable) = some true := by kernel_rfl
theorem infoErrE : (Tryz.prog.info? 115).map (·.size) = some 1 := by kernel_rfl
set_option maxRecDepth 100000 in
theorem eof_eqIn (p : Addr) (w : World) (d : Nat) : (Op.equalIn (d + 2) 64 (.iface 113 (.pointer (some p))) (.iface 113 (.pointer (some p)))).run Tryz.prog w = .ok true w := by
  obtain ⟨i, hi, hc⟩ := Option.map_eq_some_iff.1 infoErrT
  obtain ⟨j, hj, hs⟩ := Option.map_eq_some_iff.1 infoErrE
  simp [Op.equalIn, run_underlying Tryz.underlying64, run_underlying Tryz.underlying113, typeInfo, hi, hc, sizeOf, hj, run_sameAddr_same]
set_option maxRecDepth 100000 in
theorem eof_eq (p : Addr) (w : World) : (binOp .eql 64 (.iface 113 (.pointer (some p))) (.iface 113 (.pointer (some p)))).run Tryz.prog w = .ok (.bool true) w := by
  simp only [binOp]
  simp [Op.equal, Op.maxDepth, eof_eqIn p w 9998]
set_option maxRecDepth 100000 in
theorem eof_neq (p : Addr) (w : World) : (binOp .neq 64 (.iface 113 (.pointer (some p))) (.iface 113 (.pointer (some p)))).run Tryz.prog w = .ok (.bool false) w := by
  simp only [binOp]
  simp [Op.equal, Op.maxDepth, eof_eqIn p w 9998]
end Go.Proofs.YthipbglnaalhmaaGreatDoor
