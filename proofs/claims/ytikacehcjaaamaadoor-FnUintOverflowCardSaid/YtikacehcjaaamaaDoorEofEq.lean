/-
  io.EOF is itself.
-/
import Derived.Test.YtikacehcjaaamaaDoorNat5
import Derived.LaidEqlPtr
namespace Go.Proofs.YtikacehcjaaamaaDoor
open Go.RowKit

theorem infoErrT : (Tryd.prog.info? 73).map (·.comparable) = some true := by kernel_rfl
theorem infoErrE : (Tryd.prog.info? 75).map (·.size) = some 1 := by kernel_rfl
theorem eof_eqIn (p : Addr) (w : World) (d : Nat) : (Op.equalIn (d + 2) 37 (.iface 73 (.pointer (some p))) (.iface 73 (.pointer (some p)))).run Tryd.prog w = .ok true w := by
  obtain ⟨i, hi, hc⟩ := Option.map_eq_some_iff.1 infoErrT
  obtain ⟨j, hj, hs⟩ := Option.map_eq_some_iff.1 infoErrE
  simp [Op.equalIn, run_underlying Tryd.underlying37, run_underlying Tryd.underlying73, typeInfo, hi, hc, sizeOf, hj, run_sameAddr_same]
theorem eof_eq (p : Addr) (w : World) : (binOp .eql 37 (.iface 73 (.pointer (some p))) (.iface 73 (.pointer (some p)))).run Tryd.prog w = .ok (.bool true) w := by
  simp only [binOp]
  simp [Op.equal, Op.maxDepth, eof_eqIn p w 9998]
theorem eof_neq (p : Addr) (w : World) : (binOp .neq 37 (.iface 73 (.pointer (some p))) (.iface 73 (.pointer (some p)))).run Tryd.prog w = .ok (.bool false) w := by
  simp only [binOp]
  simp [Op.equal, Op.maxDepth, eof_eqIn p w 9998]
end Go.Proofs.YtikacehcjaaamaaDoor
