/-
  math/bits' Add, Mul as math/big uses them.
-/
import Derived.Test.YthipbglnaalhmaaGreatDoorScanSign
import Derived.Test.YthipbglnaalhmaaGreatDoorShelf
import Derived.Laws.Externs
namespace Go.Proofs.YthipbglnaalhmaaGreatDoor
open Go.RowKit

def W64 : Nat := 18446744073709551616
theorem infoWord : (Tryz.prog.info? 150).map (fun i => (i.zero, i.size, i.bytes)) = some (some (.int .u64 0), 1, 8) := by kernel_rfl
set_option maxRecDepth 100000 in
theorem add64_law (x y c : Nat) (hc : c ≤ 1) (w : World) : (callFunc 247 #[.int .u64 x, .int .u64 y, .int .u64 c]).run Tryz.prog w =
    .ok (.value (.tuple #[.int .u64 (((x + y + c) % 18446744073709551616 : Nat) : Int), .int .u64 (((x + y + c) / 18446744073709551616 : Nat) : Int)])) w := by
  rw [run_callFunc_extern Tryz.func247 (by kernel_rfl) (by kernel_rfl) (by kernel_rfl) (e := add64Entry) (by kernel_rfl), run_add64 x y c (by omega) (by omega) (by omega) (by omega)]
  simp only [Result.andThen]
  congr 5 <;> omega

set_option maxRecDepth 100000 in
set_option maxHeartbeats 1000000 in
theorem bitsAdd_walk (x y c : Nat) (w : World) (hx : x < 18446744073709551616) (hy : y < 18446744073709551616) (hc : c ≤ 1) :
    Calls Tryz.prog 224 #[.int .u64 x, .int .u64 y, .int .u64 c] w fun e w' =>
      e = .returned (.tuple #[.int .u64 (((x + y + c) % 18446744073709551616 : Nat) : Int), .int .u64 (((x + y + c) / 18446744073709551616 : Nat) : Int)]) ∧ w = w' := by
  have hq : (x + y + c) / 18446744073709551616 ≤ 1 := by omega
  have hm : (x + y + c) % 18446744073709551616 < 18446744073709551616 := Nat.mod_lt _ (by decide)
  have hA := add64_law x y c hc
  obtain ⟨s, hs⟩ : ∃ s, (x + y + c) % 18446744073709551616 = s := ⟨_, rfl⟩
  obtain ⟨q, hq2⟩ : ∃ q, (x + y + c) / 18446744073709551616 = q := ⟨_, rfl⟩
  rw [hs] at hA hm ⊢
  rw [hq2] at hA hq ⊢
  clear hs hq2
  go_enter Tryz.func224, Tryz.ntmps224
  go_wp2_with fail
  go_ret2
  exact ⟨rfl, rfl⟩

set_option maxRecDepth 100000 in
set_option maxHeartbeats 1000000 in
theorem mulAddWWW_walk (x y c : Nat) (w : World) (hx : x < 18446744073709551616) (hy : y < 18446744073709551616) (hc : c < 18446744073709551616) :
    Calls Tryz.prog 270 #[.int .u64 x, .int .u64 y, .int .u64 c] w fun e w' => e = .returned (.tuple #[.int .u64 (((x * y + c) / 18446744073709551616 : Nat) : Int), .int .u64 (((x * y + c) % 18446744073709551616 : Nat) : Int)]) ∧ w = w' := by
  have hxy : x * y ≤ 18446744073709551615 * 18446744073709551615 := Nat.mul_le_mul (by omega) (by omega)
  have e1 : (x * y + c) / 18446744073709551616 = x * y / 18446744073709551616 + (x * y % 18446744073709551616 + c) / 18446744073709551616 := by omega
  have e2 : (x * y + c) % 18446744073709551616 = (x * y % 18446744073709551616 + c) % 18446744073709551616 := by omega
  rw [e1, e2]
  have hh : x * y / 18446744073709551616 < 18446744073709551615 := by omega
  have hl : x * y % 18446744073709551616 < 18446744073709551616 := Nat.mod_lt _ (by decide)
  have hM := Tryz.bits_Mul x y hx hy
  obtain ⟨hi, hhi⟩ : ∃ hi, x * y / 18446744073709551616 = hi := ⟨_, rfl⟩
  obtain ⟨lo, hlo⟩ : ∃ lo, x * y % 18446744073709551616 = lo := ⟨_, rfl⟩
  rw [hhi] at hM hh ⊢
  rw [hlo] at hM hl ⊢
  clear e1 e2 hxy
  have hq : (lo + c) / 18446744073709551616 ≤ 1 := by omega
  have hm : (lo + c) % 18446744073709551616 < 18446744073709551616 := Nat.mod_lt _ (by decide)
  have hB := bitsAdd_walk lo c 0
  simp only [Nat.add_zero] at hB
  obtain ⟨s, hs⟩ : ∃ s, (lo + c) % 18446744073709551616 = s := ⟨_, rfl⟩
  obtain ⟨q, hq2⟩ : ∃ q, (lo + c) / 18446744073709551616 = q := ⟨_, rfl⟩
  rw [hs] at hB hm ⊢
  rw [hq2] at hB hq ⊢
  have HM := Lib.hid hM
  have HB := Lib.hid hB
  clear hs hq2 hM hB
  have hsum : (hi : Int) + q ≤ 18446744073709551615 := by omega
  have hcast : ((hi + q : Nat) : Int) = (hi : Int) + q := by omega
  rw [hcast]
  go_enter Tryz.func270, Tryz.ntmps270
  go_wp2_with fail
  refine (HM.out _).mono ?_
  rintro e w1 ⟨rfl, rfl⟩
  go_wp2_with fail
  refine (HB.out _ hl hc (by decide)).mono ?_
  rintro e w2 ⟨rfl, rfl⟩
  go_wp2_with fail
  go_ret2
  exact ⟨rfl, rfl⟩
end Go.Proofs.YthipbglnaalhmaaGreatDoor
