/-
  Division of two words by one, by the reciprocal: the plain law.
-/
import Derived.KernelRfl
namespace Go.Proofs.YtapfolgiafnllaaGreatDoor

/-- The quotient by the reciprocal is too small by two at most. -/
theorem recip_quot {B d P x1 x0 : Nat} (hB : 0 < B) (hd : d ≤ B) (h1 : P * d < B * B) (h2 : B * B ≤ P * d + d) (hx1 : x1 < d) (hx0 : x0 < B) :
    d * ((P * x1 + x0) / B) ≤ x1 * B + x0 ∧ x1 * B + x0 < d * ((P * x1 + x0) / B) + B + d := by
  obtain ⟨q, hq⟩ : ∃ q, (P * x1 + x0) / B = q := ⟨_, rfl⟩
  rw [hq]
  have e1 : B * q ≤ P * x1 + x0 := by rw [← hq]; exact Nat.mul_div_le _ _
  have e2 : P * x1 + x0 < B * q + B := by
    have := Nat.lt_mul_div_succ (P * x1 + x0) hB
    rw [hq, Nat.mul_add, Nat.mul_one] at this
    exact this
  have f1 : d * (B * q) ≤ d * (P * x1 + x0) := Nat.mul_le_mul_left d e1
  have f2 : d * (P * x1 + x0 + 1) ≤ d * (B * q + B) := Nat.mul_le_mul_left d e2
  have g1 : d * (P * x1 + x0) = P * d * x1 + d * x0 := by rw [Nat.mul_add, ← Nat.mul_assoc, Nat.mul_comm d P]
  have g2 : d * (P * x1 + x0 + 1) = P * d * x1 + d * x0 + d := by rw [Nat.mul_add, g1, Nat.mul_one]
  have g3 : d * (B * q + B) = B * (d * q) + B * d := by rw [Nat.mul_add, ← Nat.mul_assoc, Nat.mul_comm d B, Nat.mul_assoc]
  have g4 : d * (B * q) = B * (d * q) := by rw [← Nat.mul_assoc, Nat.mul_comm d B, Nat.mul_assoc]
  rw [g1, g4] at f1
  rw [g2, g3] at f2
  have k1 : P * d * x1 ≤ B * B * x1 := Nat.mul_le_mul_right x1 (Nat.le_of_lt h1)
  have k2 : d * x0 ≤ B * x0 := Nat.mul_le_mul_right x0 hd
  have k3 : B * B * x1 ≤ P * d * x1 + d * x1 := by rw [← Nat.add_mul]; exact Nat.mul_le_mul_right x1 h2
  have k4 : d * x1 ≤ d * d := Nat.mul_le_mul_left d (Nat.le_of_lt hx1)
  have k5 : d * d ≤ B * d := Nat.mul_le_mul_right d hd
  have l1 : B * (x1 * B + x0) = B * B * x1 + B * x0 := by rw [Nat.mul_add, Nat.mul_comm x1 B, Nat.mul_assoc]
  refine ⟨Nat.le_of_mul_le_mul_left (by rw [l1]; omega) hB, Nat.lt_of_mul_lt_mul_left (a := B) ?_⟩
  rw [l1]
  have l2 : B * (d * q + B + d) = B * (d * q) + B * B + B * d := by rw [Nat.mul_add, Nat.mul_add]
  rw [l2]
  -- B * x0 - d * x0 ≤ (B - d) * B
  obtain ⟨c, hc⟩ : ∃ c, B = d + c := ⟨B - d, by omega⟩
  have m1 : B * x0 = d * x0 + c * x0 := by rw [← Nat.add_mul, ← hc]
  have m2 : c * x0 ≤ c * B := Nat.mul_le_mul_left c (Nat.le_of_lt hx0)
  have m3 : B * B = d * B + c * B := by rw [← Nat.add_mul, ← hc]
  have m4 : d * B = B * d := Nat.mul_comm _ _
  have m5 : d * x1 < B * d := by
    have h0 : 0 < d := by omega
    have : d * x1 < d * d := Nat.mul_lt_mul_of_pos_left hx1 h0
    omega
  omega
end Go.Proofs.YtapfolgiafnllaaGreatDoor
