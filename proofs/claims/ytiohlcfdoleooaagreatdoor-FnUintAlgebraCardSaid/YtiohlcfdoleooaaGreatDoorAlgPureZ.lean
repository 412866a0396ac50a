/-
  What laws.FnUintAlgebra holds against each other: plain laws.
-/
import Derived.Test.YtiohlcfdoleooaaGreatDoorDoneAZ
namespace Go.Proofs.YtiohlcfdoleooaaGreatDoor

/-- Two texts agree, or one is missing. -/
def Alike (X Y : List UInt8) : Prop := X = [] ∨ Y = [] ∨ X = Y
theorem uRes0 (x y : Int) : uRes 0 x y = if overU (x + y) = true then none else some (x + y) := rfl
theorem uRes1 (x y : Int) : uRes 1 x y = if overU (x - y) = true then none else some (x - y) := rfl
theorem uRes2 (x y : Int) : uRes 2 x y = if overU (x * y) = true then none else some (x * y) := rfl
theorem dn_some (op : Nat) (x y : Int) : dn op (some x) (some y) = uRes op x y := rfl
theorem alg_comm_add (x y : Int) : dn 0 (some y) (some x) = dn 0 (some x) (some y) := by
  rw [dn_some, dn_some, uRes0, uRes0, Int.add_comm]
theorem alg_comm_mul (x y : Int) : dn 2 (some y) (some x) = dn 2 (some x) (some y) := by
  rw [dn_some, dn_some, uRes2, uRes2, Int.mul_comm]
theorem alg_assoc_add (x y z : Int) : Alike (outT (dn 0 (dn 0 (some x) (some y)) (some z))) (outT (dn 0 (some x) (dn 0 (some y) (some z)))) := by
  rw [dn_some, dn_some, uRes0, uRes0]
  by_cases h1 : overU (x + y) = true
  · rw [if_pos h1]; exact .inl rfl
  · by_cases h2 : overU (y + z) = true
    · rw [if_pos h2]; exact .inr (.inl rfl)
    · rw [if_neg h1, if_neg h2, dn_some, dn_some, uRes0, uRes0, Int.add_assoc]
      exact .inr (.inr rfl)
theorem alg_assoc_mul (x y z : Int) : Alike (outT (dn 2 (dn 2 (some x) (some y)) (some z))) (outT (dn 2 (some x) (dn 2 (some y) (some z)))) := by
  rw [dn_some, dn_some, uRes2, uRes2]
  by_cases h1 : overU (x * y) = true
  · rw [if_pos h1]; exact .inl rfl
  · by_cases h2 : overU (y * z) = true
    · rw [if_pos h2]; exact .inr (.inl rfl)
    · rw [if_neg h1, if_neg h2, dn_some, dn_some, uRes2, uRes2, Int.mul_assoc]
      exact .inr (.inr rfl)
theorem alg_distrib (x y z : Int) : Alike (outT (dn 2 (some x) (dn 0 (some y) (some z)))) (outT (dn 0 (dn 2 (some x) (some y)) (dn 2 (some x) (some z)))) := by
  rw [dn_some, dn_some, dn_some, uRes0, uRes2, uRes2]
  by_cases h1 : overU (y + z) = true
  · rw [if_pos h1]; exact .inl rfl
  · by_cases h2 : overU (x * y) = true
    · rw [if_pos h2]; exact .inr (.inl rfl)
    · by_cases h3 : overU (x * z) = true
      · rw [if_pos h3, if_neg h2]; exact .inr (.inl rfl)
      · rw [if_neg h1, if_neg h2, if_neg h3, dn_some, dn_some, uRes2, uRes0, Int.mul_add]
        exact .inr (.inr rfl)
theorem alg_sub (x y : Int) (ox : overU x = false) : Alike (outT (dn 0 (dn 1 (some x) (some y)) (some y))) (outT (some x)) := by
  rw [dn_some, uRes1]
  by_cases h1 : overU (x - y) = true
  · rw [if_pos h1]; exact .inl rfl
  · rw [if_neg h1, dn_some, uRes0, Int.sub_add_cancel, ox, if_neg (by decide)]
    exact .inr (.inr rfl)
theorem alg_most (x y : Int) (ox : overU x = false) (oy : overU y = false) : dn 0 (dn 5 (some x) (some y)) (dn 6 (some x) (some y)) = dn 0 (some x) (some y) := by
  have e5 : dn 5 (some x) (some y) = some (minZ x y) := by
    show (if overU (minZ x y) = true then none else some (minZ x y)) = _
    exact if_neg (by unfold minZ; split <;> simp [ox, oy])
  have e6 : dn 6 (some x) (some y) = some (maxZ x y) := by
    show (if overU (maxZ x y) = true then none else some (maxZ x y)) = _
    exact if_neg (by unfold maxZ; split <;> simp [ox, oy])
  have e : minZ x y + maxZ x y = x + y := by
    unfold minZ maxZ sgnC
    by_cases h1 : x - y < 0
    · simp only [if_pos h1]
      simp
    · by_cases h2 : x - y = 0
      · simp only [if_neg h1, if_pos h2]
        simp
        omega
      · simp only [if_neg h1, if_neg h2]
        simp
        omega
  rw [e5, e6, dn_some, dn_some, uRes0, uRes0, e]
theorem alg_quo (x y : Int) (ox : overU x = false) (oy : overU y = false) (hy : y ≠ 0) : dn 0 (dn 2 (dn 3 (some x) (some y)) (some y)) (dn 4 (some x) (some y)) = some x := by
  have hx0 : 0 ≤ x := by have := overU_pos ox; omega
  have hy0 : 0 ≤ y := by have := overU_pos oy; omega
  have hm0 : 0 ≤ x.tmod y := Int.tmod_nonneg y hx0
  have hq0 : 0 ≤ x.tdiv y := Int.tdiv_nonneg hx0 hy0
  have hs := Int.tdiv_mul_add_tmod x y
  have e3 : dn 3 (some x) (some y) = some (x.tdiv y) := by
    have h : opZ 3 x y = some (x.tdiv y) := if_neg hy
    show uRes 3 x y = _
    unfold uRes
    rw [h]
    exact if_neg (by rw [quo_fits ox oy]; decide)
  have e4 : dn 4 (some x) (some y) = some (x.tmod y) := by
    have h : opZ 4 x y = some (x.tmod y) := if_neg hy
    show uRes 4 x y = _
    unfold uRes
    rw [h]
    exact if_neg (by rw [mod_fits ox oy hy]; decide)
  have hp0 : 0 ≤ x.tdiv y * y := Int.mul_nonneg hq0 hy0
  have ho : overU (x.tdiv y * y) = false := by
    have h1 := ox
    rw [overU_fits, Bool.or_eq_false_iff] at h1 ⊢
    have h2 : x.natAbs < 2 ^ 256 := by simpa using h1.2
    refine ⟨decide_eq_false (by omega), ?_⟩
    have h3 : (x.tdiv y * y).natAbs < 2 ^ 256 := by omega
    simpa using h3
  rw [e3, e4, dn_some, uRes2, ho, if_neg (by decide), dn_some, uRes0, hs, ox, if_neg (by decide)]
end Go.Proofs.YtiohlcfdoleooaaGreatDoor
