/-
  laws.asked where the reference has no answer; what is done with two numbers that are not less than 0, as the reference has it.
-/
import Derived.Test.YtiohlcfdoleooaaGreatDoorBn04Z
import Derived.Test.YtiohlcfdoleooaaGreatDoorBn02Z
import Derived.Test.YtiohlcfdoleooaaGreatDoorBn03Z
import Derived.Test.YtiohlcfdoleooaaGreatDoorBn24Z
namespace Go.Proofs.YtiohlcfdoleooaaGreatDoor
open Go.RowKit

set_option maxRecDepth 100000 in
set_option maxHeartbeats 1000000 in
theorem asked0_walk (t : List UInt8) (x : Int) (v : Value) (w : World) (hv : IsNum w v x) (hl : (toD 10 x.natAbs).length ≤ 1000000) :
    Calls Tryz.prog 25 #[.string (S t), .bool false, v, .bool false] w fun e w' => e = .returned (.bool true) ∧ Below w.heap.size w w' := by
  have HTO := Lib.hid (fun (w' : World) (h1 : IsNum w' v x) => told_walk t false x v false w' h1 hl rfl (fun h => by cases h))
  obtain ⟨A, c, rfl, hc, hcm, hr⟩ := hv.open
  have HV := Lib.hid hv
  clear hv hr hl hc
  obtain ⟨b, hb⟩ : ∃ b, decide (x < 0) = b := ⟨_, rfl⟩
  rw [hb] at HTO HV ⊢
  clear hb
  go_enter Tryz.func25, Tryz.ntmps25
  go_wp2_with fail
  refine (HTO.out _ (HV.out.below (below_a1 _ _))).mono ?_
  rintro e w1 ⟨rfl, hb1⟩
  go_wp2_with fail
  go_ret
  exact ⟨rfl, bt (below_a1 _ _) hb1⟩

/-- For numbers that are not less than 0 the two agree. -/
theorem refZ_opZ {o : Nat} {x y : Int} (hx : 0 ≤ x) : refZ o x y = opZ o x y := by
  unfold refZ opZ
  match o with
  | 0 => rfl
  | 1 => rfl
  | 2 => rfl
  | 3 => rfl
  | 4 =>
    have h2 : 0 ≤ x.tmod y := Int.tmod_nonneg y hx
    by_cases hy : y = 0
    · simp only [if_pos hy]
    · simp only [if_neg hy]
      rw [if_neg (by omega)]
  | 5 =>
    simp only []
    congr 1
    unfold minZ sgnC
    by_cases h : x < y
    · rw [if_pos h, if_neg (by rw [if_pos (by omega)]; omega)]
    · by_cases h2 : x - y = 0
      · rw [if_neg h, if_neg (by rw [if_neg (by omega), if_pos h2]; omega)]; omega
      · rw [if_neg h, if_pos (by rw [if_neg (by omega), if_neg h2])]
  | 6 =>
    simp only []
    congr 1
    unfold maxZ sgnC
    by_cases h : x < y
    · rw [if_pos h, if_pos (by rw [if_pos (by omega)])]
    · rw [if_neg h, if_neg (by rw [if_neg (by omega)]; split <;> omega)]
  | n + 7 => rfl
theorem refZ_len {o : Nat} {x y z : Int} (hx : x.natAbs < 2 ^ 256) (hy : y.natAbs < 2 ^ 256) (h : refZ o x y = some z) : (toD 10 z.natAbs).length ≤ 1000000 := by
  have hz : z.natAbs < 2 ^ 256 * 2 ^ 256 := by
    have e1 : (2 : Nat) ^ 256 + 2 ^ 256 ≤ 2 ^ 256 * 2 ^ 256 := by decide
    have e2 : (2 : Nat) ^ 256 ≤ 2 ^ 256 * 2 ^ 256 := by decide
    unfold refZ at h
    match o, h with
    | 0, h => injection h with h; subst h; omega
    | 1, h => injection h with h; subst h; omega
    | 2, h => injection h with h; subst h; rw [Int.natAbs_mul]; exact Nat.mul_lt_mul'' hx hy
    | 3, h =>
      simp only [] at h
      split at h
      · cases h
      · injection h with h; subst h
        rw [Int.natAbs_tdiv]
        exact Nat.lt_of_le_of_lt (Nat.div_le_self _ _) (by omega)
    | 4, h =>
      simp only [] at h
      split at h
      · cases h
      · injection h with h; subst h
        have h2 : (x.tmod y).natAbs ≤ x.natAbs := by rw [Int.natAbs_tmod]; exact Nat.mod_le _ _
        split <;> omega
    | 5, h => injection h with h; subst h; split <;> omega
    | 6, h => injection h with h; subst h; split <;> omega
  exact Nat.le_trans (toD_length_le (by decide) 200 _ (Nat.lt_of_lt_of_le hz (by decide))) (by decide)
theorem askedRes_walk (o : Nat) (x y : Int) (v : Value) (w : World) (ox : overU x = false) (hx : x.natAbs < 2 ^ 256) (hy : y.natAbs < 2 ^ 256) (hv : IsNum w v ((refZ o x y).getD 0)) :
    Calls Tryz.prog 25 #[.string (S (outT (uRes o x y))), .bool (uRes o x y).isSome, v, .bool (refZ o x y).isSome] w fun e w' => e = .returned (.bool true) ∧ Below w.heap.size w w' := by
  have hx0 : 0 ≤ x := by have := overU_pos ox; omega
  have he := refZ_opZ (o := o) (y := y) hx0
  cases hz : refZ o x y with
  | none =>
    rw [hz] at hv
    have hu : uRes o x y = none := by unfold uRes; rw [← he, hz]
    rw [hu]
    exact asked0_walk _ 0 v w hv (by rw [Int.natAbs_zero, toD_zero]; decide)
  | some z =>
    rw [hz] at hv
    have hu : uRes o x y = if overU z = true then none else some z := by unfold uRes; rw [← he, hz]
    have hl := refZ_len hx hy hz
    have hf := overU_fits z
    rw [hu]
    clear hu
    cases ho : overU z with
    | true =>
      rw [if_pos rfl]
      rw [ho] at hf
      have hok : false = ((!decide (z < 0)) && decide (z.natAbs < 2 ^ 256)) := by
        cases h1 : decide (z < 0) <;> cases h2 : decide (z.natAbs < 2 ^ 256) <;> rw [h1, h2] at hf <;> first | rfl | cases hf
      exact asked_walk _ false z v w hv hl hok (fun h => by cases h)
    | false =>
      rw [if_neg (by decide)]
      rw [ho] at hf
      have hok : true = ((!decide (z < 0)) && decide (z.natAbs < 2 ^ 256)) := by
        cases h1 : decide (z < 0) <;> cases h2 : decide (z.natAbs < 2 ^ 256) <;> rw [h1, h2] at hf <;> first | rfl | cases hf
      exact asked_walk _ true z v w hv hl hok (fun _ => rfl)
end Go.Proofs.YtiohlcfdoleooaaGreatDoor
