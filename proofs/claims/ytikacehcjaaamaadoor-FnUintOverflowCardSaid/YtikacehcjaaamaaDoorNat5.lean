/-
  math/big's maxPow, pow.
-/
import Derived.Test.YtikacehcjaaamaaDoorNat4
namespace Go.Proofs.YtikacehcjaaamaaDoor
open Go.RowKit

def MaxRel (b K : Nat) (pv nv : Value) : Prop := ∃ n : Nat, nv = .int .i64 n ∧ pv = .int .u64 ((b ^ n : Nat) : Int) ∧ 1 ≤ n ∧ n ≤ K

set_option maxRecDepth 100000 in
set_option maxHeartbeats 1000000 in
theorem maxPow_walk (b K : Nat) (w : World) (hb : 2 ≤ b) (hb2 : b < 18446744073709551616) (hK : 1 ≤ K) (hK2 : K ≤ 64) (h1 : b ^ (K - 1) ≤ 18446744073709551615 / b) (h2 : 18446744073709551615 / b < b ^ K) :
    Calls Tryd.prog 59 #[.int .u64 b] w fun e w' => e = .returned (.tuple #[.int .u64 ((b ^ K : Nat) : Int), .int .i64 K]) ∧ w = w' := by
  have hb0 : ((b : Int) == 0) = false := beq_eq_false_iff_ne.2 (by omega)
  obtain ⟨M, hM⟩ : ∃ M, 18446744073709551615 / b = M := ⟨_, rfl⟩
  have hMi : (18446744073709551615 : Int) / b = M := by rw [← hM]; exact (Int.natCast_ediv _ _).symm
  have hmul : M * b ≤ 18446744073709551615 := by rw [← hM]; exact Nat.div_mul_le_self _ _
  rw [hM] at h1 h2
  clear hM
  obtain ⟨R, hR⟩ : ∃ R, b ^ K = R := ⟨_, rfl⟩
  rw [hR]
  have HR := Lib.hid hR
  clear hR
  go_enter Tryd.func59, Tryd.ntmps59
  go_wp2_with fail
  rw [hMi]
  go_loop [2, 3] (fun pv nv => MaxRel b K pv nv) (fun _ nv => idxOf (K + 1) nv)
  case atStart => exact ⟨1, rfl, by simp, Nat.le_refl _, hK⟩
  case round =>
    obtain ⟨n, rfl, rfl, hn1, hnK⟩ := hrel
    have hpow : ((b ^ n : Nat) : Int) * b = ((b ^ (n + 1) : Nat) : Int) := by rw [Nat.pow_succ, Int.natCast_mul]
    by_cases hlt : n < K
    · have hle : b ^ n ≤ M := Nat.le_trans (Nat.pow_le_pow_right (by omega) (by omega)) h1
      have hpM : b ^ n * b ≤ 18446744073709551615 := Nat.le_trans (Nat.mul_le_mul_right b hle) hmul
      rw [← Nat.pow_succ] at hpM
      obtain ⟨p, hp⟩ : ∃ p, b ^ n = p := ⟨_, rfl⟩
      obtain ⟨p2, hp2⟩ : ∃ p2, b ^ (n + 1) = p2 := ⟨_, rfl⟩
      rw [hp, hp2] at hpow
      rw [hp] at hle ⊢
      rw [hp2] at hpM
      have hle' : (p : Int) ≤ M := by omega
      have hp2' : (p2 : Int) ≤ 18446744073709551615 := by omega
      have hp20 : (0 : Int) ≤ p2 := by omega
      have hw : IntKind.u64.wrap (p2 : Int) = p2 := by rw [IntKind.wrap_u64]; omega
      clear hp
      go_wp2_with fail
      exact ⟨⟨n + 1, by go_num, by rw [hp2], by omega, by omega⟩, by simp [idxOf]; omega⟩
    · obtain rfl : n = K := by omega
      rw [HR.out] at h2 ⊢
      have hle' : ¬ (R : Int) ≤ M := by omega
      clear hpow
      go_wp2_with fail
      go_ret2
      exact ⟨rfl, rfl⟩

theorem and_one (k : Nat) (h : k ≤ 1000000) : bits BinOp.and IntKind.i64 (k : Int) 1 = ((k % 2 : Nat) : Int) := by
  have h1 := bits_mask .i64 62 (by decide) (fun n h0 h1 => by rw [IntKind.wrap_i64]; omega) 1 (by decide) (k : Int) (by omega) (by omega)
  have e : ((2 : Int) ^ 1 - 1) = 1 := by decide
  have e2 : ((2 : Int) ^ 1) = 2 := by decide
  rw [e, e2] at h1
  rw [h1]
  omega
theorem wrap_mul (a b : Nat) : IntKind.u64.wrap ((a : Int) * b) = ((a * b % 18446744073709551616 : Nat) : Int) := by
  rw [← Int.natCast_mul, IntKind.wrap_u64]
  omega
theorem pow_half (p y k : Nat) : p * y ^ k % 18446744073709551616 = (if k % 2 = 0 then p else p * y % 18446744073709551616) * (y * y % 18446744073709551616) ^ (k / 2) % 18446744073709551616 := by
  have e : y ^ k = y ^ (k % 2) * (y * y) ^ (k / 2) := by
    rw [← Nat.pow_two, ← Nat.pow_mul, ← Nat.pow_add, Nat.add_comm, Nat.div_add_mod]
  rw [e, Nat.mul_mod (if k % 2 = 0 then p else p * y % 18446744073709551616), ← Nat.pow_mod, ← Nat.mul_assoc, Nat.mul_mod (p * y ^ (k % 2))]
  congr 2
  split
  · rename_i h; rw [h, Nat.pow_zero, Nat.mul_one]
  · rename_i h
    have : k % 2 = 1 := by omega
    rw [this, Nat.pow_one, Nat.mod_mod]

def PowRel (x0 n0 : Nat) (xv nv pv : Value) : Prop := ∃ x n p : Nat, xv = .int .u64 x ∧ nv = .int .i64 n ∧ pv = .int .u64 p ∧ n ≤ n0 ∧ x < 18446744073709551616 ∧ p < 18446744073709551616 ∧ (p * x ^ n) % 18446744073709551616 = x0 ^ n0 % 18446744073709551616

set_option maxRecDepth 100000 in
set_option maxHeartbeats 1000000 in
theorem pow_walk (x n : Nat) (w : World) (hx : x < 18446744073709551616) (hn : n ≤ 1000000) :
    Calls Tryd.prog 61 #[.int .u64 x, .int .i64 n] w fun e w' => e = .returned (.int .u64 ((x ^ n % 18446744073709551616 : Nat) : Int)) ∧ w = w' := by
  obtain ⟨R, hR⟩ : ∃ R, x ^ n % 18446744073709551616 = R := ⟨_, rfl⟩
  rw [hR]
  have HR := Lib.hid hR
  clear hR
  go_enter Tryd.func61, Tryd.ntmps61
  go_wp2_with fail
  go_loop [0, 1, 4] (fun xv nv pv => PowRel x n xv nv pv) (fun _ nv _ => natOf nv)
  case atStart => exact ⟨x, n, 1, rfl, rfl, rfl, Nat.le_refl _, hx, by decide, by rw [Nat.one_mul]⟩
  case round =>
    obtain ⟨y, k, p, rfl, rfl, rfl, hk, hy, hp, hv⟩ := hrel
    have HV := Lib.hid hv
    clear hv
    by_cases h0 : k = 0
    · subst h0
      have e : R = p := by rw [← HR.out, ← HV.out, Nat.pow_zero, Nat.mul_one, Nat.mod_eq_of_lt hp]
      subst e
      go_wp2_with fail
      go_ret
      exact ⟨rfl, rfl⟩
    · have hk0 : (0 : Int) < k := by omega
      have ha := and_one k (by omega)
      have hph := pow_half p y k
      have hyy := wrap_mul y y
      have hpy := wrap_mul p y
      obtain ⟨yy, hyy2⟩ : ∃ yy, y * y % 18446744073709551616 = yy := ⟨_, rfl⟩
      obtain ⟨py, hpy2⟩ : ∃ py, p * y % 18446744073709551616 = py := ⟨_, rfl⟩
      have hyl : yy < 18446744073709551616 := by rw [← hyy2]; exact Nat.mod_lt _ (by decide)
      have hpl : py < 18446744073709551616 := by rw [← hpy2]; exact Nat.mod_lt _ (by decide)
      rw [hyy2] at hyy hph
      rw [hpy2] at hpy hph
      rw [HV.out] at hph
      clear hyy2 hpy2
      by_cases hodd : k % 2 = 0
      · rw [hodd] at ha
        rw [if_pos hodd] at hph
        have HP := Lib.hid hph
        clear hph
        go_wp2_with fail
        exact ⟨⟨yy, k / 2, p, rfl, by go_num, rfl, by omega, hyl, hp, HP.out.symm⟩, by simp [natOf]; omega⟩
      · have h1 : k % 2 = 1 := by omega
        rw [h1] at ha
        rw [if_neg hodd] at hph
        have HP := Lib.hid hph
        clear hph
        go_wp2_with fail
        exact ⟨⟨yy, k / 2, py, rfl, by go_num, rfl, by omega, hyl, hpl, HP.out.symm⟩, by simp [natOf]; omega⟩
end Go.Proofs.YtikacehcjaaamaaDoor
