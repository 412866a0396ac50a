/-
  The reference's Based.
-/
import Derived.Test.YthipbglnaalhmaaGreatDoorSpecMul
namespace Go.Proofs.YthipbglnaalhmaaGreatDoor
open Go.RowKit

/-- A digit's byte. -/
def hexC (d : Nat) : UInt8 := if d < 10 then UInt8.ofNat (48 + d) else UInt8.ofNat (87 + d)
/-- The text of a number in a base. -/
def basedT (b m : Nat) : List UInt8 := if m = 0 then [48] else (toD b m).reverse.map hexC
def BasedRel (b n : Nat) (w : World) (nv sv : Value) (wr : World) : Prop := ∃ (m : Nat) (l : List UInt8), nv = .int .u64 (m : Int) ∧ sv = .string (S l) ∧ m < 18446744073709551616 ∧ basedT b n = basedT b m ++ l ∧ wr = w
theorem hexS : ∀ d : Nat, d < 16 → (⟨#[48, 49, 50, 51, 52, 53, 54, 55, 56, 57, 97, 98, 99, 100, 101, 102]⟩ : ByteArray).extract d (d + 1) = S [hexC d] := by decide
theorem basedT_step {b m : Nat} (hb : 1 < b) (h : m / b ≠ 0) : basedT b m = basedT b (m / b) ++ [hexC (m % b)] := by
  have h0 : m ≠ 0 := by intro e; subst e; simp at h
  unfold basedT
  rw [if_neg h0, if_neg h, toD_pos hb h0]
  simp
theorem basedT_last {b m : Nat} (hb : 1 < b) (h : m / b = 0) : basedT b m = [hexC (m % b)] := by
  by_cases h0 : m = 0
  · subst h0; simp [basedT, hexC]
  · unfold basedT
    rw [if_neg h0, toD_pos hb h0, h, toD_zero]
    simp
theorem basedT_len {b n : Nat} (hb : 1 < b) (hn : n < 18446744073709551616) : (basedT b n).length ≤ 64 := by
  unfold basedT
  split
  · simp
  · have h1 : (18446744073709551616 : Nat) ≤ b ^ 64 := Nat.le_trans (by decide : (18446744073709551616 : Nat) ≤ 2 ^ 64) (Nat.pow_le_pow_left hb 64)
    have := toD_length_le hb 64 n (Nat.lt_of_lt_of_le hn h1)
    simpa using this
set_option maxRecDepth 100000 in
set_option maxHeartbeats 2000000 in
theorem based_walk (n b : Nat) (w : World) (hn : n < 18446744073709551616) (hb : 1 < b) (hb2 : b ≤ 16) :
    Calls Tryz.prog 11 #[.int .u64 n, .int .u64 b] w fun e w' => e = .returned (.string (S (basedT b n))) ∧ w' = w := by
  have hbz : ((b : Int) == 0) = false := beq_eq_false_iff_ne.2 (by omega)
  have hbi : (b : Int) ≤ 16 := by omega
  have hb1 : (1 : Int) < b := by omega
  go_enter Tryz.func11, Tryz.ntmps11
  go_wp2_with fail
  go_loopw [0, 5] (fun nv sv wr => BasedRel b n w nv sv wr) (fun nv _ _ => natOf nv)
  case atStart => exact ⟨n, [], rfl, rfl, hn, by simp, rfl⟩
  case round =>
    obtain ⟨m, l, rfl, rfl, hm, ht, rfl⟩ := hrel
    have hd : m % b < 16 := Nat.lt_of_lt_of_le (Nat.mod_lt _ (by omega)) hb2
    have hx := hexS (m % b) hd
    have hmod : (m : Int) % (b : Int) = ((m % b : Nat) : Int) := by omega
    have hdiv : (m : Int) / (b : Int) = ((m / b : Nat) : Int) := by omega
    have hll : (l.length : Int) ≤ 64 := by
      have h1 := basedT_len hb hn
      rw [ht, List.length_append] at h1
      omega
    have HT := Lib.hid ht
    have HX := Lib.hid hx
    obtain ⟨d, hdd⟩ : ∃ d, m % b = d := ⟨_, rfl⟩
    obtain ⟨q, hq⟩ : ∃ q, m / b = q := ⟨_, rfl⟩
    rw [hdd] at hmod hd HX
    rw [hq] at hdiv
    have hd0 : (0 : Int) ≤ d := by omega
    have hd1 : (d : Int) < 16 := by omega
    have HD := Lib.hid hdd
    have HQ := Lib.hid hq
    clear ht hx hdd hq
    by_cases h0 : q = 0
    · have hq0 : ((q : Int) == 0) = true := by rw [h0]; rfl
      subst h0
      have hfin : basedT b n = [hexC d] ++ l := by rw [HT.out, basedT_last hb HQ.out, HD.out]
      have HF := Lib.hid hfin
      clear hfin
      go_wp2_with fail
      go_ret
      exact ⟨by rw [HF.out, ← S_append, ← HX.out]; rfl, rfl⟩
    · have hq0 : ((q : Int) == 0) = false := beq_eq_false_iff_ne.2 (by omega)
      have hmq : q < m := by have h1 := HQ.out; have h2 : m ≠ 0 := (by intro e; subst e; simp at h1; exact h0 h1.symm); rw [← h1]; exact Nat.div_lt_self (by omega) hb
      go_wp2_with fail
      refine ⟨⟨q, [hexC d] ++ l, rfl, by rw [← S_append, ← HX.out], by omega, ?_, rfl⟩, ?_⟩
      · rw [HT.out, basedT_step hb (by rw [HQ.out]; exact h0), HQ.out, HD.out]
        simp
      · simp [natOf]
        omega
end Go.Proofs.YthipbglnaalhmaaGreatDoor
