/-
  math/bits' Add, Mul as math/big uses them.
  math/big's nat: norm, make.
-/
import Derived.Test.YtapfolgiafnllaaGreatDoorBn11Z
import Derived.Test.YtapfolgiafnllaaGreatDoorShelf
import Derived.Laws.Externs
namespace Go.Proofs.YtapfolgiafnllaaGreatDoor
open Go.RowKit

def W64 : Nat := 18446744073709551616
theorem infoWord : (Tryz.prog.info? 106).map (fun i => (i.zero, i.size, i.bytes)) = some (some (.int .u64 0), 1, 8) := by kernel_rfl
set_option maxRecDepth 100000 in
theorem add64_law (x y c : Nat) (hc : c ≤ 1) (w : World) : (callFunc 207 #[.int .u64 x, .int .u64 y, .int .u64 c]).run Tryz.prog w =
    .ok (.value (.tuple #[.int .u64 (((x + y + c) % 18446744073709551616 : Nat) : Int), .int .u64 (((x + y + c) / 18446744073709551616 : Nat) : Int)])) w := by
  rw [run_callFunc_extern Tryz.func207 (by kernel_rfl) (by kernel_rfl) (by kernel_rfl) (e := add64Entry) (by kernel_rfl), run_add64 x y c (by omega) (by omega) (by omega) (by omega)]
  simp only [Result.andThen]
  congr 5 <;> omega

set_option maxRecDepth 100000 in
set_option maxHeartbeats 1000000 in
theorem bitsAdd_walk (x y c : Nat) (w : World) (hx : x < 18446744073709551616) (hy : y < 18446744073709551616) (hc : c ≤ 1) :
    Calls Tryz.prog 173 #[.int .u64 x, .int .u64 y, .int .u64 c] w fun e w' =>
      e = .returned (.tuple #[.int .u64 (((x + y + c) % 18446744073709551616 : Nat) : Int), .int .u64 (((x + y + c) / 18446744073709551616 : Nat) : Int)]) ∧ w = w' := by
  have hq : (x + y + c) / 18446744073709551616 ≤ 1 := by omega
  have hm : (x + y + c) % 18446744073709551616 < 18446744073709551616 := Nat.mod_lt _ (by decide)
  have hA := add64_law x y c hc
  obtain ⟨s, hs⟩ : ∃ s, (x + y + c) % 18446744073709551616 = s := ⟨_, rfl⟩
  obtain ⟨q, hq2⟩ : ∃ q, (x + y + c) / 18446744073709551616 = q := ⟨_, rfl⟩
  rw [hs] at hA hm ⊢
  rw [hq2] at hA hq ⊢
  clear hs hq2
  go_enter Tryz.func173, Tryz.ntmps173
  go_wp2_with fail
  go_ret2
  exact ⟨rfl, rfl⟩

set_option maxRecDepth 100000 in
set_option maxHeartbeats 1000000 in
theorem mulAddWWW_walk (x y c : Nat) (w : World) (hx : x < 18446744073709551616) (hy : y < 18446744073709551616) (hc : c < 18446744073709551616) :
    Calls Tryz.prog 241 #[.int .u64 x, .int .u64 y, .int .u64 c] w fun e w' => e = .returned (.tuple #[.int .u64 (((x * y + c) / 18446744073709551616 : Nat) : Int), .int .u64 (((x * y + c) % 18446744073709551616 : Nat) : Int)]) ∧ w = w' := by
  have hxy : x * y ≤ 18446744073709551615 * 18446744073709551615 := Nat.mul_le_mul (by omega) (by omega)
  have e1 : (x * y + c) / 18446744073709551616 = x * y / 18446744073709551616 + (x * y % 18446744073709551616 + c) / 18446744073709551616 := by omega
  have e2 : (x * y + c) % 18446744073709551616 = (x * y % 18446744073709551616 + c) % 18446744073709551616 := by omega
  rw [e1, e2]
  have hh : x * y / 18446744073709551616 < 18446744073709551615 := by omega
  have hl : x * y % 18446744073709551616 < 18446744073709551616 := Nat.mod_lt _ (by decide)
  have hM := Tryz.bits_Mul x y hx hy
  obtain ⟨hi, hhi⟩ : ∃ hi, x * y / 18446744073709551616 = hi := ⟨_, rfl⟩
  obtain ⟨lo, hlo⟩ : ∃ lo, x * y % 18446744073709551616 = lo := ⟨_, rfl⟩
  rw [hhi] at hM hh ⊢
  rw [hlo] at hM hl ⊢
  clear e1 e2 hxy
  have hq : (lo + c) / 18446744073709551616 ≤ 1 := by omega
  have hm : (lo + c) % 18446744073709551616 < 18446744073709551616 := Nat.mod_lt _ (by decide)
  have hB := bitsAdd_walk lo c 0
  simp only [Nat.add_zero] at hB
  obtain ⟨s, hs⟩ : ∃ s, (lo + c) % 18446744073709551616 = s := ⟨_, rfl⟩
  obtain ⟨q, hq2⟩ : ∃ q, (lo + c) / 18446744073709551616 = q := ⟨_, rfl⟩
  rw [hs] at hB hm ⊢
  rw [hq2] at hB hq ⊢
  have HM := Lib.hid hM
  have HB := Lib.hid hB
  clear hs hq2 hM hB
  have hsum : (hi : Int) + q ≤ 18446744073709551615 := by omega
  have hcast : ((hi + q : Nat) : Int) = (hi : Int) + q := by omega
  rw [hcast]
  go_enter Tryz.func241, Tryz.ntmps241
  go_wp2_with fail
  refine (HM.out _).mono ?_
  rintro e w1 ⟨rfl, rfl⟩
  go_wp2_with fail
  refine (HB.out _ hl hc (by decide)).mono ?_
  rintro e w2 ⟨rfl, rfl⟩
  go_wp2_with fail
  go_ret2
  exact ⟨rfl, rfl⟩
end Go.Proofs.YtapfolgiafnllaaGreatDoor

namespace Go.Proofs.YtapfolgiafnllaaGreatDoor
open Go.RowKit

def NormRel (ws : List Nat) (v : Value) : Prop := ∃ k : Nat, v = .int .i64 k ∧ k ≤ ws.length ∧ trimN ws = trimN (ws.take k)

set_option maxRecDepth 100000 in
set_option maxHeartbeats 1000000 in
theorem norm_walk (A : Option Addr) (c : Nat) (ws : List Nat) (w : World) (hc : ws.length ≤ c) (hm : c ≤ 9223372036854775807) (hr : Rd w A (nums .u64 ws)) :
    Calls Tryz.prog 139 #[.slice A ws.length c] w fun e w' => e = .returned (.slice A (trimN ws).length c) ∧ w = w' := by
  have HR := Lib.hid hr
  clear hr
  go_enter Tryz.func139, Tryz.ntmps139
  go_wp2_with fail
  go_loop [3] (fun v => NormRel ws v) (fun v => natOf v)
  case atStart => exact ⟨ws.length, rfl, Nat.le_refl _, by simp⟩
  case round =>
    obtain ⟨k, rfl, hk, ht⟩ := hrel
    have HT := Lib.hid ht
    clear ht
    match k, hk, HT with
    | 0, hk, HT =>
      have e : trimN ws = [] := by rw [HT.out]; rfl
      have HE := Lib.hid e
      clear e
      have h0 : (0 : Int) ≤ ws.length := by omega
      have hc0 : (ws.length : Int) ≤ c := by omega
      go_wp2_with fail
      go_ret
      rw [HE.out]
      exact ⟨rfl, rfl⟩
    | k + 1, hk, HT =>
      have hk1 : k < ws.length := by omega
      obtain ⟨q, hq⟩ : ∃ q, ws[k] = q := ⟨_, rfl⟩
      obtain ⟨a, rfl, ha⟩ := rd_cell HR.out hk1
      rw [hq] at ha
      have e1 : ((k + 1 : Nat) : Int) = (k : Int) + 1 := by omega
      have hk0 : (0 : Int) < (k : Int) + 1 := by omega
      have hk2 : (k : Int) < ws.length := by omega
      have hk3 : (0 : Int) ≤ (k : Int) := by omega
      have hk4 : (k : Int) + 1 ≤ c := by omega
      have hk5 : (0 : Int) ≤ (k : Int) + 1 := by omega
      have hts : ws.take (k + 1) = ws.take k ++ [q] := by rw [List.take_add_one, List.getElem?_eq_getElem hk1, hq]; rfl
      have HTS := Lib.hid hts
      clear hts
      rw [e1]
      by_cases hq0 : q = 0
      · subst hq0
        go_wp2_with fail
        refine ⟨⟨k, by go_num, by omega, ?_⟩, by simp [natOf]⟩
        rw [HT.out, HTS.out, trimN_snoc, if_pos rfl]
      · have hqb : ((q : Int) == 0) = false := beq_eq_false_iff_ne.2 (by omega)
        have e : (trimN ws).length = k + 1 := by rw [HT.out, HTS.out, trimN_snoc, if_neg hq0]; simp; omega
        have HE := Lib.hid e
        clear e
        go_wp2_with fail
        go_ret
        rw [HE.out]
        exact ⟨rfl, rfl⟩

set_option maxRecDepth 100000 in
set_option maxHeartbeats 1000000 in
/-- make, where there is room. -/
theorem make_room_walk (A : Option Addr) (m c n : Nat) (w : World) (hn : n ≤ c) (_hm : c ≤ 9223372036854775807) (_hmc : m ≤ c) :
    Calls Tryz.prog 121 #[.slice A m c, .int .i64 n] w fun e w' => e = .returned (.slice A n c) ∧ w = w' := by
  have h1 : (n : Int) ≤ c := by omega
  have h2 : (0 : Int) ≤ n := by omega
  go_enter Tryz.func121, Tryz.ntmps121
  go_wp2_with fail
  go_ret
  exact ⟨rfl, rfl⟩

def roomFor (n : Nat) : Nat := if n = 1 then 1 else n + 4

set_option maxRecDepth 100000 in
set_option maxHeartbeats 1000000 in
/-- make, where there is none. -/
theorem make_new_walk (A : Option Addr) (m c n : Nat) (w : World) (hn : c < n) (hm : n ≤ 1000000) (_hmc : m ≤ c) :
    Calls Tryz.prog 121 #[.slice A m c, .int .i64 n] w fun e w' => e = .returned (.slice (some ⟨w.heap.size, 0, none⟩) n (roomFor n)) ∧ w' = w.alloc (.cells (madeCells #[.int .u64 0] (roomFor n)) 106) := by
  have h1 : ¬ (n : Int) ≤ c := by omega
  obtain ⟨i, hi, hzz⟩ := Option.map_eq_some_iff.1 infoWord
  simp only [Prod.mk.injEq] at hzz
  obtain ⟨hz, hs, hb⟩ := hzz
  unfold roomFor
  by_cases h : n = 1
  · subst h
    have hmk := fun w => run_make (P := Tryz.prog) w 78 106 i (.int .u64 0) Tryz.underlying78 hi hz .i64 .i64 1 1 (by decide) (by decide) (by rw [hb]; decide) (by decide)
    rw [if_pos rfl]
    simp only [hs] at hmk
    go_enter Tryz.func121, Tryz.ntmps121
    go_wp2_with fail
    go_ret
    exact ⟨rfl, rfl⟩
  · have hne : ((n : Int) == 1) = false := beq_eq_false_iff_ne.2 (by omega)
    have hmk := fun w => run_make (P := Tryz.prog) w 78 106 i (.int .u64 0) Tryz.underlying78 hi hz .i64 .i64 n ((n : Int) + 4) (by omega) (by omega) (by rw [hb]; omega) (by omega)
    have e4 : ((n : Int) + 4).toNat = n + 4 := by omega
    simp only [hs, e4, Int.toNat_natCast, Nat.mul_one] at hmk
    rw [if_neg h]
    go_enter Tryz.func121, Tryz.ntmps121
    go_wp2_with fail
    go_ret
    exact ⟨rfl, rfl⟩
end Go.Proofs.YtapfolgiafnllaaGreatDoor

/-
  Long division of lists of words: one digit's step, in plain numbers.
-/
namespace Go.Proofs.YtapfolgiafnllaaGreatDoor

theorem valD_lt_pow {xs : List Nat} (h : ∀ d ∈ xs, d < 18446744073709551616) : valD 18446744073709551616 xs < 18446744073709551616 ^ xs.length := valD_lt (b := 18446744073709551616) (by decide) h
theorem valD_take_drop (us : List Nat) (j : Nat) (h : j ≤ us.length) : valD 18446744073709551616 us = valD 18446744073709551616 (us.take j) + 18446744073709551616 ^ j * valD 18446744073709551616 (us.drop j) := by
  have h2 := valD_append (b := 18446744073709551616) (us.take j) (us.drop j)
  rw [List.take_append_drop, List.length_take, Nat.min_eq_left h] at h2
  exact h2
/-- The first three words of a part. -/
theorem valD_top3 {xs : List Nat} {k : Nat} (h : k + 2 < xs.length) : valD 18446744073709551616 (xs.take (k + 3)) = ((xs[k + 2] * 18446744073709551616 + xs[k + 1]) * 18446744073709551616 + xs[k]) * 18446744073709551616 ^ k + valD 18446744073709551616 (xs.take k) := by
  have p1 : 18446744073709551616 ^ (k + 1) = 18446744073709551616 ^ k * 18446744073709551616 := Nat.pow_succ _ _
  have p2 : 18446744073709551616 ^ (k + 2) = 18446744073709551616 ^ k * 18446744073709551616 * 18446744073709551616 := by rw [Nat.pow_succ, Nat.pow_succ]
  rw [show k + 3 = (k + 2) + 1 from rfl, valD_take_succ h, valD_take_succ (show k + 1 < xs.length by omega), valD_take_succ (show k < xs.length by omega), p2, p1]
  rw [Nat.add_mul, Nat.add_mul, Nat.add_mul]
  have e1 : 18446744073709551616 ^ k * 18446744073709551616 * 18446744073709551616 * xs[k + 2] = xs[k + 2] * 18446744073709551616 * 18446744073709551616 * 18446744073709551616 ^ k := by
    rw [Nat.mul_comm _ (xs[k + 2]), ← Nat.mul_assoc, ← Nat.mul_assoc, Nat.mul_assoc (xs[k + 2]), Nat.mul_comm (18446744073709551616 ^ k) 18446744073709551616, ← Nat.mul_assoc, Nat.mul_assoc (xs[k + 2] * 18446744073709551616), Nat.mul_comm (18446744073709551616 ^ k) 18446744073709551616, ← Nat.mul_assoc]
  have e2 : 18446744073709551616 ^ k * 18446744073709551616 * xs[k + 1] = xs[k + 1] * 18446744073709551616 * 18446744073709551616 ^ k := by
    rw [Nat.mul_comm _ (xs[k + 1]), ← Nat.mul_assoc, Nat.mul_assoc (xs[k + 1]), Nat.mul_comm (18446744073709551616 ^ k) 18446744073709551616, ← Nat.mul_assoc]
  have e3 : 18446744073709551616 ^ k * xs[k] = xs[k] * 18446744073709551616 ^ k := Nat.mul_comm _ _
  rw [e1, e2, e3]
  omega
theorem valD_top2 {xs : List Nat} {k : Nat} (h : k + 1 < xs.length) : valD 18446744073709551616 (xs.take (k + 2)) = (xs[k + 1] * 18446744073709551616 + xs[k]) * 18446744073709551616 ^ k + valD 18446744073709551616 (xs.take k) := by
  rw [show k + 2 = (k + 1) + 1 from rfl, valD_take_succ h, valD_take_succ (show k < xs.length by omega), Nat.pow_succ, Nat.add_mul]
  have e2 : 18446744073709551616 ^ k * 18446744073709551616 * xs[k + 1] = xs[k + 1] * 18446744073709551616 * 18446744073709551616 ^ k := by
    rw [Nat.mul_comm _ (xs[k + 1]), ← Nat.mul_assoc, Nat.mul_assoc (xs[k + 1]), Nat.mul_comm (18446744073709551616 ^ k) 18446744073709551616, ← Nat.mul_assoc]
  have e3 : 18446744073709551616 ^ k * xs[k] = xs[k] * 18446744073709551616 ^ k := Nat.mul_comm _ _
  rw [e2, e3]
  omega
theorem all_take {xs : List Nat} (h : ∀ d ∈ xs, d < 18446744073709551616) (k : Nat) : ∀ d ∈ xs.take k, d < 18446744073709551616 := fun d hd => h d (List.mem_of_mem_take hd)
theorem all_drop {xs : List Nat} (h : ∀ d ∈ xs, d < 18446744073709551616) (k : Nat) : ∀ d ∈ xs.drop k, d < 18446744073709551616 := fun d hd => h d (List.mem_of_mem_drop hd)

/-- The first word of a part is no greater than the divisor's. -/
theorem top_le {B P u0 u1 u2 v1 v2 Ul Vl : Nat} (h : ((u0 * B + u1) * B + u2) * P + Ul < ((v1 * B + v2) * P + Vl) * B) (hv2 : v2 < B) (hVl : Vl < P) : u0 ≤ v1 := by
  refine Nat.le_of_not_lt fun hgt => ?_
  have b1 : (v1 + 1) * B ≤ u0 * B := Nat.mul_le_mul_right _ hgt
  have b2 : (v1 + 1) * B * B ≤ (u0 * B + u1) * B := Nat.mul_le_mul_right _ (Nat.le_trans b1 (Nat.le_add_right _ _))
  have b3 : (v1 + 1) * B * B * P ≤ ((u0 * B + u1) * B + u2) * P := Nat.mul_le_mul_right _ (Nat.le_trans b2 (Nat.le_add_right _ _))
  have c1 : (v1 * B + v2) * P + Vl ≤ (v1 * B + v2 + 1) * P := by rw [Nat.succ_mul]; omega
  have c2 : v1 * B + v2 + 1 ≤ (v1 + 1) * B := by rw [Nat.succ_mul]; omega
  have c3 := Nat.le_trans c1 (Nat.mul_le_mul_right P c2)
  have c4 := Nat.mul_le_mul_right B c3
  have e : (v1 + 1) * B * P * B = (v1 + 1) * B * B * P := by rw [Nat.mul_assoc ((v1 + 1) * B), Nat.mul_comm P B, ← Nat.mul_assoc]
  rw [e] at c4
  omega
/-- What a digit's step knows: the part's value US, the divisor's V, the first words. -/
structure Digit (us vs : List Nat) (j k : Nat) (US V u0 u1 u2 v1 v2 : Nat) : Prop where
  US_eq : US = ((u0 * 18446744073709551616 + u1) * 18446744073709551616 + u2) * 18446744073709551616 ^ k + valD 18446744073709551616 ((us.drop j).take k)
  V_eq : V = (v1 * 18446744073709551616 + v2) * 18446744073709551616 ^ k + valD 18446744073709551616 (vs.take k)
  lt : US < V * 18446744073709551616
  us_eq : valD 18446744073709551616 us = valD 18446744073709551616 (us.take j) + 18446744073709551616 ^ j * US
  u0_le : u0 ≤ v1
  words : u0 < 18446744073709551616 ∧ u1 < 18446744073709551616 ∧ u2 < 18446744073709551616 ∧ v1 < 18446744073709551616 ∧ v2 < 18446744073709551616
  low : valD 18446744073709551616 ((us.drop j).take k) < 18446744073709551616 ^ k
  vlow : valD 18446744073709551616 (vs.take k) < 18446744073709551616 ^ k
  sect : valD 18446744073709551616 ((us.drop j).take (k + 3)) = US
  vs_eq : valD 18446744073709551616 vs = V
theorem digit_of {us vs : List Nat} {j k : Nat} (hu : ∀ d ∈ us, d < 18446744073709551616) (hv : ∀ d ∈ vs, d < 18446744073709551616) (hk : vs.length = k + 2) (hj : j + (k + 2) < us.length) (hlt : valD 18446744073709551616 us < valD 18446744073709551616 vs * 18446744073709551616 ^ (j + 1)) :
    ∃ US V, Digit us vs j k US V us[j + (k + 2)] us[j + (k + 1)] us[j + k] vs[k + 1] vs[k] := by
  have hxs : (us.drop j).length = us.length - j := List.length_drop
  have h3 := valD_top3 (xs := us.drop j) (k := k) (by omega)
  have h2 := valD_top2 (xs := vs) (k := k) (by omega)
  have g0 : (us.drop j)[k + 2]'(by omega) = us[j + (k + 2)] := by simp
  have g1 : (us.drop j)[k + 1]'(by omega) = us[j + (k + 1)] := by simp
  have g2 : (us.drop j)[k]'(by omega) = us[j + k] := by simp
  rw [g0, g1, g2] at h3
  have ht : vs.take (k + 2) = vs := List.take_of_length_le (by omega)
  rw [ht] at h2
  have hlow : valD 18446744073709551616 ((us.drop j).take k) < 18446744073709551616 ^ k := by
    have := valD_lt_pow (all_take (all_drop hu j) k)
    rw [List.length_take, Nat.min_eq_left (by omega)] at this
    exact this
  have hvlow : valD 18446744073709551616 (vs.take k) < 18446744073709551616 ^ k := by
    have := valD_lt_pow (all_take hv k)
    rw [List.length_take, Nat.min_eq_left (by omega)] at this
    exact this
  have hw : ∀ i (h : i < us.length), us[i] < 18446744073709551616 := fun i h => hu _ (List.getElem_mem h)
  have hw2 : ∀ i (h : i < vs.length), vs[i] < 18446744073709551616 := fun i h => hv _ (List.getElem_mem h)
  have hus := valD_take_drop us j (by omega)
  have hup := valD_take_drop (us.drop j) (k + 3) (by omega)
  have hVlt := valD_lt_pow hv
  rw [hk] at hVlt
  obtain ⟨US, hUS⟩ : ∃ US, valD 18446744073709551616 ((us.drop j).take (k + 3)) = US := ⟨_, rfl⟩
  obtain ⟨V, hV⟩ : ∃ V, valD 18446744073709551616 vs = V := ⟨_, rfl⟩
  obtain ⟨X, hX⟩ : ∃ X, valD 18446744073709551616 ((us.drop j).drop (k + 3)) = X := ⟨_, rfl⟩
  obtain ⟨T, hT⟩ : ∃ T, valD 18446744073709551616 (us.drop j) = T := ⟨_, rfl⟩
  obtain ⟨Y, hY⟩ : ∃ Y, valD 18446744073709551616 (us.take j) = Y := ⟨_, rfl⟩
  rw [hUS] at h3 hup
  rw [hV] at h2 hlt hVlt
  rw [hX, hT] at hup
  rw [hT, hY] at hus
  have hT1 : T < V * 18446744073709551616 := by
    refine Nat.lt_of_mul_lt_mul_left (a := 18446744073709551616 ^ j) ?_
    have e : V * 18446744073709551616 ^ (j + 1) = 18446744073709551616 ^ j * (V * 18446744073709551616) := by rw [Nat.pow_succ, Nat.mul_comm V, Nat.mul_assoc, Nat.mul_comm 18446744073709551616 V]
    rw [e] at hlt
    omega
  have hX0 : X = 0 := by
    rcases Nat.eq_zero_or_pos X with h | h
    · exact h
    · exfalso
      have h4 : 18446744073709551616 ^ (k + 3) * 1 ≤ 18446744073709551616 ^ (k + 3) * X := Nat.mul_le_mul_left _ h
      have h5 : V * 18446744073709551616 ≤ 18446744073709551616 ^ (k + 2) * 18446744073709551616 := Nat.mul_le_mul_right _ (Nat.le_of_lt hVlt)
      rw [show k + 3 = (k + 2) + 1 from rfl, Nat.pow_succ] at h4
      rw [show k + 3 = (k + 2) + 1 from rfl, Nat.pow_succ] at hup
      omega
  rw [hX0, Nat.mul_zero, Nat.add_zero] at hup
  subst hup
  refine ⟨T, V, ⟨h3, h2, hT1, by rw [hY]; exact hus, ?_, ⟨hw _ _, hw _ _, hw _ _, hw2 _ _, hw2 _ _⟩, hlow, hvlow, hUS, hV⟩⟩
  -- u0 ≤ v1
  obtain ⟨u0, hu0⟩ : ∃ u0, us[j + (k + 2)] = u0 := ⟨_, rfl⟩
  obtain ⟨v1, hv1⟩ : ∃ v1, vs[k + 1] = v1 := ⟨_, rfl⟩
  have hv2 := hw2 k (by omega)
  rw [hu0] at h3 ⊢
  rw [hv1] at h2 ⊢
  rw [h3, h2] at hT1
  exact top_le hT1 hv2 hvlow

section
variable {us vs : List Nat} {j k US V u0 u1 u2 v1 v2 : Nat}
/-- The guess by three words and two. -/
theorem Digit.guess (h : Digit us vs j k US V u0 u1 u2 v1 v2) (hb : 9223372036854775808 ≤ v1) (hu : u0 < v1) : US / V ≤ ((u0 * 18446744073709551616 + u1) * 18446744073709551616 + u2) / (v1 * 18446744073709551616 + v2) ∧ ((u0 * 18446744073709551616 + u1) * 18446744073709551616 + u2) / (v1 * 18446744073709551616 + v2) ≤ US / V + 1 ∧ u0 * 18446744073709551616 + u1 < v1 * 18446744073709551616 + v2 ∧ ((u0 * 18446744073709551616 + u1) * 18446744073709551616 + u2) / (v1 * 18446744073709551616 + v2) < 18446744073709551616 := by
  obtain ⟨w0, w1, w2, w3, w4⟩ := h.words
  have hn : u0 * 18446744073709551616 + u1 < v1 * 18446744073709551616 + v2 := by
    have := Nat.mul_le_mul_right 18446744073709551616 (show u0 + 1 ≤ v1 from hu)
    rw [Nat.add_mul] at this
    omega
  have hlt := hd_lt hn w2
  rw [h.US_eq, h.V_eq]
  exact ⟨q3_ge h.low (by omega), q3_le (B := 18446744073709551616) h.vlow (by have := Nat.mul_le_mul_right 18446744073709551616 hb; omega) (Nat.le_of_lt hlt) (by omega), hn, hlt⟩
/-- The guess where the first words are the same. -/
theorem Digit.most (h : Digit us vs j k US V u0 u1 u2 v1 v2) (hb : 9223372036854775808 ≤ v1) (hu : u0 = v1) : US / V ≤ 18446744073709551616 - 1 ∧ 18446744073709551616 - 1 ≤ US / V + 1 := by
  subst hu
  obtain ⟨w0, w1, w2, w3, w4⟩ := h.words
  refine ⟨qm_ge h.lt (by decide), ?_⟩
  have e1 : US = u0 * 18446744073709551616 * (18446744073709551616 * 18446744073709551616 ^ k) + ((u1 * 18446744073709551616 + u2) * 18446744073709551616 ^ k + valD 18446744073709551616 ((us.drop j).take k)) := by
    rw [h.US_eq, Nat.add_mul (u0 * 18446744073709551616) u1, Nat.add_mul _ u2, Nat.add_mul _ u2, Nat.add_mul _ (u1 * 18446744073709551616), Nat.mul_assoc (u0 * 18446744073709551616) 18446744073709551616]
    omega
  have e2 : V = u0 * (18446744073709551616 * 18446744073709551616 ^ k) + (v2 * 18446744073709551616 ^ k + valD 18446744073709551616 (vs.take k)) := by
    rw [h.V_eq, Nat.add_mul, Nat.mul_assoc]
    omega
  rw [e1, e2]
  refine qm_le ?_ (by omega) (by decide) (by omega)
  have := Nat.mul_le_mul_right (18446744073709551616 ^ k) (show v2 + 1 ≤ 18446744073709551616 from w4)
  rw [Nat.add_mul] at this
  have := h.vlow
  omega
end
end Go.Proofs.YtapfolgiafnllaaGreatDoor
