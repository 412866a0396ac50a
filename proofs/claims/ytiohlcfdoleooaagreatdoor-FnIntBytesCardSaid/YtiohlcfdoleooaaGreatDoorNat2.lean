/-
  math/bits' Add, Mul as math/big uses them.
  math/big's nat: norm, make.
-/
import Derived.Test.YtiohlcfdoleooaaGreatDoorScanSign
import Derived.Test.YtiohlcfdoleooaaGreatDoorShelf
import Derived.Laws.Externs
namespace Go.Proofs.YtiohlcfdoleooaaGreatDoor
open Go.RowKit

def W64 : Nat := 18446744073709551616
theorem infoWord : (Tryz.prog.info? 150).map (fun i => (i.zero, i.size, i.bytes)) = some (some (.int .u64 0), 1, 8) := by kernel_rfl
set_option maxRecDepth 100000 in
theorem add64_law (x y c : Nat) (hc : c ≤ 1) (w : World) : (callFunc 256 #[.int .u64 x, .int .u64 y, .int .u64 c]).run Tryz.prog w =
    .ok (.value (.tuple #[.int .u64 (((x + y + c) % 18446744073709551616 : Nat) : Int), .int .u64 (((x + y + c) / 18446744073709551616 : Nat) : Int)])) w := by
  rw [run_callFunc_extern Tryz.func256 (by kernel_rfl) (by kernel_rfl) (by kernel_rfl) (e := add64Entry) (by kernel_rfl), run_add64 x y c (by omega) (by omega) (by omega) (by omega)]
  simp only [Result.andThen]
  congr 5 <;> omega

set_option maxRecDepth 100000 in
set_option maxHeartbeats 1000000 in
theorem bitsAdd_walk (x y c : Nat) (w : World) (hx : x < 18446744073709551616) (hy : y < 18446744073709551616) (hc : c ≤ 1) :
    Calls Tryz.prog 219 #[.int .u64 x, .int .u64 y, .int .u64 c] w fun e w' =>
      e = .returned (.tuple #[.int .u64 (((x + y + c) % 18446744073709551616 : Nat) : Int), .int .u64 (((x + y + c) / 18446744073709551616 : Nat) : Int)]) ∧ w = w' := by
  have hq : (x + y + c) / 18446744073709551616 ≤ 1 := by omega
  have hm : (x + y + c) % 18446744073709551616 < 18446744073709551616 := Nat.mod_lt _ (by decide)
  have hA := add64_law x y c hc
  obtain ⟨s, hs⟩ : ∃ s, (x + y + c) % 18446744073709551616 = s := ⟨_, rfl⟩
  obtain ⟨q, hq2⟩ : ∃ q, (x + y + c) / 18446744073709551616 = q := ⟨_, rfl⟩
  rw [hs] at hA hm ⊢
  rw [hq2] at hA hq ⊢
  clear hs hq2
  go_enter Tryz.func219, Tryz.ntmps219
  go_wp2_with fail
  go_ret2
  exact ⟨rfl, rfl⟩

set_option maxRecDepth 100000 in
set_option maxHeartbeats 1000000 in
theorem mulAddWWW_walk (x y c : Nat) (w : World) (hx : x < 18446744073709551616) (hy : y < 18446744073709551616) (hc : c < 18446744073709551616) :
    Calls Tryz.prog 311 #[.int .u64 x, .int .u64 y, .int .u64 c] w fun e w' => e = .returned (.tuple #[.int .u64 (((x * y + c) / 18446744073709551616 : Nat) : Int), .int .u64 (((x * y + c) % 18446744073709551616 : Nat) : Int)]) ∧ w = w' := by
  have hxy : x * y ≤ 18446744073709551615 * 18446744073709551615 := Nat.mul_le_mul (by omega) (by omega)
  have e1 : (x * y + c) / 18446744073709551616 = x * y / 18446744073709551616 + (x * y % 18446744073709551616 + c) / 18446744073709551616 := by omega
  have e2 : (x * y + c) % 18446744073709551616 = (x * y % 18446744073709551616 + c) % 18446744073709551616 := by omega
  rw [e1, e2]
  have hh : x * y / 18446744073709551616 < 18446744073709551615 := by omega
  have hl : x * y % 18446744073709551616 < 18446744073709551616 := Nat.mod_lt _ (by decide)
  have hM := Tryz.bits_Mul x y hx hy
  obtain ⟨hi, hhi⟩ : ∃ hi, x * y / 18446744073709551616 = hi := ⟨_, rfl⟩
  obtain ⟨lo, hlo⟩ : ∃ lo, x * y % 18446744073709551616 = lo := ⟨_, rfl⟩
  rw [hhi] at hM hh ⊢
  rw [hlo] at hM hl ⊢
  clear e1 e2 hxy
  have hq : (lo + c) / 18446744073709551616 ≤ 1 := by omega
  have hm : (lo + c) % 18446744073709551616 < 18446744073709551616 := Nat.mod_lt _ (by decide)
  have hB := bitsAdd_walk lo c 0
  simp only [Nat.add_zero] at hB
  obtain ⟨s, hs⟩ : ∃ s, (lo + c) % 18446744073709551616 = s := ⟨_, rfl⟩
  obtain ⟨q, hq2⟩ : ∃ q, (lo + c) / 18446744073709551616 = q := ⟨_, rfl⟩
  rw [hs] at hB hm ⊢
  rw [hq2] at hB hq ⊢
  have HM := Lib.hid hM
  have HB := Lib.hid hB
  clear hs hq2 hM hB
  have hsum : (hi : Int) + q ≤ 18446744073709551615 := by omega
  have hcast : ((hi + q : Nat) : Int) = (hi : Int) + q := by omega
  rw [hcast]
  go_enter Tryz.func311, Tryz.ntmps311
  go_wp2_with fail
  refine (HM.out _).mono ?_
  rintro e w1 ⟨rfl, rfl⟩
  go_wp2_with fail
  refine (HB.out _ hl hc (by decide)).mono ?_
  rintro e w2 ⟨rfl, rfl⟩
  go_wp2_with fail
  go_ret2
  exact ⟨rfl, rfl⟩
end Go.Proofs.YtiohlcfdoleooaaGreatDoor

namespace Go.Proofs.YtiohlcfdoleooaaGreatDoor
open Go.RowKit

def NormRel (ws : List Nat) (v : Value) : Prop := ∃ k : Nat, v = .int .i64 k ∧ k ≤ ws.length ∧ trimN ws = trimN (ws.take k)

set_option maxRecDepth 100000 in
set_option maxHeartbeats 1000000 in
theorem norm_walk (A : Option Addr) (c : Nat) (ws : List Nat) (w : World) (hc : ws.length ≤ c) (hm : c ≤ 9223372036854775807) (hr : Rd w A (nums .u64 ws)) :
    Calls Tryz.prog 202 #[.slice A ws.length c] w fun e w' => e = .returned (.slice A (trimN ws).length c) ∧ w = w' := by
  have HR := Lib.hid hr
  clear hr
  go_enter Tryz.func202, Tryz.ntmps202
  go_wp2_with fail
  go_loop [3] (fun v => NormRel ws v) (fun v => natOf v)
  case atStart => exact ⟨ws.length, rfl, Nat.le_refl _, by simp⟩
  case round =>
    obtain ⟨k, rfl, hk, ht⟩ := hrel
    have HT := Lib.hid ht
    clear ht
    match k, hk, HT with
    | 0, hk, HT =>
      have e : trimN ws = [] := by rw [HT.out]; rfl
      have HE := Lib.hid e
      clear e
      have h0 : (0 : Int) ≤ ws.length := by omega
      have hc0 : (ws.length : Int) ≤ c := by omega
      go_wp2_with fail
      go_ret
      rw [HE.out]
      exact ⟨rfl, rfl⟩
    | k + 1, hk, HT =>
      have hk1 : k < ws.length := by omega
      obtain ⟨q, hq⟩ : ∃ q, ws[k] = q := ⟨_, rfl⟩
      obtain ⟨a, rfl, ha⟩ := rd_cell HR.out hk1
      rw [hq] at ha
      have e1 : ((k + 1 : Nat) : Int) = (k : Int) + 1 := by omega
      have hk0 : (0 : Int) < (k : Int) + 1 := by omega
      have hk2 : (k : Int) < ws.length := by omega
      have hk3 : (0 : Int) ≤ (k : Int) := by omega
      have hk4 : (k : Int) + 1 ≤ c := by omega
      have hk5 : (0 : Int) ≤ (k : Int) + 1 := by omega
      have hts : ws.take (k + 1) = ws.take k ++ [q] := by rw [List.take_add_one, List.getElem?_eq_getElem hk1, hq]; rfl
      have HTS := Lib.hid hts
      clear hts
      rw [e1]
      by_cases hq0 : q = 0
      · subst hq0
        go_wp2_with fail
        refine ⟨⟨k, by go_num, by omega, ?_⟩, by simp [natOf]⟩
        rw [HT.out, HTS.out, trimN_snoc, if_pos rfl]
      · have hqb : ((q : Int) == 0) = false := beq_eq_false_iff_ne.2 (by omega)
        have e : (trimN ws).length = k + 1 := by rw [HT.out, HTS.out, trimN_snoc, if_neg hq0]; simp; omega
        have HE := Lib.hid e
        clear e
        go_wp2_with fail
        go_ret
        rw [HE.out]
        exact ⟨rfl, rfl⟩

set_option maxRecDepth 100000 in
set_option maxHeartbeats 1000000 in
/-- make, where there is room. -/
theorem make_room_walk (A : Option Addr) (m c n : Nat) (w : World) (hn : n ≤ c) (_hm : c ≤ 9223372036854775807) (_hmc : m ≤ c) :
    Calls Tryz.prog 195 #[.slice A m c, .int .i64 n] w fun e w' => e = .returned (.slice A n c) ∧ w = w' := by
  have h1 : (n : Int) ≤ c := by omega
  have h2 : (0 : Int) ≤ n := by omega
  go_enter Tryz.func195, Tryz.ntmps195
  go_wp2_with fail
  go_ret
  exact ⟨rfl, rfl⟩

def roomFor (n : Nat) : Nat := if n = 1 then 1 else n + 4

set_option maxRecDepth 100000 in
set_option maxHeartbeats 1000000 in
/-- make, where there is none. -/
theorem make_new_walk (A : Option Addr) (m c n : Nat) (w : World) (hn : c < n) (hm : n ≤ 1000000) (_hmc : m ≤ c) :
    Calls Tryz.prog 195 #[.slice A m c, .int .i64 n] w fun e w' => e = .returned (.slice (some ⟨w.heap.size, 0, none⟩) n (roomFor n)) ∧ w' = w.alloc (.cells (madeCells #[.int .u64 0] (roomFor n)) 150) := by
  have h1 : ¬ (n : Int) ≤ c := by omega
  obtain ⟨i, hi, hzz⟩ := Option.map_eq_some_iff.1 infoWord
  simp only [Prod.mk.injEq] at hzz
  obtain ⟨hz, hs, hb⟩ := hzz
  unfold roomFor
  by_cases h : n = 1
  · subst h
    have hmk := fun w => run_make (P := Tryz.prog) w 99 150 i (.int .u64 0) Tryz.underlying99 hi hz .i64 .i64 1 1 (by decide) (by decide) (by rw [hb]; decide) (by decide)
    rw [if_pos rfl]
    simp only [hs] at hmk
    go_enter Tryz.func195, Tryz.ntmps195
    go_wp2_with fail
    go_ret
    exact ⟨rfl, rfl⟩
  · have hne : ((n : Int) == 1) = false := beq_eq_false_iff_ne.2 (by omega)
    have hmk := fun w => run_make (P := Tryz.prog) w 99 150 i (.int .u64 0) Tryz.underlying99 hi hz .i64 .i64 n ((n : Int) + 4) (by omega) (by omega) (by rw [hb]; omega) (by omega)
    have e4 : ((n : Int) + 4).toNat = n + 4 := by omega
    simp only [hs, e4, Int.toNat_natCast, Nat.mul_one] at hmk
    rw [if_neg h]
    go_enter Tryz.func195, Tryz.ntmps195
    go_wp2_with fail
    go_ret
    exact ⟨rfl, rfl⟩
end Go.Proofs.YtiohlcfdoleooaaGreatDoor
