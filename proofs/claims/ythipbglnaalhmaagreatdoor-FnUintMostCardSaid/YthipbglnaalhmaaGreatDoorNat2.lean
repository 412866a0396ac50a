/-
  math/big's nat: norm, make.
-/
import Derived.Test.YthipbglnaalhmaaGreatDoorNat1
namespace Go.Proofs.YthipbglnaalhmaaGreatDoor
open Go.RowKit

def NormRel (ws : List Nat) (v : Value) : Prop := ∃ k : Nat, v = .int .i64 k ∧ k ≤ ws.length ∧ trimN ws = trimN (ws.take k)

set_option maxRecDepth 100000 in
set_option maxHeartbeats 1000000 in
theorem norm_walk (A : Option Addr) (c : Nat) (ws : List Nat) (w : World) (hc : ws.length ≤ c) (hm : c ≤ 9223372036854775807) (hr : Rd w A (nums .u64 ws)) :
    Calls Tryz.prog 200 #[.slice A ws.length c] w fun e w' => e = .returned (.slice A (trimN ws).length c) ∧ w = w' := by
  have HR := Lib.hid hr
  clear hr
  go_enter Tryz.func200, Tryz.ntmps200
  go_wp2_with fail
  go_loop [3] (fun v => NormRel ws v) (fun v => natOf v)
  case atStart => exact ⟨ws.length, rfl, Nat.le_refl _, by simp⟩
  case round =>
    obtain ⟨k, rfl, hk, ht⟩ := hrel
    have HT := Lib.hid ht
    clear ht
    match k, hk, HT with
    | 0, hk, HT =>
      have e : trimN ws = [] := by rw [HT.out]; rfl
      have HE := Lib.hid e
      clear e
      have h0 : (0 : Int) ≤ ws.length := by omega
      have hc0 : (ws.length : Int) ≤ c := by omega
      go_wp2_with fail
      go_ret
      rw [HE.out]
      exact ⟨rfl, rfl⟩
    | k + 1, hk, HT =>
      have hk1 : k < ws.length := by omega
      obtain ⟨q, hq⟩ : ∃ q, ws[k] = q := ⟨_, rfl⟩
      obtain ⟨a, rfl, ha⟩ := rd_cell HR.out hk1
      rw [hq] at ha
      have e1 : ((k + 1 : Nat) : Int) = (k : Int) + 1 := by omega
      have hk0 : (0 : Int) < (k : Int) + 1 := by omega
      have hk2 : (k : Int) < ws.length := by omega
      have hk3 : (0 : Int) ≤ (k : Int) := by omega
      have hk4 : (k : Int) + 1 ≤ c := by omega
      have hk5 : (0 : Int) ≤ (k : Int) + 1 := by omega
      have hts : ws.take (k + 1) = ws.take k ++ [q] := by rw [List.take_add_one, List.getElem?_eq_getElem hk1, hq]; rfl
      have HTS := Lib.hid hts
      clear hts
      rw [e1]
      by_cases hq0 : q = 0
      · subst hq0
        go_wp2_with fail
        refine ⟨⟨k, by go_num, by omega, ?_⟩, by simp [natOf]⟩
        rw [HT.out, HTS.out, trimN_snoc, if_pos rfl]
      · have hqb : ((q : Int) == 0) = false := beq_eq_false_iff_ne.2 (by omega)
        have e : (trimN ws).length = k + 1 := by rw [HT.out, HTS.out, trimN_snoc, if_neg hq0]; simp; omega
        have HE := Lib.hid e
        clear e
        go_wp2_with fail
        go_ret
        rw [HE.out]
        exact ⟨rfl, rfl⟩

set_option maxRecDepth 100000 in
set_option maxHeartbeats 1000000 in
/-- make, where there is room. -/
theorem make_room_walk (A : Option Addr) (m c n : Nat) (w : World) (hn : n ≤ c) (hm : c ≤ 9223372036854775807) (hmc : m ≤ c) :
    Calls Tryz.prog 180 #[.slice A m c, .int .i64 n] w fun e w' => e = .returned (.slice A n c) ∧ w = w' := by
  have h1 : (n : Int) ≤ c := by omega
  have h2 : (0 : Int) ≤ n := by omega
  go_enter Tryz.func180, Tryz.ntmps180
  go_wp2_with fail
  go_ret
  exact ⟨rfl, rfl⟩

def roomFor (n : Nat) : Nat := if n = 1 then 1 else n + 4

set_option maxRecDepth 100000 in
set_option maxHeartbeats 1000000 in
/-- make, where there is none. -/
theorem make_new_walk (A : Option Addr) (m c n : Nat) (w : World) (hn : c < n) (hm : n ≤ 1000000) (hmc : m ≤ c) :
    Calls Tryz.prog 180 #[.slice A m c, .int .i64 n] w fun e w' => e = .returned (.slice (some ⟨w.heap.size, 0, none⟩) n (roomFor n)) ∧ w' = w.alloc (.cells (madeCells #[.int .u64 0] (roomFor n)) 150) := by
  have h1 : ¬ (n : Int) ≤ c := by omega
  obtain ⟨i, hi, hzz⟩ := Option.map_eq_some_iff.1 infoWord
  simp only [Prod.mk.injEq] at hzz
  obtain ⟨hz, hs, hb⟩ := hzz
  unfold roomFor
  by_cases h : n = 1
  · subst h
    have hmk := fun w => run_make (P := Tryz.prog) w 87 150 i (.int .u64 0) Tryz.underlying87 hi hz .i64 .i64 1 1 (by decide) (by decide) (by rw [hb]; decide) (by decide)
    rw [if_pos rfl]
    simp only [hs] at hmk
    go_enter Tryz.func180, Tryz.ntmps180
    go_wp2_with fail
    go_ret
    exact ⟨rfl, rfl⟩
  · have hne : ((n : Int) == 1) = false := beq_eq_false_iff_ne.2 (by omega)
    have hmk := fun w => run_make (P := Tryz.prog) w 87 150 i (.int .u64 0) Tryz.underlying87 hi hz .i64 .i64 n ((n : Int) + 4) (by omega) (by omega) (by rw [hb]; omega) (by omega)
    have e4 : ((n : Int) + 4).toNat = n + 4 := by omega
    simp only [hs, e4, Int.toNat_natCast, Nat.mul_one] at hmk
    rw [if_neg h]
    go_enter Tryz.func180, Tryz.ntmps180
    go_wp2_with fail
    go_ret
    exact ⟨rfl, rfl⟩
end Go.Proofs.YthipbglnaalhmaaGreatDoor
