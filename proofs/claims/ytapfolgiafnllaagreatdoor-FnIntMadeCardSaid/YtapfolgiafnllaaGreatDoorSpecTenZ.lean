/-
  The reference's Ten.
-/
import Derived.Test.YtapfolgiafnllaaGreatDoorSpecFitsZ
namespace Go.Proofs.YtapfolgiafnllaaGreatDoor
open Go.RowKit

theorem ten_digits (n : Nat) : toD 10 (10 ^ n) = List.replicate n 0 ++ [1] := by
  induction n with
  | zero =>
    rw [Nat.pow_zero, toD_pos (by decide) (by decide)]
    have e : (1 : Nat) / 10 = 0 := rfl
    rw [e, toD_zero]
    rfl
  | succ n ih =>
    have hp : 10 ^ (n + 1) ≠ 0 := Nat.ne_of_gt (Nat.pow_pos (by decide))
    rw [toD_pos (by decide) hp, Nat.pow_succ, Nat.mul_mod_left, Nat.mul_div_cancel _ (by decide), ih]
    rfl

set_option maxRecDepth 100000 in
set_option maxHeartbeats 4000000 in
theorem ten_walk (n : Nat) (w : World) (hn : n ≤ 900) :
    Calls Tryz.prog 19 #[.int .i64 (n : Int)] w (IsPost w ((10 ^ n : Nat) : Int)) := by
  have hmk := run_make_row' (P := Tryz.prog) 23 5 (.int .u8 0) 1 Tryz.underlying23 infoByte rfl .i64 .i64 (n + 1) (by omega) (by omega)
  rw [show ((n + 1 : Nat) : Int) = (n : Int) + 1 by omega] at hmk
  have hb := below_a2 w (.cells #[.bool false, .slice none 0 0] 25) (.cells (madeCells #[.int .u8 0] (n + 1)) 5)
  have hrow : Row ((w.alloc (.cells #[.bool false, .slice none 0 0] 25)).alloc (.cells (madeCells #[.int .u8 0] (n + 1)) 5)) (w.heap.size + 1) .u8 5 (List.replicate (n + 1) 0) := row_at _ _ _ _ (heap_size_alloc _ _)
  have hk := heap_old (o := .cells (madeCells #[.int .u8 0] (n + 1)) 5) (heap_here w (.cells #[.bool false, .slice none 0 0] 25))
  obtain ⟨wa, hwa⟩ : ∃ wa, (w.alloc (.cells #[.bool false, .slice none 0 0] 25)).alloc (.cells (madeCells #[.int .u8 0] (n + 1)) 5) = wa := ⟨_, rfl⟩
  rw [hwa] at hb hrow hk
  have h1 : (n : Int) < (n : Int) + 1 := by omega
  have h2 : (0 : Int) ≤ (n : Int) := by omega
  have h3 : (0 : Int) ≤ (n : Int) + 1 := by omega
  have h4 : (n : Int) ≤ 900 := by omega
  have c1 : wa.cell? ⟨w.heap.size + 1, n, none⟩ = some (.int .u8 0) := by
    have := hrow.cell (j := n) (by simp)
    simpa using this
  have f1 := hrow.free n
  have hset := hrow.set n 1
  have hlist : (List.replicate (n + 1) 0).set n 1 = List.replicate n 0 ++ [1] := by
    rw [List.replicate_succ', List.set_append_right _ _ (by simp)]
    simp
  rw [hlist] at hset
  have hk2 := (one_other (w := wa) (a := ⟨w.heap.size + 1, n, none⟩) (u := .int .u8 ((1 : Nat) : Int)) (by show w.heap.size ≠ w.heap.size + 1; omega)).trans hk
  have hb2 := hb.setCell (p := ⟨w.heap.size + 1, n, none⟩) (by show w.heap.size ≤ w.heap.size + 1; omega) (.int .u8 ((1 : Nat) : Int))
  have e1 : ((1 : Nat) : Int) = 1 := rfl
  rw [e1] at hset hk2 hb2
  obtain ⟨wb, hwb⟩ : ∃ wb, wa.setCell ⟨w.heap.size + 1, n, none⟩ (.int .u8 1) = wb := ⟨_, rfl⟩
  rw [hwb] at hset hk2 hb2
  have hrd := hset.rd 0
  rw [List.drop_zero, ← ten_digits] at hrd
  have hz : ((10 ^ n : Nat) : Int).natAbs = 10 ^ n := Int.natAbs_natCast _
  have hneg : decide (((10 ^ n : Nat) : Int) < 0) = false := decide_eq_false (by omega)
  have hlen : (toD 10 (10 ^ n)).length = n + 1 := by rw [ten_digits]; simp
  have HFIN : Hid (∀ W : World, W = (wb.setCell ⟨w.heap.size, 0, none⟩ (.bool false)).setCell ⟨w.heap.size, 1, none⟩ (.slice (some ⟨w.heap.size + 1, 0, none⟩) (n + 1) (n + 1)) → IsPost w ((10 ^ n : Nat) : Int) (.returned (.agg #[.bool false, .slice (some ⟨w.heap.size + 1, 0, none⟩) (n + 1) (n + 1)])) W) := Lib.hid fun W hW => by
    subst hW
    refine ⟨_, rfl, ⟨some ⟨w.heap.size + 1, 0, none⟩, n + 1, ?_, ?_, by omega, ?_⟩, (hb2.setCell (p := ⟨w.heap.size, 0, none⟩) (Nat.le_refl _) _).setCell (p := ⟨w.heap.size, 1, none⟩) (Nat.le_refl _) _⟩
    · rw [hz, hneg, hlen]
    · rw [hz, hlen]; exact Nat.le_refl _
    · rw [hz]; exact rd_set2 hk2 hrd
  obtain ⟨Z, hZ⟩ : ∃ Z : Int, ((10 ^ n : Nat) : Int) = Z := ⟨_, rfl⟩
  rw [hZ] at HFIN ⊢
  have c20 := num_cell0 hk2
  have c21 := num_cell1 hk2
  have f20 := one_free hk2 0
  have f21 := one_free hk2 1
  have HK2 := Lib.hid hk2
  have HWA := Lib.hid hwa
  have HWB := Lib.hid hwb
  clear hb hrow hk hset hlist hk2 hb2 hrd hz hneg hlen hwa hwb e1 hZ hn
  go_enter Tryz.func19, Tryz.ntmps19
  go_upto_region 2 with fail
  rw [HWA.out]
  go_upto_region 3 with fail
  rw [HWB.out]
  go_wp2_with fail
  have k0 := cells_set (cells_set HK2.out 0 (.bool false)) 1 (.slice (some ⟨w.heap.size + 1, 0, none⟩) (n + 1) (n + 1))
  have d0 := num_cell0 k0
  have d1 := num_cell1 k0
  exact bodyPost_ret (v := .agg #[.bool false, .slice (some ⟨w.heap.size + 1, 0, none⟩) (n + 1) (n + 1)]) (by simp [results, Tryz.results19, go_sem, d0, d1]) rfl (HFIN.out _ rfl)
end Go.Proofs.YtapfolgiafnllaaGreatDoor
