/-
  The reference's Cmp, Abs.
-/
import Derived.Test.YtikacehcjaaamaaDoorSpecCmp
namespace Go.Proofs.YtikacehcjaaamaaDoor
open Go.RowKit

theorem IsNum.open {w : World} {v : Value} {z : Int} (h : IsNum w v z) :
    ∃ A c, v = .agg #[.bool (decide (z < 0)), .slice A (toD 10 z.natAbs).length c] ∧ (toD 10 z.natAbs).length ≤ c ∧ c ≤ 9223372036854775807 ∧ Rd w A (u8s (toD 10 z.natAbs)) := h

theorem below_a1 (w : World) (o : Obj) : Below w.heap.size w (w.alloc o) := (Below.refl _ _).alloc (Nat.le_refl _) _
theorem below_a2 (w : World) (o p : Obj) : Below w.heap.size w ((w.alloc o).alloc p) := bt (below_a1 w o) (below_a1 _ p)

set_option maxRecDepth 100000 in
set_option maxHeartbeats 1000000 in
theorem cmp_walk (v u : Value) (x y : Int) (w : World) (hv : IsNum w v x) (hu : IsNum w u y) :
    Calls Tryd.prog 16 #[v, u] w fun e w' => e = .returned (.int .i64 (sgnC (x - y))) ∧ Below w.heap.size w w' := by
  obtain ⟨A, c, rfl, hc, hcm, hr⟩ := hv.open
  obtain ⟨B, d, rfl, hd, hdm, hs⟩ := hu.open
  have HR := Lib.hid hr
  have HS := Lib.hid hs
  clear hr hs hv hu
  obtain ⟨R, hR⟩ : ∃ R, sgnC (x - y) = R := ⟨_, rfl⟩
  rw [hR]
  have HRR := Lib.hid hR
  clear hR
  by_cases hx : x < 0
  · have hxb : decide (x < 0) = true := decide_eq_true hx
    rw [hxb]
    by_cases hy : y < 0
    · have hyb : decide (y < 0) = true := decide_eq_true hy
      rw [hyb]
      clear hxb hyb
      go_enter Tryd.func16, Tryd.ntmps16
      go_wp2_with fail
      refine (compare_walk y.natAbs x.natAbs B A d c _ hd hc hdm hcm (HS.out.below (below_a2 _ _ _)) (HR.out.below (below_a2 _ _ _))).mono ?_
      have hs0 : sgnC ((y.natAbs : Int) - x.natAbs) = R := by rw [← HRR.out]; congr 1; omega
      rw [hs0]
      rintro e w1 ⟨rfl, hb1⟩
      go_wp2_with fail
      go_ret
      exact ⟨rfl, bt (below_a2 _ _ _) hb1⟩
    · have hyb : decide (y < 0) = false := decide_eq_false hy
      rw [hyb]
      have hs0 : R = -1 := by rw [← HRR.out]; unfold sgnC; rw [if_pos (by omega)]
      subst hs0
      go_enter Tryd.func16, Tryd.ntmps16
      go_wp2_with fail
      go_ret
      exact ⟨rfl, below_a2 _ _ _⟩
  · have hxb : decide (x < 0) = false := decide_eq_false hx
    rw [hxb]
    by_cases hy : y < 0
    · have hyb : decide (y < 0) = true := decide_eq_true hy
      rw [hyb]
      have hs0 : R = 1 := by rw [← HRR.out]; unfold sgnC; rw [if_neg (by omega), if_neg (by omega)]
      subst hs0
      go_enter Tryd.func16, Tryd.ntmps16
      go_wp2_with fail
      go_ret
      exact ⟨rfl, below_a2 _ _ _⟩
    · have hyb : decide (y < 0) = false := decide_eq_false hy
      rw [hyb]
      clear hxb hyb
      go_enter Tryd.func16, Tryd.ntmps16
      go_wp2_with fail
      refine (compare_walk x.natAbs y.natAbs A B c d _ hc hd hcm hdm (HR.out.below (below_a2 _ _ _)) (HS.out.below (below_a2 _ _ _))).mono ?_
      have hs0 : sgnC ((x.natAbs : Int) - y.natAbs) = R := by rw [← HRR.out]; congr 1; omega
      rw [hs0]
      rintro e w1 ⟨rfl, hb1⟩
      go_wp2_with fail
      go_ret
      exact ⟨rfl, bt (below_a2 _ _ _) hb1⟩

/-- What a function of the reference hands back: the number z. -/
def IsPost (w : World) (z : Int) (e : Ending) (w' : World) : Prop := ∃ v, e = .returned v ∧ IsNum w' v z ∧ Below w.heap.size w w'

set_option maxRecDepth 100000 in
set_option maxHeartbeats 1000000 in
theorem abs_walk (v : Value) (x : Int) (w : World) (hv : IsNum w v x) :
    Calls Tryd.prog 15 #[v] w (IsPost w (x.natAbs : Int)) := by
  obtain ⟨A, c, rfl, hc, hcm, hr⟩ := hv.open
  have HR := Lib.hid hr
  clear hr hv
  go_enter Tryd.func15, Tryd.ntmps15
  go_wp2_with fail
  have k1 := heap_here (w.alloc (Obj.cells #[Value.bool (decide (x < 0)), Value.slice A (toD 10 x.natAbs).length c] 24)) (Obj.cells #[Value.bool false, Value.slice A (toD 10 x.natAbs).length c] 24)
  rw [heap_size_alloc] at k1
  have d0 := num_cell0 k1
  have d1 := num_cell1 k1
  have hdec : decide ((x.natAbs : Int) < 0) = false := decide_eq_false (by omega)
  have hna : ((x.natAbs : Int)).natAbs = x.natAbs := by omega
  exact bodyPost_ret (v := .agg #[.bool false, .slice A (toD 10 x.natAbs).length c]) (by simp [results, Tryd.results15, go_sem, d0, d1]) rfl
    ⟨.agg #[.bool false, .slice A (toD 10 x.natAbs).length c], rfl, ⟨A, c, by rw [hdec, hna], by rw [hna]; exact hc, hcm, by rw [hna]; exact HR.out.below (below_a2 _ _ _)⟩, below_a2 _ _ _⟩

set_option maxRecDepth 100000 in
set_option maxHeartbeats 1000000 in
theorem of_walk (n : Int) (w : World) (hn : -9223372036854775808 ≤ n ∧ n ≤ 9223372036854775807) :
    Calls Tryd.prog 31 #[.int .i64 n] w (IsPost w n) := by
  have hn1 := hn.1
  have hn2 := hn.2
  by_cases h0 : n < 0
  · have e0 : -(n + 1) + 1 = (n.natAbs : Int) := by omega
    have hdec : decide (n < 0) = true := decide_eq_true h0
    have hne : n.natAbs ≠ 0 := by omega
    have E0 := Lib.hid e0
    clear e0
    go_enter Tryd.func31, Tryd.ntmps31
    go_wp2_with fail
    rw [E0.out]
    refine (ofUint_walk n.natAbs _ (by omega)).mono ?_
    rintro e w1 ⟨v1, rfl, ⟨A, c, rfl, hc, hcm, hr⟩, hb⟩
    rw [dec10_eq] at *
    have HR := Lib.hid hr
    have hk : w1.heap[w.heap.size]? = some (.cells #[.bool false, .slice none 0 0] 24 (0, 0)) := (hb.block _ (by rw [heap_size_alloc]; omega)).trans (heap_here _ _)
    clear hr
    have c0 : ∀ o, (w1.alloc o).cell? ⟨w.heap.size, 0, none⟩ = some (.bool false) := fun o => num_cell0 (heap_old hk)
    have c1 : ∀ o, (w1.alloc o).cell? ⟨w.heap.size, 1, none⟩ = some (.slice none 0 0) := fun o => num_cell1 (heap_old hk)
    have f0 : ∀ o, (w1.alloc o).frozen? ⟨w.heap.size, 0, none⟩ = false := fun o => one_free (heap_old hk) 0
    have f1 : ∀ o, (w1.alloc o).frozen? ⟨w.heap.size, 1, none⟩ = false := fun o => one_free (heap_old hk) 1
    have HK := Lib.hid hk
    clear hk
    go_wp2_with fail
    have k0 := cells_set (cells_set (heap_old (o := .cells #[.bool true, .slice A (toD 10 n.natAbs).length c] 24) HK.out) 0 (.bool true)) 1 (.slice A (toD 10 n.natAbs).length c)
    have d0 := num_cell0 k0
    have d1 := num_cell1 k0
    have hb0 : Below w.heap.size w w1 := bt (below_a1 _ _) hb
    exact bodyPost_ret (v := .agg #[.bool true, .slice A (toD 10 n.natAbs).length c]) (by simp [results, Tryd.results31, go_sem, d0, d1]) rfl
      ⟨.agg #[.bool true, .slice A (toD 10 n.natAbs).length c], rfl, ⟨A, c, by rw [hdec], hc, hcm, rd_set2 (heap_old HK.out) (HR.out.below (below_a1 _ _))⟩,
        ((hb0.alloc hb0.size _).setCell (p := ⟨w.heap.size, 0, none⟩) (Nat.le_refl _) _).setCell (p := ⟨w.heap.size, 1, none⟩) (Nat.le_refl _) _⟩
  · obtain ⟨m, rfl⟩ := Int.eq_ofNat_of_zero_le (show 0 ≤ n by omega)
    have hdec : decide ((m : Int) < 0) = false := decide_eq_false h0
    clear h0 hn hn1
    go_enter Tryd.func31, Tryd.ntmps31
    go_wp2_with fail
    refine (ofUint_walk m _ (by omega)).mono ?_
    rintro e w1 ⟨v1, rfl, ⟨A, c, rfl, hc, hcm, hr⟩, hb⟩
    rw [dec10_eq] at *
    have HR := Lib.hid hr
    have hk : w1.heap[w.heap.size]? = some (.cells #[.bool false, .slice none 0 0] 24 (0, 0)) := (hb.block _ (by rw [heap_size_alloc]; omega)).trans (heap_here _ _)
    clear hr
    have c0 := num_cell0 hk
    have c1 := num_cell1 hk
    have f0 := one_free hk 0
    have f1 := one_free hk 1
    have HK := Lib.hid hk
    clear hk
    go_wp2_with fail
    have k0 := cells_set (cells_set HK.out 0 (.bool false)) 1 (.slice A (toD 10 m).length c)
    have d0 := num_cell0 k0
    have d1 := num_cell1 k0
    have hb0 : Below w.heap.size w w1 := bt (below_a1 _ _) hb
    exact bodyPost_ret (v := .agg #[.bool false, .slice A (toD 10 m).length c]) (by simp [results, Tryd.results31, go_sem, d0, d1]) rfl
      ⟨.agg #[.bool false, .slice A (toD 10 m).length c], rfl, ⟨A, c, by rw [hdec]; rfl, hc, hcm, rd_set2 HK.out HR.out⟩,
        (hb0.setCell (p := ⟨w.heap.size, 0, none⟩) (Nat.le_refl _) _).setCell (p := ⟨w.heap.size, 1, none⟩) (Nat.le_refl _) _⟩
end Go.Proofs.YtikacehcjaaamaaDoor
