/-
  big.NewInt of any int64; NewInt of cosmosmath.
-/
import Derived.Test.YtapfolgiafnllaaGreatDoorIntNewZ
import Derived.Test.YtapfolgiafnllaaGreatDoorBn08Z
namespace Go.Proofs.YtapfolgiafnllaaGreatDoor
open Go.RowKit

/-- A new big.Int. -/
def BigPostF (w : World) (z : Int) (e : Ending) (w' : World) : Prop := ∃ g, e = .returned (.pointer (some ⟨g, 0, none⟩)) ∧ IntAt w' g z ∧ Below w.heap.size w w' ∧ w.heap.size ≤ g

set_option maxRecDepth 100000 in
set_option maxHeartbeats 1000000 in
theorem newIntAll_walk (z : Int) (w : World) (hz : -9223372036854775808 ≤ z ∧ z < 9223372036854775808) : Calls Tryz.prog 81 #[.int .i64 z] w (BigPostF w z) := by
  have hz1 := hz.1
  have hz2 := hz.2
  by_cases h0 : z = 0
  · subst h0
    clear hz hz1 hz2
    go_enter Tryz.func81, Tryz.ntmps81
    go_wp2_with fail
    go_ret
    exact ⟨w.heap.size, rfl, ⟨none, 0, by rw [show Int.natAbs 0 = 0 from rfl, wds_zero]; exact heap_here _ _, by rw [show Int.natAbs 0 = 0 from rfl, wds_zero]; exact Nat.le_refl _, by decide, .inl wds_zero⟩, below_a1 _ _, Nat.le_refl _⟩
  · have hne : (z == 0) = false := beq_eq_false_iff_ne.2 h0
    have h1 : wds z.natAbs = [z.natAbs] := wds_one (by omega) (by omega)
    have fin : ∀ (b : Bool) (W : World), b = decide (z < 0) → W = (w.alloc (.cells #[.int .u64 (z.natAbs : Int)] 106)).alloc (.cells #[.bool b, .slice (some ⟨w.heap.size, 0, none⟩) 1 1] 80) → BigPostF w z (.returned (.pointer (some ⟨w.heap.size + 1, 0, none⟩))) W := by
      intro b W hb hW
      subst hb hW
      exact ⟨w.heap.size + 1, rfl, ⟨some ⟨w.heap.size, 0, none⟩, 1, by rw [h1]; exact heap_at _ _ (heap_size_alloc _ _), by rw [h1]; exact Nat.le_refl _, by decide, .inr ⟨w.heap.size, [z.natAbs], [], rfl, heap_old (heap_here _ _), by rw [h1]; rfl⟩⟩, below_a2 _ _ _, Nat.le_succ _⟩
    have FIN := Lib.hid fin
    clear fin h1
    by_cases hn : z < 0
    · have e0 : IntKind.u64.wrap (-IntKind.u64.wrap z) = (z.natAbs : Int) := by rw [IntKind.wrap_u64, IntKind.wrap_u64]; omega
      have E0 := Lib.hid e0
      have hd := Lib.hid (decide_eq_true hn)
      clear e0 h0 hz
      go_enter Tryz.func81, Tryz.ntmps81
      go_wp2_with fail
      go_ret
      exact FIN.out true _ hd.out.symm (by rw [E0.out])
    · obtain ⟨m, rfl⟩ := Int.eq_ofNat_of_zero_le (show 0 ≤ z by omega)
      have hd := Lib.hid (decide_eq_false hn)
      clear h0 hz hz1
      go_enter Tryz.func81, Tryz.ntmps81
      go_wp2_with fail
      go_ret
      exact FIN.out false _ hd.out.symm (by first | rfl | simp)
theorem overI_i64 {z : Int} (hz : -9223372036854775808 ≤ z ∧ z < 9223372036854775808) : overI z = false := by
  unfold overI
  refine decide_eq_false ?_
  have := (natLen_lt_iff z.natAbs 256).2 (Nat.lt_of_le_of_lt (show z.natAbs ≤ 9223372036854775808 by omega) (by decide))
  omega

set_option maxRecDepth 100000 in
set_option maxHeartbeats 1000000 in
theorem cnewInt_walk (z : Int) (w : World) (hz : -9223372036854775808 ≤ z ∧ z < 9223372036854775808) : Calls Tryz.prog 37 #[.int .i64 z] w (MadePost w z) := by
  go_enter Tryz.func37, Tryz.ntmps37
  go_wp2_with fail
  refine (newIntAll_walk z _ hz).mono ?_
  rintro e w1 ⟨g, rfl, hi, hb, hfr⟩
  have hk := (hb.block w.heap.size (by rw [heap_size_alloc]; omega)).trans (heap_here w (.cells #[.pointer none] 55))
  have c0 := one_cell hk
  have f0 := one_free hk 0
  have HK := Lib.hid hk
  have HI := Lib.hid hi
  have HB := Lib.hid (bt (below_a1 w (.cells #[.pointer none] 55)) hb)
  have hfr2 : w.heap.size ≤ g := by rw [heap_size_alloc] at hfr; omega
  clear hk hi hb hfr
  go_wp2_with fail
  have k0 := one_set (u := .pointer (some ⟨g, 0, none⟩)) HK.out
  have d0 := one_cell k0
  exact bodyPost_ret (v := .agg #[.pointer (some ⟨g, 0, none⟩)]) (by simp [results, Tryz.results37, go_sem, d0]) rfl
    ⟨g, rfl, HI.out.store HK.out (by decide) (by decide) _, HB.out.setCell (p := ⟨w.heap.size, 0, none⟩) (Nat.le_refl _) _, hfr2⟩

end Go.Proofs.YtapfolgiafnllaaGreatDoor
