/-
  (*big.Int).Sub into a new number: numbers of one sign, the first one being the greater one.
-/
import Derived.Test.YtapfolgiafnllaaGreatDoorBn02Z
import Derived.Test.YtapfolgiafnllaaGreatDoorBn14Z
namespace Go.Proofs.YtapfolgiafnllaaGreatDoor
open Go.RowKit

set_option maxRecDepth 100000 in
set_option maxHeartbeats 8000000 in
theorem intSubGe_walk (gz gx gy : Nat) (x y : Int) (w : World) (hz : IntNew w gz) (hx : IntAt w gx x) (hy : IntAt w gy y) (hlx : (wds x.natAbs).length ≤ 70000) (_hly : (wds y.natAbs).length ≤ 70000) (hs : decide (x < 0) = decide (y < 0)) (hle : y.natAbs ≤ x.natAbs) :
    Calls Tryz.prog 87 #[.pointer (some ⟨gz, 0, none⟩), .pointer (some ⟨gx, 0, none⟩), .pointer (some ⟨gy, 0, none⟩)] w fun e w' => e = .returned (.pointer (some ⟨gz, 0, none⟩)) ∧ IntAt w' gz (x - y) ∧ Ext (fun b => b = gz) w w' := by
  obtain ⟨A, c, hkx, h2, h3, h4⟩ := hx
  obtain ⟨B, d, hky, i2, i3, i4⟩ := hy
  have c0 := num_cell0 hz
  have c1 := num_cell1 hz
  have d0 := num_cell0 hkx
  have d1 := num_cell1 hkx
  have e0 := num_cell0 hky
  have e1 := num_cell1 hky
  have HC := Lib.hid (fun (w2 : World) (hh : w2.heap = w.heap) => natCmp_walk x.natAbs y.natAbs A B c d w2 h2 i2 h3 i3 (h4.of_heap hh).rd (i4.of_heap hh).rd)
  have HCE := Lib.hid (fun (w2 : World) (hh : w2.heap = w.heap) (b o : Nat) => (cell_heap hh b o : w2.cell? ⟨b, o, none⟩ = w.cell? ⟨b, o, none⟩))
  have HA := Lib.hid (fun (w2 : World) (hh : w2.heap = w.heap) => natSubGe_walk x.natAbs y.natAbs A B c d w2 h2 h3 i2 i3 (by omega) (h4.of_heap hh) (i4.of_heap hh) hle)
  have HZ := Lib.hid hz
  have hlt := iter_lt hz
  obtain ⟨nx, hnx2⟩ : ∃ nx, decide (x < 0) = nx := ⟨_, rfl⟩
  obtain ⟨ny, hny2⟩ : ∃ ny, decide (y < 0) = ny := ⟨_, rfl⟩
  rw [hnx2] at d0
  rw [hny2] at e0
  rw [hnx2, hny2] at hs
  have hpx : nx = true ↔ x < 0 := by rw [← hnx2, decide_eq_true_iff]
  have hpy : ny = true ↔ y < 0 := by rw [← hny2, decide_eq_true_iff]
  have HLT := Lib.hid hlt
  clear h4 i4 hz hkx hky hnx2 hny2
  have fin := put_fin (w := w) (gz := gz) (x - y)
  have FIN := Lib.hid fin
  clear fin
  subst hs
  have hS : (x - y).natAbs = x.natAbs - y.natAbs := by cases nx <;> simp at * <;> omega
  have hf : x.natAbs - y.natAbs ≠ 0 → (nx) = decide (x - y < 0) := by intro h0; cases nx <;> simp at * <;> omega
  have HSS := Lib.hid hS
  have HF := Lib.hid hf
  have hsc : (0 : Int) ≤ sgnC ((x.natAbs : Int) - y.natAbs) := by unfold sgnC; rw [if_neg (by omega)]; split <;> omega
  obtain ⟨sc, hsc2⟩ : ∃ sc, sgnC ((x.natAbs : Int) - y.natAbs) = sc := ⟨_, rfl⟩
  rw [hsc2] at hsc HC
  clear hsc2 hle
  clear hS hf hpx hpy
  go_enter Tryz.func87, Tryz.ntmps87
  go_wp2_with fail
  go_quiet (fail)
  obtain ⟨w9, hw9⟩ : ∃ w9, w.drewN nq = w9 := ⟨_, rfl⟩
  have h9 : w9.heap = w.heap := by rw [← hw9]; rfl
  have o9 : w9.os = w.os ∧ w9.tape = w.tape ∧ w9.output = w.output := by rw [← hw9]; exact ⟨rfl, rfl, rfl⟩
  rw [hw9]
  rw [← HCE.out w9 h9 gz 0] at c0
  rw [← HCE.out w9 h9 gz 1] at c1
  rw [← HCE.out w9 h9 gx 0] at d0
  rw [← HCE.out w9 h9 gx 1] at d1
  rw [← HCE.out w9 h9 gy 0] at e0
  rw [← HCE.out w9 h9 gy 1] at e1
  have H9 := Lib.hid h9
  have O9 := Lib.hid o9
  have HL9 : Hid (gz < w9.heap.size) := Lib.hid (by rw [h9]; exact HLT.out)
  have HZ9 : Hid (w9.heap[gz]? = some (.cells #[.bool false, .slice none 0 0] 80 (0, 0))) := Lib.hid (by rw [h9]; exact HZ.out)
  clear h9 o9 hw9
  go_wp2_with fail
  go_quiet ((go_at_call 113; exact Calls.quiet_of (HC.out _ ((heap_drewN' _ _).trans H9.out))))
  go_wp2_with fail
  go_region_with ((go_at_call 114; refine (HA.out _ (by first | exact (heap_drew' _).trans H9.out | exact (heap_drewN' _ _).trans H9.out)).mono ?_; rintro e w1 ⟨A1, c1', rfl, hown, hb, hs1⟩; have hk1 : w1.heap[gz]? = some (.cells #[.bool false, .slice none 0 0] 80 (0, 0)) := (hb.block gz (HL9.out)).trans HZ9.out; have g0 := num_cell0 hk1; have g1 := num_cell1 hk1; have f0 := one_free hk1 0; have f1 := one_free hk1 1; have HK1 := Lib.hid hk1; have HO := Lib.hid hown; have HB := Lib.hid hb; clear hk1 hown hb))
  all_goals
    have ho2 : OwnNat (gz + 1) w1 A1 c1' (x.natAbs - y.natAbs) := own_low HO.out (by show gz + 1 ≤ w9.heap.size; rw [H9.out]; exact HLT.out)
    have hx2 : Ext (fun b => b = gz) w w1 := ext_any (by first | exact (heap_drew' _).trans H9.out | exact (heap_drewN' _ _).trans H9.out) (by exact O9.out.1) (by exact O9.out.2.1) (by exact O9.out.2.2) HB.out
    have FN := Lib.hid (FIN.out (x.natAbs - y.natAbs) (nx) w1 A1 c1' HSS.out HF.out ho2 HK1.out hx2)
    clear ho2 hx2
    by_cases h0 : x.natAbs - y.natAbs = 0
    · have hlen : ((wds (x.natAbs - y.natAbs)).length : Int) = 0 := by rw [h0, wds_zero]; rfl
      have hlen2 : (wds (x.natAbs - y.natAbs)).length = 0 := by omega
      have HFN := Lib.hid (FN.out false (by rw [hlen2]; rfl))
      rw [hlen2] at HFN ⊢
      clear h0 hlen hlen2 FN
      go_wp2_with fail
      go_ret
      exact ⟨rfl, HFN.out⟩
    · have hlen : (0 : Int) < ((wds (x.natAbs - y.natAbs)).length : Int) := by have := wds_pos.2 h0; omega
      have HFN := Lib.hid (FN.out (nx) (by rw [decide_eq_true (wds_pos.2 h0)]; simp))
      clear h0 FN
      go_wp2_with fail
      go_ret
      exact ⟨rfl, HFN.out⟩
end Go.Proofs.YtapfolgiafnllaaGreatDoor

/-
  (*big.Int).Sub into a new number: numbers of one sign, the second one being the greater one.
-/
namespace Go.Proofs.YtapfolgiafnllaaGreatDoor
open Go.RowKit

set_option maxRecDepth 100000 in
set_option maxHeartbeats 8000000 in
theorem intSubLt_walk (gz gx gy : Nat) (x y : Int) (w : World) (hz : IntNew w gz) (hx : IntAt w gx x) (hy : IntAt w gy y) (_hlx : (wds x.natAbs).length ≤ 70000) (hly : (wds y.natAbs).length ≤ 70000) (hs : decide (x < 0) = decide (y < 0)) (hle : x.natAbs < y.natAbs) :
    Calls Tryz.prog 87 #[.pointer (some ⟨gz, 0, none⟩), .pointer (some ⟨gx, 0, none⟩), .pointer (some ⟨gy, 0, none⟩)] w fun e w' => e = .returned (.pointer (some ⟨gz, 0, none⟩)) ∧ IntAt w' gz (x - y) ∧ Ext (fun b => b = gz) w w' := by
  obtain ⟨A, c, hkx, h2, h3, h4⟩ := hx
  obtain ⟨B, d, hky, i2, i3, i4⟩ := hy
  have c0 := num_cell0 hz
  have c1 := num_cell1 hz
  have d0 := num_cell0 hkx
  have d1 := num_cell1 hkx
  have e0 := num_cell0 hky
  have e1 := num_cell1 hky
  have HC := Lib.hid (fun (w2 : World) (hh : w2.heap = w.heap) => natCmp_walk x.natAbs y.natAbs A B c d w2 h2 i2 h3 i3 (h4.of_heap hh).rd (i4.of_heap hh).rd)
  have HCE := Lib.hid (fun (w2 : World) (hh : w2.heap = w.heap) (b o : Nat) => (cell_heap hh b o : w2.cell? ⟨b, o, none⟩ = w.cell? ⟨b, o, none⟩))
  have HA := Lib.hid (fun (w2 : World) (hh : w2.heap = w.heap) => natSubGe_walk y.natAbs x.natAbs B A d c w2 i2 i3 h2 h3 (by omega) (i4.of_heap hh) (h4.of_heap hh) (by omega))
  have HZ := Lib.hid hz
  have hlt := iter_lt hz
  obtain ⟨nx, hnx2⟩ : ∃ nx, decide (x < 0) = nx := ⟨_, rfl⟩
  obtain ⟨ny, hny2⟩ : ∃ ny, decide (y < 0) = ny := ⟨_, rfl⟩
  rw [hnx2] at d0
  rw [hny2] at e0
  rw [hnx2, hny2] at hs
  have hpx : nx = true ↔ x < 0 := by rw [← hnx2, decide_eq_true_iff]
  have hpy : ny = true ↔ y < 0 := by rw [← hny2, decide_eq_true_iff]
  have HLT := Lib.hid hlt
  clear h4 i4 hz hkx hky hnx2 hny2
  have fin := put_fin (w := w) (gz := gz) (x - y)
  have FIN := Lib.hid fin
  clear fin
  subst hs
  have hS : (x - y).natAbs = y.natAbs - x.natAbs := by cases nx <;> simp at * <;> omega
  have hf : y.natAbs - x.natAbs ≠ 0 → (!nx) = decide (x - y < 0) := by intro h0; cases nx <;> simp at * <;> omega
  have HSS := Lib.hid hS
  have HF := Lib.hid hf
  have hsc : ¬ (0 : Int) ≤ sgnC ((x.natAbs : Int) - y.natAbs) := by unfold sgnC; rw [if_pos (by omega)]; omega
  obtain ⟨sc, hsc2⟩ : ∃ sc, sgnC ((x.natAbs : Int) - y.natAbs) = sc := ⟨_, rfl⟩
  rw [hsc2] at hsc HC
  clear hsc2 hle
  clear hS hf hpx hpy
  go_enter Tryz.func87, Tryz.ntmps87
  go_wp2_with fail
  go_quiet (fail)
  obtain ⟨w9, hw9⟩ : ∃ w9, w.drewN nq = w9 := ⟨_, rfl⟩
  have h9 : w9.heap = w.heap := by rw [← hw9]; rfl
  have o9 : w9.os = w.os ∧ w9.tape = w.tape ∧ w9.output = w.output := by rw [← hw9]; exact ⟨rfl, rfl, rfl⟩
  rw [hw9]
  rw [← HCE.out w9 h9 gz 0] at c0
  rw [← HCE.out w9 h9 gz 1] at c1
  rw [← HCE.out w9 h9 gx 0] at d0
  rw [← HCE.out w9 h9 gx 1] at d1
  rw [← HCE.out w9 h9 gy 0] at e0
  rw [← HCE.out w9 h9 gy 1] at e1
  have H9 := Lib.hid h9
  have O9 := Lib.hid o9
  have HL9 : Hid (gz < w9.heap.size) := Lib.hid (by rw [h9]; exact HLT.out)
  have HZ9 : Hid (w9.heap[gz]? = some (.cells #[.bool false, .slice none 0 0] 80 (0, 0))) := Lib.hid (by rw [h9]; exact HZ.out)
  clear h9 o9 hw9
  go_wp2_with fail
  go_quiet ((go_at_call 113; exact Calls.quiet_of (HC.out _ ((heap_drewN' _ _).trans H9.out))))
  go_wp2_with fail
  go_region_with ((go_at_call 114; refine (HA.out _ (by first | exact (heap_drew' _).trans H9.out | exact (heap_drewN' _ _).trans H9.out)).mono ?_; rintro e w1 ⟨A1, c1', rfl, hown, hb, hs1⟩; have hk1 : w1.heap[gz]? = some (.cells #[.bool false, .slice none 0 0] 80 (0, 0)) := (hb.block gz (HL9.out)).trans HZ9.out; have g0 := num_cell0 hk1; have g1 := num_cell1 hk1; have f0 := one_free hk1 0; have f1 := one_free hk1 1; have HK1 := Lib.hid hk1; have HO := Lib.hid hown; have HB := Lib.hid hb; clear hk1 hown hb))
  all_goals
    have ho2 : OwnNat (gz + 1) w1 A1 c1' (y.natAbs - x.natAbs) := own_low HO.out (by show gz + 1 ≤ w9.heap.size; rw [H9.out]; exact HLT.out)
    have hx2 : Ext (fun b => b = gz) w w1 := ext_any (by first | exact (heap_drew' _).trans H9.out | exact (heap_drewN' _ _).trans H9.out) (by exact O9.out.1) (by exact O9.out.2.1) (by exact O9.out.2.2) HB.out
    have FN := Lib.hid (FIN.out (y.natAbs - x.natAbs) (!nx) w1 A1 c1' HSS.out HF.out ho2 HK1.out hx2)
    clear ho2 hx2
    by_cases h0 : y.natAbs - x.natAbs = 0
    · have hlen : ((wds (y.natAbs - x.natAbs)).length : Int) = 0 := by rw [h0, wds_zero]; rfl
      have hlen2 : (wds (y.natAbs - x.natAbs)).length = 0 := by omega
      have HFN := Lib.hid (FN.out false (by rw [hlen2]; rfl))
      rw [hlen2] at HFN ⊢
      clear h0 hlen hlen2 FN
      go_wp2_with fail
      go_ret
      exact ⟨rfl, HFN.out⟩
    · have hlen : (0 : Int) < ((wds (y.natAbs - x.natAbs)).length : Int) := by have := wds_pos.2 h0; omega
      have HFN := Lib.hid (FN.out (!nx) (by rw [decide_eq_true (wds_pos.2 h0)]; simp))
      clear h0 FN
      go_wp2_with fail
      go_ret
      exact ⟨rfl, HFN.out⟩
end Go.Proofs.YtapfolgiafnllaaGreatDoor

/-
  (*big.Int).Add into a new number: numbers of one sign.
-/
namespace Go.Proofs.YtapfolgiafnllaaGreatDoor
open Go.RowKit

set_option maxRecDepth 100000 in
set_option maxHeartbeats 8000000 in
theorem intAddSame_walk (gz gx gy : Nat) (x y : Int) (w : World) (hz : IntNew w gz) (hx : IntAt w gx x) (hy : IntAt w gy y) (hlx : (wds x.natAbs).length ≤ 70000) (hly : (wds y.natAbs).length ≤ 70000) (hs : decide (x < 0) = decide (y < 0)) :
    Calls Tryz.prog 86 #[.pointer (some ⟨gz, 0, none⟩), .pointer (some ⟨gx, 0, none⟩), .pointer (some ⟨gy, 0, none⟩)] w fun e w' => e = .returned (.pointer (some ⟨gz, 0, none⟩)) ∧ IntAt w' gz (x + y) ∧ Ext (fun b => b = gz) w w' := by
  obtain ⟨A, c, hkx, h2, h3, h4⟩ := hx
  obtain ⟨B, d, hky, i2, i3, i4⟩ := hy
  have c0 := num_cell0 hz
  have c1 := num_cell1 hz
  have d0 := num_cell0 hkx
  have d1 := num_cell1 hkx
  have e0 := num_cell0 hky
  have e1 := num_cell1 hky
  have HC := Lib.hid (fun (w2 : World) (hh : w2.heap = w.heap) => natCmp_walk x.natAbs y.natAbs A B c d w2 h2 i2 h3 i3 (h4.of_heap hh).rd (i4.of_heap hh).rd)
  have HCE := Lib.hid (fun (w2 : World) (hh : w2.heap = w.heap) (b o : Nat) => (cell_heap hh b o : w2.cell? ⟨b, o, none⟩ = w.cell? ⟨b, o, none⟩))
  have HA := Lib.hid (fun (w2 : World) (hh : w2.heap = w.heap) => natAdd_walk x.natAbs y.natAbs A B c d w2 h2 h3 i2 i3 (by omega) (by omega) (h4.of_heap hh) (i4.of_heap hh))
  have HZ := Lib.hid hz
  have hlt := iter_lt hz
  obtain ⟨nx, hnx2⟩ : ∃ nx, decide (x < 0) = nx := ⟨_, rfl⟩
  obtain ⟨ny, hny2⟩ : ∃ ny, decide (y < 0) = ny := ⟨_, rfl⟩
  rw [hnx2] at d0
  rw [hny2] at e0
  rw [hnx2, hny2] at hs
  have hpx : nx = true ↔ x < 0 := by rw [← hnx2, decide_eq_true_iff]
  have hpy : ny = true ↔ y < 0 := by rw [← hny2, decide_eq_true_iff]
  have HLT := Lib.hid hlt
  clear h4 i4 hz hkx hky hnx2 hny2
  have fin := put_fin (w := w) (gz := gz) (x + y)
  have FIN := Lib.hid fin
  clear fin
  subst hs
  have hS : (x + y).natAbs = x.natAbs + y.natAbs := by cases nx <;> simp at * <;> omega
  have hf : x.natAbs + y.natAbs ≠ 0 → (nx) = decide (x + y < 0) := by intro h0; cases nx <;> simp at * <;> omega
  have HSS := Lib.hid hS
  have HF := Lib.hid hf

  clear hS hf hpx hpy
  go_enter Tryz.func86, Tryz.ntmps86
  go_wp2_with fail
  go_quiet (fail)
  obtain ⟨w9, hw9⟩ : ∃ w9, w.drewN nq = w9 := ⟨_, rfl⟩
  have h9 : w9.heap = w.heap := by rw [← hw9]; rfl
  have o9 : w9.os = w.os ∧ w9.tape = w.tape ∧ w9.output = w.output := by rw [← hw9]; exact ⟨rfl, rfl, rfl⟩
  rw [hw9]
  rw [← HCE.out w9 h9 gz 0] at c0
  rw [← HCE.out w9 h9 gz 1] at c1
  rw [← HCE.out w9 h9 gx 0] at d0
  rw [← HCE.out w9 h9 gx 1] at d1
  rw [← HCE.out w9 h9 gy 0] at e0
  rw [← HCE.out w9 h9 gy 1] at e1
  have H9 := Lib.hid h9
  have O9 := Lib.hid o9
  have HL9 : Hid (gz < w9.heap.size) := Lib.hid (by rw [h9]; exact HLT.out)
  have HZ9 : Hid (w9.heap[gz]? = some (.cells #[.bool false, .slice none 0 0] 80 (0, 0))) := Lib.hid (by rw [h9]; exact HZ.out)
  clear h9 o9 hw9
  go_wp2_with fail
  go_region_with ((go_at_call 112; refine (HA.out _ (by first | exact (heap_drew' _).trans H9.out | exact (heap_drewN' _ _).trans H9.out)).mono ?_; rintro e w1 ⟨A1, c1', rfl, hown, hb, hs1⟩; have hk1 : w1.heap[gz]? = some (.cells #[.bool false, .slice none 0 0] 80 (0, 0)) := (hb.block gz (HL9.out)).trans HZ9.out; have g0 := num_cell0 hk1; have g1 := num_cell1 hk1; have f0 := one_free hk1 0; have f1 := one_free hk1 1; have HK1 := Lib.hid hk1; have HO := Lib.hid hown; have HB := Lib.hid hb; clear hk1 hown hb))
  all_goals
    have ho2 : OwnNat (gz + 1) w1 A1 c1' (x.natAbs + y.natAbs) := own_low HO.out (by show gz + 1 ≤ w9.heap.size; rw [H9.out]; exact HLT.out)
    have hx2 : Ext (fun b => b = gz) w w1 := ext_any (by first | exact (heap_drew' _).trans H9.out | exact (heap_drewN' _ _).trans H9.out) (by exact O9.out.1) (by exact O9.out.2.1) (by exact O9.out.2.2) HB.out
    have FN := Lib.hid (FIN.out (x.natAbs + y.natAbs) (nx) w1 A1 c1' HSS.out HF.out ho2 HK1.out hx2)
    clear ho2 hx2
    by_cases h0 : x.natAbs + y.natAbs = 0
    · have hlen : ((wds (x.natAbs + y.natAbs)).length : Int) = 0 := by rw [h0, wds_zero]; rfl
      have hlen2 : (wds (x.natAbs + y.natAbs)).length = 0 := by omega
      have HFN := Lib.hid (FN.out false (by rw [hlen2]; rfl))
      rw [hlen2] at HFN ⊢
      clear h0 hlen hlen2 FN
      go_wp2_with fail
      go_ret
      exact ⟨rfl, HFN.out⟩
    · have hlen : (0 : Int) < ((wds (x.natAbs + y.natAbs)).length : Int) := by have := wds_pos.2 h0; omega
      have HFN := Lib.hid (FN.out (nx) (by rw [decide_eq_true (wds_pos.2 h0)]; simp))
      clear h0 FN
      go_wp2_with fail
      go_ret
      exact ⟨rfl, HFN.out⟩
end Go.Proofs.YtapfolgiafnllaaGreatDoor

/-
  (*big.Int).Mul of a number with itself into a new one.
-/
namespace Go.Proofs.YtapfolgiafnllaaGreatDoor
open Go.RowKit

theorem int_same {w : World} {g : Nat} :
    (binOp BinOp.eql 50 (.pointer (some ⟨g, 0, none⟩)) (.pointer (some ⟨g, 0, none⟩))).run Tryz.prog w = .ok (.bool true) w := by
  obtain ⟨i, hi, hs⟩ := Option.map_eq_some_iff.1 infoInt'
  have hr : (sameAddr ⟨g, 0, none⟩ ⟨g, 0, none⟩).run Tryz.prog w = .ok true w := run_sameAddr_same (w := w) _
  have h : ∀ d : Nat, (Op.equalIn (d + 1) 50 (.pointer (some ⟨g, 0, none⟩)) (.pointer (some ⟨g, 0, none⟩))).run Tryz.prog w = .ok true w := fun d => by
    simp [Op.equalIn, run_underlying Tryz.underlying50, sizeOf, typeInfo, hi, hs, hr]
  simp only [binOp]
  simp [Op.equal, Op.maxDepth, h 9999]

set_option maxRecDepth 100000 in
set_option maxHeartbeats 4000000 in
theorem intSqr0_walk (gz gx : Nat) (x : Int) (stk : Value) (w : World) (hz : IntNew w gz) (hx : IntAt w gx x) (_hgx : gx ≠ gz) (hk : SqrIs w) (hlx : (wds x.natAbs).length < 12) :
    Calls Tryz.prog 108 #[.pointer (some ⟨gz, 0, none⟩), stk, .pointer (some ⟨gx, 0, none⟩), .pointer (some ⟨gx, 0, none⟩)] w fun e w' => e = .returned (.tuple #[]) ∧ IntAt w' gz (x * x) ∧ Ext (fun b => b = gz) w w' := by
  obtain ⟨A, c, hkx, h2, h3, h4⟩ := hx
  have hnq : ∀ w2 : World, (binOp BinOp.eql 50 (.pointer (some ⟨gx, 0, none⟩)) (.pointer (some ⟨gx, 0, none⟩))).run Tryz.prog w2 = .ok (.bool true) w2 := fun w2 => int_same
  have c0 := num_cell0 hz
  have c1 := num_cell1 hz
  have d1 := num_cell1 hkx
  have HM := Lib.hid (fun (w2 : World) (hh : w2.heap = w.heap) => natSqr_walk x.natAbs A c w2 h2 h3 (rd_heap h4.rd hh) ⟨(cell_heap hh _ _).trans hk.1, (cell_heap hh _ _).trans hk.2⟩ hlx stk)
  have HZ := Lib.hid hz
  have HLT := Lib.hid (iter_lt hz)
  have hsq : (x * x).natAbs = x.natAbs * x.natAbs := Int.natAbs_mul x x
  have hn0 : decide (x * x < 0) = false := decide_eq_false (Int.not_lt.2 (by
    rcases Int.le_total 0 x with h | h
    · exact Int.mul_nonneg h h
    · exact Int.mul_nonneg_of_nonpos_of_nonpos h h))
  have HSQ := Lib.hid hsq
  have HN0 := Lib.hid hn0
  obtain ⟨lx, hlx2⟩ : ∃ l, (wds x.natAbs).length = l := ⟨_, rfl⟩
  rw [hlx2] at d1 HM
  clear h4 hz hkx hk hsq hn0 hlx2 hlx
  go_enter Tryz.func108, Tryz.ntmps108
  go_upto_region 1 with fail
  go_region_with ((go_at_call 133; refine (HM.out _ (by first | exact heap_drew' _ | exact heap_drewN' _ _)).mono ?_; rintro e w1 ⟨A1, c1', rfl, hown, hb, hs1⟩; have hk1 : w1.heap[gz]? = some (.cells #[.bool false, .slice none 0 0] 80 (0, 0)) := (hb.block gz (HLT.out)).trans HZ.out; have g0 := num_cell0 hk1; have g1 := num_cell1 hk1; have f0 := one_free hk1 0; have f1 := one_free hk1 1; have HK1 := Lib.hid hk1; have HO := Lib.hid hown; have HB := Lib.hid hb; clear hk1 hown hb))
  all_goals
    have ho2 : OwnNat (gz + 1) w1 A1 c1' (x.natAbs * x.natAbs) := own_low HO.out (by exact HLT.out)
    have hx2 : Ext (fun b => b = gz) w w1 := ext_any (heap_drew' _) rfl rfl rfl HB.out
    have fin : IntAt ((w1.setCell ⟨gz, 1, none⟩ (.slice A1 (wds (x.natAbs * x.natAbs)).length c1')).setCell ⟨gz, 0, none⟩ (.bool false)) gz (x * x) ∧ Ext (fun b => b = gz) w ((w1.setCell ⟨gz, 1, none⟩ (.slice A1 (wds (x.natAbs * x.natAbs)).length c1')).setCell ⟨gz, 0, none⟩ (.bool false)) :=
      ⟨IntAt.put HK1.out HSQ.out HN0.out ho2.room.1 (by have := ho2.room; omega) ho2.wd (fun a ha => by have := ho2.ge a ha; omega), Ext.setCell (D := fun b => b = gz) (p := ⟨gz, 0, none⟩) (Ext.setCell (D := fun b => b = gz) (p := ⟨gz, 1, none⟩) hx2 (fun _ => rfl) _) (fun _ => rfl) _⟩
    have FIN := Lib.hid fin
    clear ho2 hx2 fin
    go_wp2_with fail
    refine bodyPost_ret (results_none rfl _ _ _) rfl ?_
    exact ⟨rfl, FIN.out⟩

set_option maxRecDepth 100000 in
set_option maxHeartbeats 1000000 in
theorem intSqr_walk (gz gx : Nat) (x : Int) (w : World) (hz : IntNew w gz) (hx : IntAt w gx x) (hgx : gx ≠ gz) (hk : SqrIs w) (hlx : (wds x.natAbs).length < 12) :
    Calls Tryz.prog 82 #[.pointer (some ⟨gz, 0, none⟩), .pointer (some ⟨gx, 0, none⟩), .pointer (some ⟨gx, 0, none⟩)] w fun e w' => e = .returned (.pointer (some ⟨gz, 0, none⟩)) ∧ IntAt w' gz (x * x) ∧ Ext (fun b => b = gz) w w' := by
  have HM := Lib.hid (intSqr0_walk gz gx x (.pointer none) w hz hx hgx hk hlx)
  clear hz hx hk
  go_enter Tryz.func82, Tryz.ntmps82
  go_wp2_with fail
  refine HM.out.mono ?_
  rintro e w1 ⟨rfl, hp⟩
  have HP := Lib.hid hp
  clear hp
  go_wp2_with fail
  go_ret
  exact ⟨rfl, HP.out⟩
end Go.Proofs.YtapfolgiafnllaaGreatDoor
