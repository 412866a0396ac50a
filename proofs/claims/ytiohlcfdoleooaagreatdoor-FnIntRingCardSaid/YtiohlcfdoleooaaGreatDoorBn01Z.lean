/-
  (*big.Int).Set into a new number.
-/
import Derived.Test.YtiohlcfdoleooaaGreatDoorBn23Z
import Derived.Test.YtiohlcfdoleooaaGreatDoorBn15Z
import Derived.Deep.RegionWith
import Derived.Deep.RegionHeld3
import Derived.Test.YtiohlcfdoleooaaGreatDoorBn12Z
import Derived.Test.YtiohlcfdoleooaaGreatDoorBn06Z
import Derived.StillTailTactics
namespace Go.Proofs.YtiohlcfdoleooaaGreatDoor
open Go.RowKit

theorem infoInt' : (Tryz.prog.info? 101).map (·.size) = some 2 := by kernel_rfl
/-- Two numbers of two blocks have two addresses. -/
theorem int_neq {w : World} {g gx : Nat} {a b c d : Value} (hne : gx ≠ g) (h1 : w.heap[g]? = some (.cells #[a, b] 101 (0, 0))) (h2 : w.heap[gx]? = some (.cells #[c, d] 101 (0, 0))) :
    (binOp BinOp.neq 62 (.pointer (some ⟨g, 0, none⟩)) (.pointer (some ⟨gx, 0, none⟩))).run Tryz.prog w = .ok (.bool true) w ∧ (binOp BinOp.eql 62 (.pointer (some ⟨g, 0, none⟩)) (.pointer (some ⟨gx, 0, none⟩))).run Tryz.prog w = .ok (.bool false) w := by
  obtain ⟨i, hi, hs⟩ := Option.map_eq_some_iff.1 infoInt'
  have hn : (⟨g, 0, none⟩ : Addr) ≠ ⟨gx, 0, none⟩ := fun e => hne (by cases e; rfl)
  have hr : (sameAddr ⟨g, 0, none⟩ ⟨gx, 0, none⟩).run Tryz.prog w = .ok false w := run_sameAddr_other w hn h1 h2
  have h : ∀ d : Nat, (Op.equalIn (d + 1) 62 (.pointer (some ⟨g, 0, none⟩)) (.pointer (some ⟨gx, 0, none⟩))).run Tryz.prog w = .ok false w := fun d => by
    simp [Op.equalIn, run_underlying Tryz.underlying62, sizeOf, typeInfo, hi, hs, hr]
  constructor
  · simp only [binOp]
    simp [Op.equal, Op.maxDepth, h 9999]
  · simp only [binOp]
    simp [Op.equal, Op.maxDepth, h 9999]

set_option maxRecDepth 100000 in
set_option maxHeartbeats 2000000 in
theorem intSet_walk (gz gx : Nat) (z : Int) (w : World) (hz : IntNew w gz) (hx : IntAt w gx z) (hne : gx ≠ gz) (hl : (wds z.natAbs).length ≤ 80000) :
    Calls Tryz.prog 127 #[.pointer (some ⟨gz, 0, none⟩), .pointer (some ⟨gx, 0, none⟩)] w fun e w' => e = .returned (.pointer (some ⟨gz, 0, none⟩)) ∧ IntAt w' gz z ∧ Ext (fun b => b = gz) w w' := by
  obtain ⟨A, c, hk, h2, h3, h4⟩ := hx
  have hnq := (int_neq hne hz hk).1
  have c0 := num_cell0 hz
  have c1 := num_cell1 hz
  have d0 := num_cell0 hk
  have d1 := num_cell1 hk
  have HS := Lib.hid (setNew_walk A c z.natAbs w.drew h2 h3 (by omega) h4.rd)
  have HZ := Lib.hid hz
  have HK := Lib.hid hk
  clear h4 hz hk
  go_enter Tryz.func127, Tryz.ntmps127
  go_wp2_with fail
  go_region_with ((go_at_call 172; (with_reducible refine HS.out.mono ?_); rintro e w1 ⟨A1, c1', rfl, hown, hb, hs⟩; have hz1 := (hb.block gz (iter_lt HZ.out)).trans HZ.out; have e0 := num_cell0 hz1; have e1 := num_cell1 hz1; have f0 := one_free hz1 0; have f1 := one_free hz1 1; have hk1 := (hb.block gx (iter_lt HK.out)).trans HK.out; have e2 := num_cell0 hk1; have HZ1 := Lib.hid hz1; have HO := Lib.hid hown; have HB := Lib.hid hb; clear hz1 hk1 hown hb))
  all_goals
    have hr := HO.out.room
    have hlt := iter_lt HZ.out
    go_wp2_with fail
    go_ret
    exact ⟨rfl, IntAt.put HZ1.out rfl rfl hr.1 (by omega) HO.out.wd (fun a ha => by have := HO.out.ge a ha; exact Nat.ne_of_gt (Nat.lt_of_lt_of_le hlt this)),
      Ext.setCell (D := fun b => b = gz) (p := ⟨gz, 0, none⟩) (Ext.setCell (D := fun b => b = gz) (p := ⟨gz, 1, none⟩) (((Ext.refl _ w).drewN 1).trans (Ext.of_below HB.out)) (fun _ => rfl) _) (fun _ => rfl) _⟩
end Go.Proofs.YtiohlcfdoleooaaGreatDoor

/-
  (*big.Int).Add, Sub into a new number.
-/
namespace Go.Proofs.YtiohlcfdoleooaaGreatDoor
open Go.RowKit

theorem wds_pos {S : Nat} : 0 < (wds S).length ↔ S ≠ 0 := by
  rw [← Nat.pos_iff_ne_zero.symm.symm, Nat.pos_iff_ne_zero, Nat.pos_iff_ne_zero]
  exact not_congr wds_len0
theorem own_low {B B' : Nat} {w : World} {A : Option Addr} {c N : Nat} (h : OwnNat B w A c N) (hB : B' ≤ B) : OwnNat B' w A c N := by
  rcases h with h | ⟨g, zs, h1, h2, h3, h4, h5, h6⟩
  · exact .inl h
  · exact .inr ⟨g, zs, h1, h2, h3, h4, by omega, h6⟩
theorem ext_drawn {D : Nat → Prop} {w w1 : World} {n : Nat} (h : Below (w.drewN n).heap.size (w.drewN n) w1) : Ext D w w1 := ((Ext.refl _ w).drewN n).trans (Ext.of_below h)
theorem ext_any {D : Nat → Prop} {w w2 w1 : World} (h1 : w2.heap = w.heap) (h2 : w2.os = w.os) (h3 : w2.tape = w.tape) (h4 : w2.output = w.output) (h : Below w2.heap.size w2 w1) : Ext D w w1 :=
  ⟨h.os.trans h2, h.tape.trans h3, h.output.trans h4, by have := h.size; rw [h1] at this; exact this, fun i hi _ => by rw [← h1] at hi ⊢; exact h.block i hi⟩
theorem drawn_more {w w1 : World} {n : Nat} (h : Drawn (w.drewN n) w1) : ∃ m, w1 = w.drewN m := by
  obtain ⟨k, rfl⟩ := h
  exact ⟨_, World.drewN_drewN _ _ _⟩

theorem heap_drew' (w : World) : w.drew.heap = w.heap := rfl
theorem heap_drewN' (w : World) (n : Nat) : (w.drewN n).heap = w.heap := rfl
theorem cell_heap {w w2 : World} (h : w2.heap = w.heap) (b o : Nat) : w2.cell? ⟨b, o, none⟩ = w.cell? ⟨b, o, none⟩ := by simp only [World.cell?, h]
theorem put_fin {w : World} {gz : Nat} (z : Int) : ∀ (S : Nat) (f : Bool) (w1 : World) (A1 : Option Addr) (c1 : Nat), z.natAbs = S → (S ≠ 0 → f = decide (z < 0)) → OwnNat (gz + 1) w1 A1 c1 S → w1.heap[gz]? = some (.cells #[.bool false, .slice none 0 0] 101 (0, 0)) → Ext (fun b => b = gz) w w1 →
      ∀ b, b = (decide (0 < (wds S).length) && f) → IntAt ((w1.setCell ⟨gz, 1, none⟩ (.slice A1 (wds S).length c1)).setCell ⟨gz, 0, none⟩ (.bool b)) gz z ∧ Ext (fun b => b = gz) w ((w1.setCell ⟨gz, 1, none⟩ (.slice A1 (wds S).length c1)).setCell ⟨gz, 0, none⟩ (.bool b)) := by
  intro S f w1 A1 c1 hS hf ho hk hx1 b hb
  refine ⟨IntAt.put hk hS ?_ ho.room.1 (by have := ho.room; omega) ho.wd (fun a ha => by have := ho.ge a ha; omega), Ext.setCell (D := fun b => b = gz) (p := ⟨gz, 0, none⟩) (Ext.setCell (D := fun b => b = gz) (p := ⟨gz, 1, none⟩) hx1 (fun _ => rfl) _) (fun _ => rfl) _⟩
  rw [hb]
  by_cases h0 : S = 0
  · subst h0
    rw [decide_eq_false (show ¬ z < 0 by omega), wds_zero]
    rfl
  · rw [decide_eq_true (wds_pos.2 h0), hf h0]
    simp
theorem Wd.of_heap {w w2 : World} {A : Option Addr} {ws : List Nat} (h : Wd w A ws) (hh : w2.heap = w.heap) : Wd w2 A ws := by
  rcases h with h | ⟨g, zs, r, h1, h2, h3⟩
  · exact .inl h
  · exact .inr ⟨g, zs, r, h1, by unfold Row; rw [hh]; exact h2, h3⟩
end Go.Proofs.YtiohlcfdoleooaaGreatDoor

/-
  (*big.Int).Sub into a new number: numbers of one sign, the first one being the greater one.
-/
namespace Go.Proofs.YtiohlcfdoleooaaGreatDoor
open Go.RowKit

set_option maxRecDepth 100000 in
set_option maxHeartbeats 8000000 in
theorem intSubGe_walk (gz gx gy : Nat) (x y : Int) (w : World) (hz : IntNew w gz) (hx : IntAt w gx x) (hy : IntAt w gy y) (hlx : (wds x.natAbs).length ≤ 70000) (_hly : (wds y.natAbs).length ≤ 70000) (hs : decide (x < 0) = decide (y < 0)) (hle : y.natAbs ≤ x.natAbs) :
    Calls Tryz.prog 141 #[.pointer (some ⟨gz, 0, none⟩), .pointer (some ⟨gx, 0, none⟩), .pointer (some ⟨gy, 0, none⟩)] w fun e w' => e = .returned (.pointer (some ⟨gz, 0, none⟩)) ∧ IntAt w' gz (x - y) ∧ Ext (fun b => b = gz) w w' := by
  obtain ⟨A, c, hkx, h2, h3, h4⟩ := hx
  obtain ⟨B, d, hky, i2, i3, i4⟩ := hy
  have c0 := num_cell0 hz
  have c1 := num_cell1 hz
  have d0 := num_cell0 hkx
  have d1 := num_cell1 hkx
  have e0 := num_cell0 hky
  have e1 := num_cell1 hky
  have HC := Lib.hid (fun (w2 : World) (hh : w2.heap = w.heap) => natCmp_walk x.natAbs y.natAbs A B c d w2 h2 i2 h3 i3 (h4.of_heap hh).rd (i4.of_heap hh).rd)
  have HCE := Lib.hid (fun (w2 : World) (hh : w2.heap = w.heap) (b o : Nat) => (cell_heap hh b o : w2.cell? ⟨b, o, none⟩ = w.cell? ⟨b, o, none⟩))
  have HA := Lib.hid (fun (w2 : World) (hh : w2.heap = w.heap) => natSubGe_walk x.natAbs y.natAbs A B c d w2 h2 h3 i2 i3 (by omega) (h4.of_heap hh) (i4.of_heap hh) hle)
  have HZ := Lib.hid hz
  have hlt := iter_lt hz
  obtain ⟨nx, hnx2⟩ : ∃ nx, decide (x < 0) = nx := ⟨_, rfl⟩
  obtain ⟨ny, hny2⟩ : ∃ ny, decide (y < 0) = ny := ⟨_, rfl⟩
  rw [hnx2] at d0
  rw [hny2] at e0
  rw [hnx2, hny2] at hs
  have hpx : nx = true ↔ x < 0 := by rw [← hnx2, decide_eq_true_iff]
  have hpy : ny = true ↔ y < 0 := by rw [← hny2, decide_eq_true_iff]
  have HLT := Lib.hid hlt
  clear h4 i4 hz hkx hky hnx2 hny2
  have fin := put_fin (w := w) (gz := gz) (x - y)
  have FIN := Lib.hid fin
  clear fin
  subst hs
  have hS : (x - y).natAbs = x.natAbs - y.natAbs := by cases nx <;> simp at * <;> omega
  have hf : x.natAbs - y.natAbs ≠ 0 → (nx) = decide (x - y < 0) := by intro h0; cases nx <;> simp at * <;> omega
  have HSS := Lib.hid hS
  have HF := Lib.hid hf
  have hsc : (0 : Int) ≤ sgnC ((x.natAbs : Int) - y.natAbs) := by unfold sgnC; rw [if_neg (by omega)]; split <;> omega
  obtain ⟨sc, hsc2⟩ : ∃ sc, sgnC ((x.natAbs : Int) - y.natAbs) = sc := ⟨_, rfl⟩
  rw [hsc2] at hsc HC
  clear hsc2 hle
  clear hS hf hpx hpy
  go_enter Tryz.func141, Tryz.ntmps141
  go_wp2_with fail
  go_quiet (fail)
  obtain ⟨w9, hw9⟩ : ∃ w9, w.drewN nq = w9 := ⟨_, rfl⟩
  have h9 : w9.heap = w.heap := by rw [← hw9]; rfl
  have o9 : w9.os = w.os ∧ w9.tape = w.tape ∧ w9.output = w.output := by rw [← hw9]; exact ⟨rfl, rfl, rfl⟩
  rw [hw9]
  rw [← HCE.out w9 h9 gz 0] at c0
  rw [← HCE.out w9 h9 gz 1] at c1
  rw [← HCE.out w9 h9 gx 0] at d0
  rw [← HCE.out w9 h9 gx 1] at d1
  rw [← HCE.out w9 h9 gy 0] at e0
  rw [← HCE.out w9 h9 gy 1] at e1
  have H9 := Lib.hid h9
  have O9 := Lib.hid o9
  have HL9 : Hid (gz < w9.heap.size) := Lib.hid (by rw [h9]; exact HLT.out)
  have HZ9 : Hid (w9.heap[gz]? = some (.cells #[.bool false, .slice none 0 0] 101 (0, 0))) := Lib.hid (by rw [h9]; exact HZ.out)
  clear h9 o9 hw9
  go_wp2_with fail
  go_quiet ((go_at_call 181; exact Calls.quiet_of (HC.out _ ((heap_drewN' _ _).trans H9.out))))
  go_wp2_with fail
  go_region_with ((go_at_call 182; refine (HA.out _ (by first | exact (heap_drew' _).trans H9.out | exact (heap_drewN' _ _).trans H9.out)).mono ?_; rintro e w1 ⟨A1, c1', rfl, hown, hb, hs1⟩; have hk1 : w1.heap[gz]? = some (.cells #[.bool false, .slice none 0 0] 101 (0, 0)) := (hb.block gz (HL9.out)).trans HZ9.out; have g0 := num_cell0 hk1; have g1 := num_cell1 hk1; have f0 := one_free hk1 0; have f1 := one_free hk1 1; have HK1 := Lib.hid hk1; have HO := Lib.hid hown; have HB := Lib.hid hb; clear hk1 hown hb))
  all_goals
    have ho2 : OwnNat (gz + 1) w1 A1 c1' (x.natAbs - y.natAbs) := own_low HO.out (by show gz + 1 ≤ w9.heap.size; rw [H9.out]; exact HLT.out)
    have hx2 : Ext (fun b => b = gz) w w1 := ext_any (by first | exact (heap_drew' _).trans H9.out | exact (heap_drewN' _ _).trans H9.out) (by exact O9.out.1) (by exact O9.out.2.1) (by exact O9.out.2.2) HB.out
    have FN := Lib.hid (FIN.out (x.natAbs - y.natAbs) (nx) w1 A1 c1' HSS.out HF.out ho2 HK1.out hx2)
    clear ho2 hx2
    by_cases h0 : x.natAbs - y.natAbs = 0
    · have hlen : ((wds (x.natAbs - y.natAbs)).length : Int) = 0 := by rw [h0, wds_zero]; rfl
      have hlen2 : (wds (x.natAbs - y.natAbs)).length = 0 := by omega
      have HFN := Lib.hid (FN.out false (by rw [hlen2]; rfl))
      rw [hlen2] at HFN ⊢
      clear h0 hlen hlen2 FN
      go_wp2_with fail
      go_ret
      exact ⟨rfl, HFN.out⟩
    · have hlen : (0 : Int) < ((wds (x.natAbs - y.natAbs)).length : Int) := by have := wds_pos.2 h0; omega
      have HFN := Lib.hid (FN.out (nx) (by rw [decide_eq_true (wds_pos.2 h0)]; simp))
      clear h0 FN
      go_wp2_with fail
      go_ret
      exact ⟨rfl, HFN.out⟩
end Go.Proofs.YtiohlcfdoleooaaGreatDoor

/-
  (*big.Int).Sub into a new number: numbers of one sign, the second one being the greater one.
-/
namespace Go.Proofs.YtiohlcfdoleooaaGreatDoor
open Go.RowKit

set_option maxRecDepth 100000 in
set_option maxHeartbeats 8000000 in
theorem intSubLt_walk (gz gx gy : Nat) (x y : Int) (w : World) (hz : IntNew w gz) (hx : IntAt w gx x) (hy : IntAt w gy y) (_hlx : (wds x.natAbs).length ≤ 70000) (hly : (wds y.natAbs).length ≤ 70000) (hs : decide (x < 0) = decide (y < 0)) (hle : x.natAbs < y.natAbs) :
    Calls Tryz.prog 141 #[.pointer (some ⟨gz, 0, none⟩), .pointer (some ⟨gx, 0, none⟩), .pointer (some ⟨gy, 0, none⟩)] w fun e w' => e = .returned (.pointer (some ⟨gz, 0, none⟩)) ∧ IntAt w' gz (x - y) ∧ Ext (fun b => b = gz) w w' := by
  obtain ⟨A, c, hkx, h2, h3, h4⟩ := hx
  obtain ⟨B, d, hky, i2, i3, i4⟩ := hy
  have c0 := num_cell0 hz
  have c1 := num_cell1 hz
  have d0 := num_cell0 hkx
  have d1 := num_cell1 hkx
  have e0 := num_cell0 hky
  have e1 := num_cell1 hky
  have HC := Lib.hid (fun (w2 : World) (hh : w2.heap = w.heap) => natCmp_walk x.natAbs y.natAbs A B c d w2 h2 i2 h3 i3 (h4.of_heap hh).rd (i4.of_heap hh).rd)
  have HCE := Lib.hid (fun (w2 : World) (hh : w2.heap = w.heap) (b o : Nat) => (cell_heap hh b o : w2.cell? ⟨b, o, none⟩ = w.cell? ⟨b, o, none⟩))
  have HA := Lib.hid (fun (w2 : World) (hh : w2.heap = w.heap) => natSubGe_walk y.natAbs x.natAbs B A d c w2 i2 i3 h2 h3 (by omega) (i4.of_heap hh) (h4.of_heap hh) (by omega))
  have HZ := Lib.hid hz
  have hlt := iter_lt hz
  obtain ⟨nx, hnx2⟩ : ∃ nx, decide (x < 0) = nx := ⟨_, rfl⟩
  obtain ⟨ny, hny2⟩ : ∃ ny, decide (y < 0) = ny := ⟨_, rfl⟩
  rw [hnx2] at d0
  rw [hny2] at e0
  rw [hnx2, hny2] at hs
  have hpx : nx = true ↔ x < 0 := by rw [← hnx2, decide_eq_true_iff]
  have hpy : ny = true ↔ y < 0 := by rw [← hny2, decide_eq_true_iff]
  have HLT := Lib.hid hlt
  clear h4 i4 hz hkx hky hnx2 hny2
  have fin := put_fin (w := w) (gz := gz) (x - y)
  have FIN := Lib.hid fin
  clear fin
  subst hs
  have hS : (x - y).natAbs = y.natAbs - x.natAbs := by cases nx <;> simp at * <;> omega
  have hf : y.natAbs - x.natAbs ≠ 0 → (!nx) = decide (x - y < 0) := by intro h0; cases nx <;> simp at * <;> omega
  have HSS := Lib.hid hS
  have HF := Lib.hid hf
  have hsc : ¬ (0 : Int) ≤ sgnC ((x.natAbs : Int) - y.natAbs) := by unfold sgnC; rw [if_pos (by omega)]; omega
  obtain ⟨sc, hsc2⟩ : ∃ sc, sgnC ((x.natAbs : Int) - y.natAbs) = sc := ⟨_, rfl⟩
  rw [hsc2] at hsc HC
  clear hsc2 hle
  clear hS hf hpx hpy
  go_enter Tryz.func141, Tryz.ntmps141
  go_wp2_with fail
  go_quiet (fail)
  obtain ⟨w9, hw9⟩ : ∃ w9, w.drewN nq = w9 := ⟨_, rfl⟩
  have h9 : w9.heap = w.heap := by rw [← hw9]; rfl
  have o9 : w9.os = w.os ∧ w9.tape = w.tape ∧ w9.output = w.output := by rw [← hw9]; exact ⟨rfl, rfl, rfl⟩
  rw [hw9]
  rw [← HCE.out w9 h9 gz 0] at c0
  rw [← HCE.out w9 h9 gz 1] at c1
  rw [← HCE.out w9 h9 gx 0] at d0
  rw [← HCE.out w9 h9 gx 1] at d1
  rw [← HCE.out w9 h9 gy 0] at e0
  rw [← HCE.out w9 h9 gy 1] at e1
  have H9 := Lib.hid h9
  have O9 := Lib.hid o9
  have HL9 : Hid (gz < w9.heap.size) := Lib.hid (by rw [h9]; exact HLT.out)
  have HZ9 : Hid (w9.heap[gz]? = some (.cells #[.bool false, .slice none 0 0] 101 (0, 0))) := Lib.hid (by rw [h9]; exact HZ.out)
  clear h9 o9 hw9
  go_wp2_with fail
  go_quiet ((go_at_call 181; exact Calls.quiet_of (HC.out _ ((heap_drewN' _ _).trans H9.out))))
  go_wp2_with fail
  go_region_with ((go_at_call 182; refine (HA.out _ (by first | exact (heap_drew' _).trans H9.out | exact (heap_drewN' _ _).trans H9.out)).mono ?_; rintro e w1 ⟨A1, c1', rfl, hown, hb, hs1⟩; have hk1 : w1.heap[gz]? = some (.cells #[.bool false, .slice none 0 0] 101 (0, 0)) := (hb.block gz (HL9.out)).trans HZ9.out; have g0 := num_cell0 hk1; have g1 := num_cell1 hk1; have f0 := one_free hk1 0; have f1 := one_free hk1 1; have HK1 := Lib.hid hk1; have HO := Lib.hid hown; have HB := Lib.hid hb; clear hk1 hown hb))
  all_goals
    have ho2 : OwnNat (gz + 1) w1 A1 c1' (y.natAbs - x.natAbs) := own_low HO.out (by show gz + 1 ≤ w9.heap.size; rw [H9.out]; exact HLT.out)
    have hx2 : Ext (fun b => b = gz) w w1 := ext_any (by first | exact (heap_drew' _).trans H9.out | exact (heap_drewN' _ _).trans H9.out) (by exact O9.out.1) (by exact O9.out.2.1) (by exact O9.out.2.2) HB.out
    have FN := Lib.hid (FIN.out (y.natAbs - x.natAbs) (!nx) w1 A1 c1' HSS.out HF.out ho2 HK1.out hx2)
    clear ho2 hx2
    by_cases h0 : y.natAbs - x.natAbs = 0
    · have hlen : ((wds (y.natAbs - x.natAbs)).length : Int) = 0 := by rw [h0, wds_zero]; rfl
      have hlen2 : (wds (y.natAbs - x.natAbs)).length = 0 := by omega
      have HFN := Lib.hid (FN.out false (by rw [hlen2]; rfl))
      rw [hlen2] at HFN ⊢
      clear h0 hlen hlen2 FN
      go_wp2_with fail
      go_ret
      exact ⟨rfl, HFN.out⟩
    · have hlen : (0 : Int) < ((wds (y.natAbs - x.natAbs)).length : Int) := by have := wds_pos.2 h0; omega
      have HFN := Lib.hid (FN.out (!nx) (by rw [decide_eq_true (wds_pos.2 h0)]; simp))
      clear h0 FN
      go_wp2_with fail
      go_ret
      exact ⟨rfl, HFN.out⟩
end Go.Proofs.YtiohlcfdoleooaaGreatDoor

/-
  (*big.Int).Add into a new number: numbers of one sign.
-/
namespace Go.Proofs.YtiohlcfdoleooaaGreatDoor
open Go.RowKit

set_option maxRecDepth 100000 in
set_option maxHeartbeats 8000000 in
theorem intAddSame_walk (gz gx gy : Nat) (x y : Int) (w : World) (hz : IntNew w gz) (hx : IntAt w gx x) (hy : IntAt w gy y) (hlx : (wds x.natAbs).length ≤ 70000) (hly : (wds y.natAbs).length ≤ 70000) (hs : decide (x < 0) = decide (y < 0)) :
    Calls Tryz.prog 139 #[.pointer (some ⟨gz, 0, none⟩), .pointer (some ⟨gx, 0, none⟩), .pointer (some ⟨gy, 0, none⟩)] w fun e w' => e = .returned (.pointer (some ⟨gz, 0, none⟩)) ∧ IntAt w' gz (x + y) ∧ Ext (fun b => b = gz) w w' := by
  obtain ⟨A, c, hkx, h2, h3, h4⟩ := hx
  obtain ⟨B, d, hky, i2, i3, i4⟩ := hy
  have c0 := num_cell0 hz
  have c1 := num_cell1 hz
  have d0 := num_cell0 hkx
  have d1 := num_cell1 hkx
  have e0 := num_cell0 hky
  have e1 := num_cell1 hky
  have HC := Lib.hid (fun (w2 : World) (hh : w2.heap = w.heap) => natCmp_walk x.natAbs y.natAbs A B c d w2 h2 i2 h3 i3 (h4.of_heap hh).rd (i4.of_heap hh).rd)
  have HCE := Lib.hid (fun (w2 : World) (hh : w2.heap = w.heap) (b o : Nat) => (cell_heap hh b o : w2.cell? ⟨b, o, none⟩ = w.cell? ⟨b, o, none⟩))
  have HA := Lib.hid (fun (w2 : World) (hh : w2.heap = w.heap) => natAdd_walk x.natAbs y.natAbs A B c d w2 h2 h3 i2 i3 (by omega) (by omega) (h4.of_heap hh) (i4.of_heap hh))
  have HZ := Lib.hid hz
  have hlt := iter_lt hz
  obtain ⟨nx, hnx2⟩ : ∃ nx, decide (x < 0) = nx := ⟨_, rfl⟩
  obtain ⟨ny, hny2⟩ : ∃ ny, decide (y < 0) = ny := ⟨_, rfl⟩
  rw [hnx2] at d0
  rw [hny2] at e0
  rw [hnx2, hny2] at hs
  have hpx : nx = true ↔ x < 0 := by rw [← hnx2, decide_eq_true_iff]
  have hpy : ny = true ↔ y < 0 := by rw [← hny2, decide_eq_true_iff]
  have HLT := Lib.hid hlt
  clear h4 i4 hz hkx hky hnx2 hny2
  have fin := put_fin (w := w) (gz := gz) (x + y)
  have FIN := Lib.hid fin
  clear fin
  subst hs
  have hS : (x + y).natAbs = x.natAbs + y.natAbs := by cases nx <;> simp at * <;> omega
  have hf : x.natAbs + y.natAbs ≠ 0 → (nx) = decide (x + y < 0) := by intro h0; cases nx <;> simp at * <;> omega
  have HSS := Lib.hid hS
  have HF := Lib.hid hf

  clear hS hf hpx hpy
  go_enter Tryz.func139, Tryz.ntmps139
  go_wp2_with fail
  go_quiet (fail)
  obtain ⟨w9, hw9⟩ : ∃ w9, w.drewN nq = w9 := ⟨_, rfl⟩
  have h9 : w9.heap = w.heap := by rw [← hw9]; rfl
  have o9 : w9.os = w.os ∧ w9.tape = w.tape ∧ w9.output = w.output := by rw [← hw9]; exact ⟨rfl, rfl, rfl⟩
  rw [hw9]
  rw [← HCE.out w9 h9 gz 0] at c0
  rw [← HCE.out w9 h9 gz 1] at c1
  rw [← HCE.out w9 h9 gx 0] at d0
  rw [← HCE.out w9 h9 gx 1] at d1
  rw [← HCE.out w9 h9 gy 0] at e0
  rw [← HCE.out w9 h9 gy 1] at e1
  have H9 := Lib.hid h9
  have O9 := Lib.hid o9
  have HL9 : Hid (gz < w9.heap.size) := Lib.hid (by rw [h9]; exact HLT.out)
  have HZ9 : Hid (w9.heap[gz]? = some (.cells #[.bool false, .slice none 0 0] 101 (0, 0))) := Lib.hid (by rw [h9]; exact HZ.out)
  clear h9 o9 hw9
  go_wp2_with fail
  go_region_with ((go_at_call 180; refine (HA.out _ (by first | exact (heap_drew' _).trans H9.out | exact (heap_drewN' _ _).trans H9.out)).mono ?_; rintro e w1 ⟨A1, c1', rfl, hown, hb, hs1⟩; have hk1 : w1.heap[gz]? = some (.cells #[.bool false, .slice none 0 0] 101 (0, 0)) := (hb.block gz (HL9.out)).trans HZ9.out; have g0 := num_cell0 hk1; have g1 := num_cell1 hk1; have f0 := one_free hk1 0; have f1 := one_free hk1 1; have HK1 := Lib.hid hk1; have HO := Lib.hid hown; have HB := Lib.hid hb; clear hk1 hown hb))
  all_goals
    have ho2 : OwnNat (gz + 1) w1 A1 c1' (x.natAbs + y.natAbs) := own_low HO.out (by show gz + 1 ≤ w9.heap.size; rw [H9.out]; exact HLT.out)
    have hx2 : Ext (fun b => b = gz) w w1 := ext_any (by first | exact (heap_drew' _).trans H9.out | exact (heap_drewN' _ _).trans H9.out) (by exact O9.out.1) (by exact O9.out.2.1) (by exact O9.out.2.2) HB.out
    have FN := Lib.hid (FIN.out (x.natAbs + y.natAbs) (nx) w1 A1 c1' HSS.out HF.out ho2 HK1.out hx2)
    clear ho2 hx2
    by_cases h0 : x.natAbs + y.natAbs = 0
    · have hlen : ((wds (x.natAbs + y.natAbs)).length : Int) = 0 := by rw [h0, wds_zero]; rfl
      have hlen2 : (wds (x.natAbs + y.natAbs)).length = 0 := by omega
      have HFN := Lib.hid (FN.out false (by rw [hlen2]; rfl))
      rw [hlen2] at HFN ⊢
      clear h0 hlen hlen2 FN
      go_wp2_with fail
      go_ret
      exact ⟨rfl, HFN.out⟩
    · have hlen : (0 : Int) < ((wds (x.natAbs + y.natAbs)).length : Int) := by have := wds_pos.2 h0; omega
      have HFN := Lib.hid (FN.out (nx) (by rw [decide_eq_true (wds_pos.2 h0)]; simp))
      clear h0 FN
      go_wp2_with fail
      go_ret
      exact ⟨rfl, HFN.out⟩
end Go.Proofs.YtiohlcfdoleooaaGreatDoor

/-
  math/big's basicMul.
-/
namespace Go.Proofs.YtiohlcfdoleooaaGreatDoor
open Go.RowKit

def BmRel (w : World) (g R : Nat) (xs ys : List Nat) (iv : Value) (wr : World) : Prop :=
  ∃ (i : Nat) (T : List Nat), iv = .int .i64 (i : Int) ∧ i ≤ ys.length ∧ T.length = R ∧ (∀ d ∈ T, d < 18446744073709551616) ∧ Row wr g .u64 150 T ∧ MulInv xs ys T i ∧ Ext (fun b => b = g) w wr ∧ wr.heap.size = w.heap.size
def BmPost (w : World) (g R : Nat) (xs ys : List Nat) (e : Ending) (w' : World) : Prop :=
  e = .returned (.tuple #[]) ∧ ∃ T : List Nat, Row w' g .u64 150 T ∧ T.length = R ∧ (∀ d ∈ T, d < 18446744073709551616) ∧ valD 18446744073709551616 (T.take (xs.length + ys.length)) = valD 18446744073709551616 xs * valD 18446744073709551616 ys ∧ Ext (fun b => b = g) w w' ∧ w'.heap.size = w.heap.size
theorem over_words {zs outs : List Nat} {o : Nat} (hz : ∀ d ∈ zs, d < 18446744073709551616) (ho : ∀ d ∈ outs, d < 18446744073709551616) : ∀ d ∈ over zs o outs, d < 18446744073709551616 := by
  intro d hd
  unfold over at hd
  rcases List.mem_append.1 hd with h | h
  · rcases List.mem_append.1 h with h | h
    · exact hz d (List.mem_of_mem_take h)
    · exact ho d h
  · exact hz d (List.mem_of_mem_drop h)
theorem Rd.ext1 {g : Nat} {w w' : World} {A : Option Addr} {vs : List Value} (h : Rd w A vs) (hx : Ext (fun b => b = g) w w') (hA : ∀ a, A = some a → a.block ≠ g) : Rd w' A vs := h.ext hx (fun _ a ha => hA a ha)

set_option maxRecDepth 100000 in
set_option maxHeartbeats 4000000 in
theorem basicMul_walk (g : Nat) (zs xs ys : List Nat) (X Y : Option Addr) (cz cx cy : Nat) (w : World) (hrow : Row w g .u64 150 zs) (hzw : ∀ d ∈ zs, d < 18446744073709551616) (hx : Rd w X (nums .u64 xs)) (hX : ∀ a, X = some a → a.block ≠ g)
    (hy : Rd w Y (nums .u64 ys)) (hY : ∀ a, Y = some a → a.block ≠ g) (hxw : ∀ d ∈ xs, d < 18446744073709551616) (hyw : ∀ d ∈ ys, d < 18446744073709551616) (hl : xs.length + ys.length ≤ zs.length) (hR : zs.length ≤ 100000) (hcz : xs.length + ys.length ≤ cz) (_hczm : cz ≤ 100000) (h1 : 0 < xs.length) :
    Calls Tryz.prog 230 #[.slice (some ⟨g, 0, none⟩) (xs.length + ys.length) cz, .slice X xs.length cx, .slice Y ys.length cy] w (BmPost w g zs.length xs ys) := by
  have hcl := fun (ty : TypeId) => clear_words (n := xs.length + ys.length) (c := cz) (t := 99) (ty := ty) hrow Tryz.underlying99 (by omega) hl
  have hrow0 := Row.setCells (List.replicate (xs.length + ys.length) 0) w zs 0 hrow (by simpa using hl)
  have hx0 : Ext (fun b => b = g) w (w.setCells g 0 (nums .u64 (List.replicate (xs.length + ys.length) 0))) := ext_setCells _ _ _ (Ext.refl _ _)
  have hs0 : (w.setCells g 0 (nums .u64 (List.replicate (xs.length + ys.length) 0))).heap.size = w.heap.size := size_setCells _ _ _
  have hI := mulInv_start xs ys zs
  have hw0 : ∀ d ∈ over zs 0 (List.replicate (xs.length + ys.length) 0), d < 18446744073709551616 := over_words hzw (fun d hd => by rw [List.eq_of_mem_replicate hd]; decide)
  have hl0 : (over zs 0 (List.replicate (xs.length + ys.length) 0)).length = zs.length := over_length (by simpa using hl)
  obtain ⟨w0, hw0e⟩ : ∃ w0, w.setCells g 0 (nums .u64 (List.replicate (xs.length + ys.length) 0)) = w0 := ⟨_, rfl⟩
  obtain ⟨T0, hT0⟩ : ∃ T0, over zs 0 (List.replicate (xs.length + ys.length) 0) = T0 := ⟨_, rfl⟩
  rw [hw0e] at hrow0 hx0 hs0
  simp only [hw0e] at hcl
  rw [hT0] at hrow0 hI hw0 hl0
  have HI := Lib.hid hI
  have HW0 := Lib.hid hw0
  have HL0 := Lib.hid hl0
  have HR0 := Lib.hid hrow0
  have HX0 := Lib.hid hx0
  have HS0 := Lib.hid hs0
  have HX := Lib.hid hx
  have HY := Lib.hid hy
  have HXB := Lib.hid hX
  have HYB := Lib.hid hY
  have HXW := Lib.hid hxw
  have HYW := Lib.hid hyw
  have hcz' : (xs.length : Int) + ys.length ≤ cz := by omega
  clear hrow hrow0 hx0 hs0 hI hw0 hl0 hx hy hX hY hxw hyw hzw hw0e hT0
  go_enter Tryz.func230, Tryz.ntmps230
  go_wp2_with fail
  go_loopw [17] (fun iv wr => BmRel w g zs.length xs ys iv wr) (fun iv _ => idxOf ys.length iv)
  case atStart => exact ⟨0, T0, rfl, Nat.zero_le _, HL0.out, HW0.out, HR0.out, HI.out, HX0.out, HS0.out⟩
  case round =>
    obtain ⟨i, T, rfl, hi, hTl, hTw, hrow, hI, hx, hsz⟩ := hrel
    have HI := Lib.hid hI
    have HTW := Lib.hid hTw
    have HROW := Lib.hid hrow
    have HE := Lib.hid hx
    clear hI hTw hx
    by_cases hlt : i < ys.length
    · obtain ⟨b, rfl, hb⟩ := rd_cell (HY.out.ext1 HE.out HYB.out) hlt
      obtain ⟨d, hd⟩ : ∃ d, ys[i] = d := ⟨_, rfl⟩
      rw [hd] at hb
      have hdw : d < 18446744073709551616 := by rw [← hd]; exact HYW.out _ (List.getElem_mem _)
      have HD := Lib.hid hd
      have hlt' : (i : Int) < ys.length := by omega
      have hi0 : (0 : Int) ≤ i := by omega
      clear hd
      by_cases hd0 : d = 0
      · have hd0b : ((d : Int) == 0) = true := by rw [hd0]; rfl
        clear hrow
        go_wp2_with fail
        refine ⟨⟨i + 1, T, by go_num, by omega, hTl, HTW.out, HROW.out, mulInv_skip HI.out hlt (HD.out.trans hd0), HE.out, hsz⟩, by simp [idxOf]; omega⟩
      · have hd0b : ((d : Int) == 0) = false := beq_eq_false_iff_ne.2 (by omega)
        have hm : ((T.drop i).take xs.length).length = xs.length := by rw [List.length_take, List.length_drop]; omega
        have hrx : Rd wr X (nums .u64 xs) := HX.out.ext1 HE.out HXB.out
        have hA := addMulVVWW_walk g i T ((T.drop i).take xs.length) xs (some ⟨g, i, none⟩) X (cz - i) (cz - i) cx d 0 wr.drew (hrow.drew 1) (.inl ⟨rfl, (T.drop i).drop xs.length, (List.take_append_drop _ _).symm⟩) (.inr ⟨(show Rd wr.drew X (nums .u64 xs) from hrx), HXB.out⟩) hm.symm (by rw [hm]; omega)
          (fun d hd => HTW.out d (List.mem_of_mem_drop (List.mem_of_mem_take hd))) HXW.out hdw (by decide) (by rw [hm]; omega) (by omega)
        unfold AmvPost at hA
        rw [hm] at hA
        have hA2 : ∀ n, n = xs.length → Calls Tryz.prog 267 #[.slice (some ⟨g, i, none⟩) n (cz - i), .slice (some ⟨g, i, none⟩) n (cz - i), .slice X xs.length cx, .int .u64 d, .int .u64 0] wr.drew (AmvPost wr.drew g i T ((T.drop i).take xs.length) xs d 0) := by
          intro n hn
          subst hn
          unfold AmvPost
          rw [hm]
          exact hA
        have HA := Lib.hid hA2
        have hsl1 : (i : Int) + xs.length ≤ cz := by omega
        have HM := Lib.hid hm
        obtain ⟨p, hp⟩ : ∃ p, xs.length + i = p := ⟨_, rfl⟩
        have hpi : (p : Int) - i = xs.length := by omega
        have hw1 : IntKind.i64.wrap ((xs.length : Int) + i) = (p : Int) := by rw [IntKind.wrap_i64]; omega
        have hw2 : IntKind.i64.wrap ((i : Int) + xs.length) = (p : Int) := by rw [IntKind.wrap_i64]; omega
        have hp1 : (i : Int) ≤ p := by omega
        have hp2 : (p : Int) ≤ cz := by omega
        have hp3 : (0 : Int) ≤ p := by omega
        have hkk : (p : Int) < (xs.length : Int) + ys.length := by omega
        have HPP := Lib.hid hp
        have hicz : ¬ i = cz := by omega
        clear hp hsl1
        clear hA hA2 hm hrow hrx
        have HLEN := Lib.hid (show p - i = xs.length by have := HPP.out; omega)
        have hicz2 : ¬ cz = i := by omega
        go_upto_region 5 with fail
        go_region_held3 (fun _ => True) (first | trivial)
          (first
            | (go_at_call 267; (with_reducible refine (HA.out (p - i) HLEN.out).mono ?_); rintro e w2 ⟨c, outs, rfl, hc, hol, how, hrow2, hx2, hs2, hv2⟩; have hcR : ∃ old : Nat, w2.cell? ⟨g, p, none⟩ = some (.int .u64 old) := ⟨_, hrow2.cell (j := p) (by rw [over_length (by have := HM.out; omega)]; have := HPP.out; omega)⟩; obtain ⟨old, hcR⟩ := hcR; have hfR := hrow2.free p; have HROW2 := Lib.hid hrow2; have HOL := Lib.hid hol; have HOW := Lib.hid how; have HV2 := Lib.hid hv2; have HX2 := Lib.hid hx2; have HS2 := Lib.hid hs2; clear hrow2 hol how hv2 hx2 hs2))
        all_goals
          go_wp2_with fail
          have hol : outs.length = xs.length := HOL.out.trans HM.out
          have hset := over_set (zs := T) (outs := outs) (o := i) (v := c) (by rw [hol]; omega)
          rw [hol, show i + xs.length = p by have := HPP.out; omega] at hset
          have hst : Row (w2.setCell ⟨g, p, none⟩ (.int .u64 (c : Int))) g .u64 150 (over T i (outs ++ [c])) := by rw [← hset]; exact HROW2.out.set _ _
          have hvv := HV2.out
          rw [HM.out] at hvv
          exact ⟨⟨i + 1, over T i (outs ++ [c]), by go_num, by omega, (over_length (by simp; omega)).trans hTl, over_words HTW.out (fun d hd => by
            rcases List.mem_append.1 hd with h | h
            · exact HOW.out d h
            · simp at h; omega), hst, mulInv_step HI.out hlt HD.out hol (by omega) hvv, ((HE.out.drew).trans HX2.out).setCell (p := ⟨g, p, none⟩) (fun _ => rfl) _, by simp [World.setCell]; have := HS2.out; exact this.trans hsz⟩, by simp [idxOf]; omega⟩
    · have hie : i = ys.length := by omega
      have hlt' : ¬ (i : Int) < ys.length := by omega
      have HIE := Lib.hid hie
      clear hrow hie
      go_wp2_with fail
      go_end0
      exact ⟨rfl, T, HROW.out, hTl, HTW.out, by have := HI.out; rw [HIE.out] at this; exact mulInv_end this, HE.out, hsz⟩
end Go.Proofs.YtiohlcfdoleooaaGreatDoor
