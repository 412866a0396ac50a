/-
  (*big.Int).Sub and Add into the first number, where the second one is the greater.
-/
import Derived.Test.YtiohlcfdoleooaaGreatDoorNatSubInZ
import Derived.Test.YtiohlcfdoleooaaGreatDoorIntQuoRemZ
import Derived.Test.YtiohlcfdoleooaaGreatDoorBn01Z
namespace Go.Proofs.YtiohlcfdoleooaaGreatDoor
open Go.RowKit

/-- A big.Int whose words lie below B and not in block gz. -/
def IntLow (B gz : Nat) (w : World) (g : Nat) (z : Int) : Prop :=
  ∃ A c, w.heap[g]? = some (.cells #[.bool (decide (z < 0)), .slice A (wds z.natAbs).length c] 101 (0, 0)) ∧ (wds z.natAbs).length ≤ c ∧ c ≤ 9223372036854775807 ∧ Wd w A (wds z.natAbs) ∧ ∀ a, A = some a → a.block < B ∧ a.block ≠ gz
theorem OwnNat.of_heap {B : Nat} {w w2 : World} {A : Option Addr} {c N : Nat} (h : OwnNat B w A c N) (hh : w2.heap = w.heap) : OwnNat B w2 A c N := by
  rcases h with h | ⟨g, zs, h1, h2, h3, h4⟩
  · exact .inl h
  · exact .inr ⟨g, zs, h1, h2, by unfold Row; rw [hh]; exact h3, h4⟩
theorem IntAt.toLow {w : World} {gz g : Nat} {z : Int} (h : IntAt w g z) (h0 : z ≠ 0) (hz : IntNew w gz) : IntLow w.heap.size gz w g z := by
  obtain ⟨A, c, h1, h2, h3, h4⟩ := h
  refine ⟨A, c, h1, h2, h3, h4, fun a ha => ?_⟩
  rcases h4 with h4 | ⟨q, zs, r, rfl, hrow, _⟩
  · exact absurd (Int.natAbs_eq_zero.1 ((toD_nil_iff (by decide)).1 h4)) h0
  · cases ha
    refine ⟨hrow.lt, fun he => ?_⟩
    subst he
    have h5 := hrow.symm.trans hz
    simp at h5
theorem IntLow.ext {B gz : Nat} {D : Nat → Prop} {w w' : World} {g : Nat} {z : Int} (h : IntLow B gz w g z) (hx : Ext D w w') (hd : ∀ b, D b → b = gz ∨ B ≤ b) (hne : g ≠ gz) (hg : g < B) (_hB : B ≤ w.heap.size) : IntLow B gz w' g z := by
  obtain ⟨A, c, h1, h2, h3, h4, h5⟩ := h
  refine ⟨A, c, (hx.block g (iter_lt h1) (fun k => by have := hd _ k; omega)).trans h1, h2, h3, h4.ext hx (fun _ a ha k => by have := hd _ k; have := h5 a ha; omega), h5⟩

set_option maxRecDepth 100000 in
set_option maxHeartbeats 8000000 in
theorem intSubIn_walk (B gz gy : Nat) (z y : Int) (w : World) (hz : IntOwn B w gz z) (hy : IntLow B gz w gy y) (hgz : gz < B) (hB : B ≤ w.heap.size) (hly : (wds y.natAbs).length ≤ 70000) (hz0 : z < 0) (hy0 : y < 0) (hle : z.natAbs < y.natAbs) :
    Calls Tryz.prog 141 #[.pointer (some ⟨gz, 0, none⟩), .pointer (some ⟨gz, 0, none⟩), .pointer (some ⟨gy, 0, none⟩)] w fun e w' => e = .returned (.pointer (some ⟨gz, 0, none⟩)) ∧ IntAt w' gz (z - y) ∧ Ext (fun b => b = gz ∨ B ≤ b) w w' := by
  obtain ⟨A, c, hkx, ho⟩ := hz
  obtain ⟨D, d, hky, i2, i3, i4, i5⟩ := hy
  have hmx := ho.room
  rw [decide_eq_true hz0] at hkx
  rw [decide_eq_true hy0] at hky
  have d0 := num_cell0 hkx
  have d1 := num_cell1 hkx
  have e0 := num_cell0 hky
  have e1 := num_cell1 hky
  have HC := Lib.hid (fun (w2 : World) (hh : w2.heap = w.heap) => natCmp_walk z.natAbs y.natAbs A D c d w2 hmx.1 i2 (by omega) i3 (rd_heap ho.rd hh) (i4.of_heap hh).rd)
  have HCE := Lib.hid (fun (w2 : World) (hh : w2.heap = w.heap) (b o : Nat) => (cell_heap hh b o : w2.cell? ⟨b, o, none⟩ = w.cell? ⟨b, o, none⟩))
  have HA := Lib.hid (fun (w2 : World) (hh : w2.heap = w.heap) => natSubIn_walk B y.natAbs z.natAbs D A d c w2 i2 i3 (by omega) (i4.of_heap hh) (fun a ha => (i5 a ha).1) (ho.of_heap hh) (by rw [hh]; exact hB) (by omega) (Nat.le_of_lt hle))
  have HK := Lib.hid hkx
  have hne : y.natAbs - z.natAbs ≠ 0 := by omega
  have hpos := wds_pos.2 hne
  have hS : (z - y).natAbs = y.natAbs - z.natAbs := by omega
  have hn0 : decide (z - y < 0) = false := decide_eq_false (by omega)
  have hsc : ¬ (0 : Int) ≤ sgnC ((z.natAbs : Int) - y.natAbs) := by unfold sgnC; rw [if_pos (by omega)]; omega
  have hsc9 : sgnC ((z.natAbs : Int) - y.natAbs) = -1 := by unfold sgnC; rw [if_pos (by omega)]
  rw [hsc9] at HC
  have HSS := Lib.hid hS
  have HN0 := Lib.hid hn0
  have HGZ := Lib.hid hgz
  have HB0 := Lib.hid hB
  obtain ⟨N, hN⟩ : ∃ N, y.natAbs - z.natAbs = N := ⟨_, rfl⟩
  rw [hN] at HA HSS hpos
  obtain ⟨n1, hn1⟩ : ∃ n1, (wds N).length = n1 := ⟨_, rfl⟩
  obtain ⟨lx, hlx⟩ : ∃ l, (wds z.natAbs).length = l := ⟨_, rfl⟩
  obtain ⟨ly, hly2⟩ : ∃ l, (wds y.natAbs).length = l := ⟨_, rfl⟩
  rw [hlx] at d1 HC HA
  rw [hly2] at e1 HC HA
  have HP := Lib.hid hpos
  clear hkx hky hS hn0 hsc hsc9 hpos hle hz0 hy0 hne ho i4 i5 hgz hB hmx hN hn1 hlx hly2 hly
  go_enter Tryz.func141, Tryz.ntmps141
  go_wp2_with fail
  go_quiet (fail)
  obtain ⟨w9, hw9⟩ : ∃ w9, w.drewN nq = w9 := ⟨_, rfl⟩
  have h9 : w9.heap = w.heap := by rw [← hw9]; rfl
  have o9 : w9.os = w.os ∧ w9.tape = w.tape ∧ w9.output = w.output := by rw [← hw9]; exact ⟨rfl, rfl, rfl⟩
  rw [hw9]
  rw [← HCE.out w9 h9 gz 0] at d0
  rw [← HCE.out w9 h9 gz 1] at d1
  rw [← HCE.out w9 h9 gy 0] at e0
  rw [← HCE.out w9 h9 gy 1] at e1
  have H9 := Lib.hid h9
  have O9 := Lib.hid o9
  have HK9 : Hid (w9.heap[gz]? = some (.cells #[.bool true, .slice A (wds z.natAbs).length c] 101 (0, 0))) := Lib.hid (by rw [h9]; exact HK.out)
  clear h9 o9 hw9
  go_wp2_with fail
  go_quiet ((go_at_call 181; exact Calls.quiet_of (HC.out _ ((heap_drewN' _ _).trans H9.out))))
  go_wp2_with fail
  go_region_with ((go_at_call 182; refine (HA.out _ (by first | exact (heap_drew' _).trans H9.out | exact (heap_drewN' _ _).trans H9.out)).mono ?_; rintro e w1 ⟨A1, c1', rfl, hown, hb, hs1⟩; have hk1 : w1.heap[gz]? = some (.cells #[.bool true, .slice A (wds z.natAbs).length c] 101 (0, 0)) := (hb.block gz (HGZ.out)).trans HK9.out; have g0 := num_cell0 hk1; have g1 := num_cell1 hk1; have f0 := one_free hk1 0; have f1 := one_free hk1 1; have HK1 := Lib.hid hk1; have HO := Lib.hid hown; have HB := Lib.hid hb; clear hk1 hown hb))
  all_goals
    have hx2 : Ext (fun b => b = gz ∨ B ≤ b) w w1 := by
      have hh : _ = w.heap := H9.out
      have hb2 := HB.out
      exact ⟨hb2.os.trans O9.out.1, hb2.tape.trans O9.out.2.1, hb2.output.trans O9.out.2.2, by have h1 := hb2.size; have h2 : w9.heap.size = w.heap.size := by rw [H9.out]
                                                                                               show w.heap.size ≤ w1.heap.size; rw [← h2]; exact h1, fun i hi hd => by rw [← H9.out]; exact hb2.block i (by omega)⟩
    have fin : IntAt ((w1.setCell ⟨gz, 1, none⟩ (.slice A1 (wds N).length c1')).setCell ⟨gz, 0, none⟩ (.bool false)) gz (z - y) ∧ Ext (fun b => b = gz ∨ B ≤ b) w ((w1.setCell ⟨gz, 1, none⟩ (.slice A1 (wds N).length c1')).setCell ⟨gz, 0, none⟩ (.bool false)) := by
      have ho := HO.out
      have hg := HGZ.out
      exact ⟨IntAt.put HK1.out HSS.out HN0.out ho.room.1 (by have := ho.room; omega) ho.wd (fun a ha => by have := ho.ge a ha; omega), Ext.setCell (D := fun b => b = gz ∨ B ≤ b) (p := ⟨gz, 0, none⟩) (Ext.setCell (D := fun b => b = gz ∨ B ≤ b) (p := ⟨gz, 1, none⟩) hx2 (fun _ => .inl rfl) _) (fun _ => .inl rfl) _⟩
    have FIN := Lib.hid fin
    have hlen : (0 : Int) < ((wds N).length : Int) := by have := HP.out; omega
    clear hx2 fin
    go_wp2_with fail
    go_ret
    exact ⟨rfl, FIN.out⟩

set_option maxRecDepth 100000 in
set_option maxHeartbeats 8000000 in
theorem intAddIn_walk (B gz gy : Nat) (z y : Int) (w : World) (hz : IntOwn B w gz z) (hy : IntLow B gz w gy y) (hgz : gz < B) (hB : B ≤ w.heap.size) (hly : (wds y.natAbs).length ≤ 70000) (hz0 : z < 0) (hy0 : 0 < y) (hle : z.natAbs < y.natAbs) :
    Calls Tryz.prog 139 #[.pointer (some ⟨gz, 0, none⟩), .pointer (some ⟨gz, 0, none⟩), .pointer (some ⟨gy, 0, none⟩)] w fun e w' => e = .returned (.pointer (some ⟨gz, 0, none⟩)) ∧ IntAt w' gz (z + y) ∧ Ext (fun b => b = gz ∨ B ≤ b) w w' := by
  obtain ⟨A, c, hkx, ho⟩ := hz
  obtain ⟨D, d, hky, i2, i3, i4, i5⟩ := hy
  have hmx := ho.room
  rw [decide_eq_true hz0] at hkx
  rw [decide_eq_false (by omega : ¬ y < 0)] at hky
  have d0 := num_cell0 hkx
  have d1 := num_cell1 hkx
  have e0 := num_cell0 hky
  have e1 := num_cell1 hky
  have HC := Lib.hid (fun (w2 : World) (hh : w2.heap = w.heap) => natCmp_walk z.natAbs y.natAbs A D c d w2 hmx.1 i2 (by omega) i3 (rd_heap ho.rd hh) (i4.of_heap hh).rd)
  have HCE := Lib.hid (fun (w2 : World) (hh : w2.heap = w.heap) (b o : Nat) => (cell_heap hh b o : w2.cell? ⟨b, o, none⟩ = w.cell? ⟨b, o, none⟩))
  have HA := Lib.hid (fun (w2 : World) (hh : w2.heap = w.heap) => natSubIn_walk B y.natAbs z.natAbs D A d c w2 i2 i3 (by omega) (i4.of_heap hh) (fun a ha => (i5 a ha).1) (ho.of_heap hh) (by rw [hh]; exact hB) (by omega) (Nat.le_of_lt hle))
  have HK := Lib.hid hkx
  have hne : y.natAbs - z.natAbs ≠ 0 := by omega
  have hpos := wds_pos.2 hne
  have hS : (z + y).natAbs = y.natAbs - z.natAbs := by omega
  have hn0 : decide (z + y < 0) = false := decide_eq_false (by omega)
  have hsc : ¬ (0 : Int) ≤ sgnC ((z.natAbs : Int) - y.natAbs) := by unfold sgnC; rw [if_pos (by omega)]; omega
  have hsc9 : sgnC ((z.natAbs : Int) - y.natAbs) = -1 := by unfold sgnC; rw [if_pos (by omega)]
  rw [hsc9] at HC
  have HSS := Lib.hid hS
  have HN0 := Lib.hid hn0
  have HGZ := Lib.hid hgz
  have HB0 := Lib.hid hB
  obtain ⟨N, hN⟩ : ∃ N, y.natAbs - z.natAbs = N := ⟨_, rfl⟩
  rw [hN] at HA HSS hpos
  obtain ⟨n1, hn1⟩ : ∃ n1, (wds N).length = n1 := ⟨_, rfl⟩
  obtain ⟨lx, hlx⟩ : ∃ l, (wds z.natAbs).length = l := ⟨_, rfl⟩
  obtain ⟨ly, hly2⟩ : ∃ l, (wds y.natAbs).length = l := ⟨_, rfl⟩
  rw [hlx] at d1 HC HA
  rw [hly2] at e1 HC HA
  have HP := Lib.hid hpos
  clear hkx hky hS hn0 hsc hsc9 hpos hle hz0 hy0 hne ho i4 i5 hgz hB hmx hN hn1 hlx hly2 hly
  go_enter Tryz.func139, Tryz.ntmps139
  go_wp2_with fail
  go_quiet (fail)
  obtain ⟨w9, hw9⟩ : ∃ w9, w.drewN nq = w9 := ⟨_, rfl⟩
  have h9 : w9.heap = w.heap := by rw [← hw9]; rfl
  have o9 : w9.os = w.os ∧ w9.tape = w.tape ∧ w9.output = w.output := by rw [← hw9]; exact ⟨rfl, rfl, rfl⟩
  rw [hw9]
  rw [← HCE.out w9 h9 gz 0] at d0
  rw [← HCE.out w9 h9 gz 1] at d1
  rw [← HCE.out w9 h9 gy 0] at e0
  rw [← HCE.out w9 h9 gy 1] at e1
  have H9 := Lib.hid h9
  have O9 := Lib.hid o9
  have HK9 : Hid (w9.heap[gz]? = some (.cells #[.bool true, .slice A (wds z.natAbs).length c] 101 (0, 0))) := Lib.hid (by rw [h9]; exact HK.out)
  clear h9 o9 hw9
  go_wp2_with fail
  go_quiet ((go_at_call 181; exact Calls.quiet_of (HC.out _ ((heap_drewN' _ _).trans H9.out))))
  go_wp2_with fail
  go_region_with ((go_at_call 182; refine (HA.out _ (by first | exact (heap_drew' _).trans H9.out | exact (heap_drewN' _ _).trans H9.out)).mono ?_; rintro e w1 ⟨A1, c1', rfl, hown, hb, hs1⟩; have hk1 : w1.heap[gz]? = some (.cells #[.bool true, .slice A (wds z.natAbs).length c] 101 (0, 0)) := (hb.block gz (HGZ.out)).trans HK9.out; have g0 := num_cell0 hk1; have g1 := num_cell1 hk1; have f0 := one_free hk1 0; have f1 := one_free hk1 1; have HK1 := Lib.hid hk1; have HO := Lib.hid hown; have HB := Lib.hid hb; clear hk1 hown hb))
  all_goals
    have hx2 : Ext (fun b => b = gz ∨ B ≤ b) w w1 := by
      have hh : _ = w.heap := H9.out
      have hb2 := HB.out
      exact ⟨hb2.os.trans O9.out.1, hb2.tape.trans O9.out.2.1, hb2.output.trans O9.out.2.2, by have h1 := hb2.size; have h2 : w9.heap.size = w.heap.size := by rw [H9.out]
                                                                                               show w.heap.size ≤ w1.heap.size; rw [← h2]; exact h1, fun i hi hd => by rw [← H9.out]; exact hb2.block i (by omega)⟩
    have fin : IntAt ((w1.setCell ⟨gz, 1, none⟩ (.slice A1 (wds N).length c1')).setCell ⟨gz, 0, none⟩ (.bool false)) gz (z + y) ∧ Ext (fun b => b = gz ∨ B ≤ b) w ((w1.setCell ⟨gz, 1, none⟩ (.slice A1 (wds N).length c1')).setCell ⟨gz, 0, none⟩ (.bool false)) := by
      have ho := HO.out
      have hg := HGZ.out
      exact ⟨IntAt.put HK1.out HSS.out HN0.out ho.room.1 (by have := ho.room; omega) ho.wd (fun a ha => by have := ho.ge a ha; omega), Ext.setCell (D := fun b => b = gz ∨ B ≤ b) (p := ⟨gz, 0, none⟩) (Ext.setCell (D := fun b => b = gz ∨ B ≤ b) (p := ⟨gz, 1, none⟩) hx2 (fun _ => .inl rfl) _) (fun _ => .inl rfl) _⟩
    have FIN := Lib.hid fin
    have hlen : (0 : Int) < ((wds N).length : Int) := by have := HP.out; omega
    clear hx2 fin
    go_wp2_with fail
    go_ret
    exact ⟨rfl, FIN.out⟩
end Go.Proofs.YtiohlcfdoleooaaGreatDoor
