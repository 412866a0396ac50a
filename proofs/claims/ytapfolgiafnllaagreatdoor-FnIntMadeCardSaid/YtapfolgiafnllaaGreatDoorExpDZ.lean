/-
  (*big.Int).Exp of 10.
-/
import Derived.Test.YtapfolgiafnllaaGreatDoorExpCZ
import Derived.Test.YtapfolgiafnllaaGreatDoorBn02Z
namespace Go.Proofs.YtapfolgiafnllaaGreatDoor
open Go.RowKit

set_option maxRecDepth 100000 in
set_option maxHeartbeats 4000000 in
theorem intExp0_walk (gz gx gy d : Nat) (w : World) (hz : IntNew w gz) (hx : IntAt w gx 10) (hy : IntAt w gy (d : Int)) (hgx : gx ≠ gz) (hd : d ≤ 200) (hk : SqrIs w) :
    Calls Tryz.prog 107 #[.pointer (some ⟨gz, 0, none⟩), .pointer (some ⟨gx, 0, none⟩), .pointer (some ⟨gy, 0, none⟩), .pointer none, .bool false] w fun e w' => e = .returned (.pointer (some ⟨gz, 0, none⟩)) ∧ IntAt w' gz ((10 ^ d : Nat) : Int) ∧ Ext (fun b => b = gz) w w' := by
  obtain ⟨A, c, hkx, h2, h3, h4⟩ := hx
  obtain ⟨B, b, hky, i2, i3, i4⟩ := hy
  have h10 : wds (10 : Int).natAbs = [10] := wds_one (by decide) (by decide)
  rw [h10] at hkx h2 h4
  rw [Int.natAbs_natCast] at hky i2 i4
  have hpy : decide ((d : Int) < 0) = false := decide_eq_false (by omega)
  have hpx : decide ((10 : Int) < 0) = false := by decide
  rw [hpy] at hky
  rw [hpx] at hkx
  have hl1 : [10].length = 1 := rfl
  rw [hl1] at hkx h2
  have c0 := num_cell0 hkx
  have c1 := num_cell1 hkx
  have d0 := num_cell0 hky
  have d1 := num_cell1 hky
  have z1 := num_cell1 hz
  have HE := Lib.hid (expNN_walk d A B c b w hd h2 h3 h4.rd i2 i3 i4.rd hk)
  have HZ := Lib.hid hz
  have HKX := Lib.hid hkx
  have HLT := Lib.hid (iter_lt hz)
  obtain ⟨Z, hZ⟩ : ∃ Z, 10 ^ d = Z := ⟨_, rfl⟩
  have hZ0 : Z ≠ 0 := by rw [← hZ]; exact ten_pos d
  rw [hZ] at HE ⊢
  obtain ⟨ly, hly⟩ : ∃ l, (wds d).length = l := ⟨_, rfl⟩
  rw [hly] at HE d1
  have hlz : (wds Z).length ≠ 0 := fun h1 => hZ0 ((toD_nil_iff (by decide)).1 (List.length_eq_zero_iff.1 h1))
  obtain ⟨lz, hlz2⟩ : ∃ l, (wds Z).length = l := ⟨_, rfl⟩
  rw [hlz2] at hlz
  have HLZ := Lib.hid hlz2
  have hlz0 : 0 < lz := by omega
  have HGX := Lib.hid hgx
  clear hz hkx hky h2 h3 h4 i2 i3 i4 hk h10 hpx hpy hl1 hZ hZ0 hly hlz2 hlz hd hgx
  go_enter Tryz.func107, Tryz.ntmps107
  go_wp2_with fail
  refine HE.out.mono ?_
  rintro e w1 ⟨A1, b1, rfl, hown, hb, hs1⟩
  rw [HLZ.out]
  have hk1 : w1.heap[gz]? = some (.cells #[.bool false, .slice none 0 0] 80 (0, 0)) := (hb.block gz HLT.out).trans HZ.out
  have hkx1 : w1.heap[gx]? = some (.cells #[.bool false, .slice A 1 c] 80 (0, 0)) := (hb.block gx (iter_lt HKX.out)).trans HKX.out
  have f1 := one_free hk1 1
  have g1 := num_cell1 hk1
  have ho2 : OwnNat (gz + 1) w1 A1 b1 Z := own_low hown (by exact HLT.out)
  have fin : IntAt ((w1.setCell ⟨gz, 1, none⟩ (.slice A1 lz b1)).setCell ⟨gz, 0, none⟩ (.bool false)) gz (Z : Int) ∧ Ext (fun b => b = gz) w ((w1.setCell ⟨gz, 1, none⟩ (.slice A1 lz b1)).setCell ⟨gz, 0, none⟩ (.bool false)) := by
    rw [← HLZ.out]
    exact ⟨IntAt.put hk1 (Int.natAbs_natCast Z) (decide_eq_false (by omega)) ho2.room.1 (by have := ho2.room; omega) ho2.wd (fun a ha => by have := ho2.ge a ha; omega), Ext.setCell (D := fun b => b = gz) (p := ⟨gz, 0, none⟩) (Ext.setCell (D := fun b => b = gz) (p := ⟨gz, 1, none⟩) (Ext.of_below hb) (fun _ => rfl) _) (fun _ => rfl) _⟩
  have k2 := cells_set hk1 1 (.slice A1 lz b1)
  have kx2 := (one_other (w := w1) (a := ⟨gz, 1, none⟩) (u := .slice A1 lz b1) (by exact HGX.out)).trans hkx1
  have e0 := num_cell0 k2
  have e1 := num_cell1 k2
  have e2 := one_free k2 0
  have e3 := num_cell0 kx2
  have FIN := Lib.hid fin
  clear hk1 hkx1 ho2 fin k2 kx2 hown hb hs1 c0 c1 d0 d1 z1
  go_wp2_with fail
  go_ret
  exact ⟨rfl, FIN.out⟩

set_option maxRecDepth 100000 in
set_option maxHeartbeats 1000000 in
theorem intExp_walk (gz gx gy d : Nat) (w : World) (hz : IntNew w gz) (hx : IntAt w gx 10) (hy : IntAt w gy (d : Int)) (hgx : gx ≠ gz) (hd : d ≤ 200) (hk : SqrIs w) :
    Calls Tryz.prog 80 #[.pointer (some ⟨gz, 0, none⟩), .pointer (some ⟨gx, 0, none⟩), .pointer (some ⟨gy, 0, none⟩), .pointer none] w fun e w' => e = .returned (.pointer (some ⟨gz, 0, none⟩)) ∧ IntAt w' gz ((10 ^ d : Nat) : Int) ∧ Ext (fun b => b = gz) w w' := by
  have HM := Lib.hid (intExp0_walk gz gx gy d w hz hx hy hgx hd hk)
  obtain ⟨Z, hZ⟩ : ∃ Z, 10 ^ d = Z := ⟨_, rfl⟩
  rw [hZ] at HM ⊢
  clear hz hx hy hk hZ
  go_enter Tryz.func80, Tryz.ntmps80
  go_wp2_with fail
  refine HM.out.mono ?_
  rintro e w1 ⟨rfl, hp⟩
  have HP := Lib.hid hp
  clear hp
  go_wp2_with fail
  go_ret
  exact ⟨rfl, HP.out⟩
end Go.Proofs.YtapfolgiafnllaaGreatDoor
