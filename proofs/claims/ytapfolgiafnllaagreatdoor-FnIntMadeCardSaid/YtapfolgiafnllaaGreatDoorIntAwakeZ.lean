/-
  laws.intAwake: true.
-/
import Derived.Test.YtapfolgiafnllaaGreatDoorIntDoZ
namespace Go.Proofs.YtapfolgiafnllaaGreatDoor
open Go.RowKit

theorem overI_fits (z : Int) : overI z = !decide (z.natAbs < 2 ^ 256) := by
  unfold overI
  by_cases h : z.natAbs < 2 ^ 256
  · rw [decide_eq_true h, decide_eq_false (by have := (natLen_lt_iff z.natAbs 256).2 h; omega)]; rfl
  · rw [decide_eq_false h, decide_eq_true (by
      refine Nat.lt_of_not_le fun hle => h ((natLen_lt_iff z.natAbs 256).1 hle))]; rfl
theorem readI2 : readOk [50] = true ∧ readZ [50] = 2 := by decide
theorem readI3 : readOk [51] = true ∧ readZ [51] = 3 := by decide
theorem readI7 : readOk [45, 55] = true ∧ readZ [45, 55] = -7 := by decide
theorem textI5 : zText 5 = [53] := by
  unfold zText numText
  rw [show (5 : Int).natAbs = 5 from rfl, toD_pos (by decide) (by decide), toD_zero]
  rfl
theorem textI7 : zText (-7) = [45, 55] := by
  unfold zText numText
  rw [show (-7 : Int).natAbs = 7 from rfl, toD_pos (by decide) (by decide), toD_zero]
  rfl
theorem overI_small {z : Int} (h : z.natAbs < 10) : overI z = false := by
  rw [overI_fits, decide_eq_true (Nat.lt_of_lt_of_le h (by decide))]; rfl

set_option maxRecDepth 100000 in
set_option maxHeartbeats 1000000 in
theorem intAwake_walk (p : Addr) (w : World) (hp : EofIs w p) (hleaf : LeafIs w) : Calls Tryz.prog 12 #[] w fun e w' => e = .returned (.bool true) ∧ Below w.heap.size w w' := by
  have hd := intDo_walk [50] [51] p w readI2.1 readI3.1 (by decide) (by decide) hp hleaf (by rw [readI2.2]; exact overI_small (by decide)) (by rw [readI3.2]; exact overI_small (by decide)) (by rw [readI2.2, readI3.2]; exact overI_small (by decide)) (by rw [readI2.2, readI3.2]; rfl)
  have hr : ∀ (w : World) (hp : EofIs w p) (hleaf : LeafIs w), _ := fun w hp hleaf => intRead_walk [45, 55] p w readI7.1 (by decide) hp hleaf
  have e2 : zText (readZ [50] + readZ [51]) = [53] := by rw [readI2.2, readI3.2]; exact textI5
  have e7 : readOutI [45, 55] = [45, 55] := by
    unfold readOutI
    rw [readI7.2, overI_small (by decide)]
    exact textI7
  have eo : overI (readZ [45, 55]) = false := by rw [readI7.2]; exact overI_small (by decide)
  rw [e2] at hd
  rw [e7, eo] at hr
  have HD := Lib.hid hd
  have HR := Lib.hid hr
  have HP := Lib.hid hp
  have HLF := Lib.hid hleaf
  clear hd hr hp hleaf e2 e7 eo
  go_enter Tryz.func12, Tryz.ntmps12
  go_wp2_with fail
  rw [S_lit, S_lit]
  refine HD.out.mono ?_
  rintro e w1 ⟨rfl, hb1⟩
  have HB1 := Lib.hid hb1
  clear hb1
  go_wp2_with fail
  rw [S_lit]
  refine (HR.out w1 (HP.out.below HB1.out) (HLF.out.below HB1.out)).mono ?_
  rintro e w2 ⟨rfl, hb2⟩
  have HB2 := Lib.hid hb2
  clear hb2
  go_wp2_with fail
  go_ret
  exact ⟨rfl, bt HB1.out HB2.out⟩
end Go.Proofs.YtapfolgiafnllaaGreatDoor
