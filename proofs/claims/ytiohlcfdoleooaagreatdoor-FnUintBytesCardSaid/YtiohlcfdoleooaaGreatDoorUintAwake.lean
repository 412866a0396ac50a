/-
  laws.uintAwake: true.
-/
import Derived.Test.YtiohlcfdoleooaaGreatDoorUintDo
import Derived.Test.YtiohlcfdoleooaaGreatDoorSpecText
namespace Go.Proofs.YtiohlcfdoleooaaGreatDoor
open Go.RowKit

theorem overU_fits (z : Int) : overU z = (decide (z < 0) || !decide (z.natAbs < 2 ^ 256)) := by
  unfold overU
  congr 1
  by_cases h : z.natAbs < 2 ^ 256
  · rw [decide_eq_true h, decide_eq_false (by have := (natLen_lt_iff z.natAbs 256).2 h; omega)]; rfl
  · rw [decide_eq_false h, decide_eq_true (by
      refine Nat.lt_of_not_le fun hle => h ((natLen_lt_iff z.natAbs 256).1 hle))]; rfl
theorem read5 : readOk [53] = true ∧ readZ [53] = 5 := by decide
theorem read3 : readOk [51] = true ∧ readZ [51] = 3 := by decide
theorem read7 : readOk [55] = true ∧ readZ [55] = 7 := by decide
theorem text2 : zText 2 = [50] := by
  unfold zText numText
  rw [show (2 : Int).natAbs = 2 from rfl, toD_pos (by decide) (by decide), toD_zero]
  rfl
theorem text7 : zText 7 = [55] := by
  unfold zText numText
  rw [show (7 : Int).natAbs = 7 from rfl, toD_pos (by decide) (by decide), toD_zero]
  rfl
theorem over_small {z : Int} (h0 : 0 ≤ z) (h1 : z < 10) : overU z = false := by
  rw [overU_fits, decide_eq_false (by omega), decide_eq_true (Nat.lt_of_lt_of_le (show z.natAbs < 10 by omega) (by decide))]; rfl

set_option maxRecDepth 100000 in
set_option maxHeartbeats 1000000 in
theorem uintAwake_walk (p : Addr) (w : World) (hp : EofIs w p) (hleaf : LeafIs w) : Calls Tryz.prog 15 #[] w fun e w' => e = .returned (.bool true) ∧ Below w.heap.size w w' := by
  have hd := uintDo_walk [53] [51] p w read5.1 read3.1 (by decide) (by decide) hp hleaf (by rw [read5.2]; exact over_small (by decide) (by decide)) (by rw [read3.2]; exact over_small (by decide) (by decide)) (by rw [read5.2, read3.2]; exact over_small (by decide) (by decide))
  have hr : ∀ (w : World) (hp : EofIs w p) (hleaf : LeafIs w), _ := fun w hp hleaf => uintRead_walk [55] p w read7.1 (by decide) hp hleaf
  have e2 : zText (readZ [53] - readZ [51]) = [50] := by rw [read5.2, read3.2]; exact text2
  have e7 : readOut [55] = [55] := by
    unfold readOut
    rw [read7.2, over_small (by decide) (by decide)]
    exact text7
  have eo : overU (readZ [55]) = false := by rw [read7.2]; exact over_small (by decide) (by decide)
  rw [e2] at hd
  rw [e7, eo] at hr
  have HD := Lib.hid hd
  have HR := Lib.hid hr
  have HP := Lib.hid hp
  have HLF := Lib.hid hleaf
  clear hd hr hp hleaf e2 e7 eo
  go_enter Tryz.func15, Tryz.ntmps15
  go_wp2_with fail
  rw [S_lit, S_lit]
  refine HD.out.mono ?_
  rintro e w1 ⟨rfl, hb1⟩
  have HB1 := Lib.hid hb1
  clear hb1
  go_wp2_with fail
  rw [S_lit]
  refine (HR.out w1 (HP.out.below HB1.out) (HLF.out.below HB1.out)).mono ?_
  rintro e w2 ⟨rfl, hb2⟩
  have HB2 := Lib.hid hb2
  clear hb2
  go_wp2_with fail
  go_ret
  exact ⟨rfl, bt HB1.out HB2.out⟩
end Go.Proofs.YtiohlcfdoleooaaGreatDoor
