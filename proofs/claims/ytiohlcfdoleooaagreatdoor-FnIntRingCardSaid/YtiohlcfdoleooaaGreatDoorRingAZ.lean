/-
  FnIntRing's closure, and what the law holds against each other: plain laws.
-/
import Derived.Test.YtiohlcfdoleooaaGreatDoorIntDoGZ
import Derived.Test.YtiohlcfdoleooaaGreatDoorTextReadZ
import Derived.Test.YtiohlcfdoleooaaGreatDoorBn25Z
namespace Go.Proofs.YtiohlcfdoleooaaGreatDoor
open Go.RowKit

/-- What the closure does with two Ints, where both are there. -/
def dnI (op : Nat) (r1 r2 : Option Int) : Option Int := r1.bind fun x => r2.bind fun y => iRes op x y
def GoodI (r : Option Int) : Prop := ∀ z, r = some z → overI z = false
theorem goodI_some {z : Int} (h : overI z = false) : GoodI (some z) := fun y hy => by injection hy with hy; subst hy; exact h
theorem goodI_res (op : Nat) (x y : Int) : GoodI (iRes op x y) := by
  intro z h
  unfold iRes at h
  split at h
  · rename_i z' _
    by_cases ho : overI z' = true
    · rw [if_pos ho] at h; cases h
    · rw [if_neg ho] at h
      injection h with h
      subst h
      simpa using ho
  · cases h
theorem text_smallI {z : Int} (h : overI z = false) : (zText z).length ≤ 1000 := by
  have h2 := overI_abs h
  have := text_len (k := 100) (Nat.lt_of_lt_of_le h2 (by decide))
  omega
theorem idoZ_walk (op : Nat) (x y : Int) (p e1 e2 : Addr) (w : World) (hop : op ≤ 6) (ox : overI x = false) (oy : overI y = false) (hp : EofIs w p) (hleaf : LeafIs w) (hkara : KaraIs w) (hdiv : DivIs w) (herr : ErrsAre w e1 e2) :
    Calls Tryz.prog 36 #[.int .i64 (op : Int), .string (S (zText x)), .string (S (zText y))] w fun e w' => e = .returned (.tuple #[.string (S (outT (iRes op x y))), .bool (iRes op x y).isSome]) ∧ Below w.heap.size w w' := by
  obtain ⟨k1, z1⟩ := read_text x
  obtain ⟨k2, z2⟩ := read_text y
  have hd := intDoG_walk op (zText x) (zText y) p e1 e2 w k1 k2 (text_smallI ox) (text_smallI oy) hp hleaf hkara hdiv herr hop (by rw [z1]; exact ox) (by rw [z2]; exact oy)
  rw [z1, z2] at hd
  exact hd

set_option maxRecDepth 100000 in
set_option maxHeartbeats 1000000 in
theorem ringNo1 (i : Int) (X Y : List UInt8) (b : Bool) (w : World) :
    Calls Tryz.prog 38 #[.int .i64 i, .string (S X), .bool false, .string (S Y), .bool b] w fun e w' => e = .returned (.tuple #[.string (S []), .bool false]) ∧ w' = w := by
  go_enter Tryz.func38, Tryz.ntmps38
  go_wp2_with fail
  go_ret2
  exact ⟨rfl, rfl⟩
set_option maxRecDepth 100000 in
set_option maxHeartbeats 1000000 in
theorem ringNo2 (i : Int) (X Y : List UInt8) (w : World) :
    Calls Tryz.prog 38 #[.int .i64 i, .string (S X), .bool true, .string (S Y), .bool false] w fun e w' => e = .returned (.tuple #[.string (S []), .bool false]) ∧ w' = w := by
  go_enter Tryz.func38, Tryz.ntmps38
  go_wp2_with fail
  go_ret2
  exact ⟨rfl, rfl⟩
set_option maxRecDepth 100000 in
set_option maxHeartbeats 1000000 in
theorem ringYes (i : Int) (X Y T : List UInt8) (b : Bool) (w : World) (h : Calls Tryz.prog 36 #[.int .i64 i, .string (S X), .string (S Y)] w fun e w' => e = .returned (.tuple #[.string (S T), .bool b]) ∧ Below w.heap.size w w') :
    Calls Tryz.prog 38 #[.int .i64 i, .string (S X), .bool true, .string (S Y), .bool true] w fun e w' => e = .returned (.tuple #[.string (S T), .bool b]) ∧ Below w.heap.size w w' := by
  have H := Lib.hid h
  clear h
  go_enter Tryz.func38, Tryz.ntmps38
  go_wp2_with fail
  refine H.out.mono ?_
  rintro e w1 ⟨rfl, hb⟩
  go_wp2_with fail
  go_ret2
  exact ⟨rfl, hb⟩
theorem ring_walk (op : Nat) (r1 r2 : Option Int) (p e1 e2 : Addr) (w : World) (hop : op ≤ 6) (g1 : GoodI r1) (g2 : GoodI r2) (hp : EofIs w p) (hleaf : LeafIs w) (hkara : KaraIs w) (hdiv : DivIs w) (herr : ErrsAre w e1 e2) :
    Calls Tryz.prog 38 #[.int .i64 (op : Int), .string (S (outT r1)), .bool r1.isSome, .string (S (outT r2)), .bool r2.isSome] w fun e w' => e = .returned (.tuple #[.string (S (outT (dnI op r1 r2))), .bool (dnI op r1 r2).isSome]) ∧ Below w.heap.size w w' := by
  cases r1 with
  | none => exact (ringNo1 _ _ _ _ w).mono (by rintro e w' ⟨rfl, rfl⟩; exact ⟨rfl, Below.refl _ _⟩)
  | some x =>
    cases r2 with
    | none => exact (ringNo2 _ _ _ w).mono (by rintro e w' ⟨rfl, rfl⟩; exact ⟨rfl, Below.refl _ _⟩)
    | some y => exact ringYes _ _ _ _ _ w (idoZ_walk op x y p e1 e2 w hop (g1 x rfl) (g2 y rfl) hp hleaf hkara hdiv herr)
theorem iRes_fit {op : Nat} {x y z : Int} (h : refZ op x y = some z) : iRes op x y = if overI z = true then none else some z := by
  unfold iRes
  rw [h]
/-- The law of distribution. -/
theorem ring_distrib (x y z : Int) (h1 : (dnI 2 (some x) (iRes 0 y z)).isSome = true) (h2 : (dnI 0 (iRes 2 x y) (iRes 2 x z)).isSome = true) : outT (dnI 2 (some x) (iRes 0 y z)) = outT (dnI 0 (iRes 2 x y) (iRes 2 x z)) := by
  have e0 : ∀ a b : Int, iRes 0 a b = if overI (a + b) = true then none else some (a + b) := fun a b => iRes_fit rfl
  have e2 : ∀ a b : Int, iRes 2 a b = if overI (a * b) = true then none else some (a * b) := fun a b => iRes_fit rfl
  rw [e0] at h1 ⊢
  rw [e2, e2] at h2 ⊢
  by_cases c1 : overI (y + z) = true
  · rw [if_pos c1] at h1; cases h1
  · by_cases c2 : overI (x * y) = true
    · rw [if_pos c2] at h2; cases h2
    · by_cases c3 : overI (x * z) = true
      · rw [if_pos c3, if_neg c2] at h2; cases h2
      · rw [if_neg c1, if_neg c2, if_neg c3]
        show outT (iRes 2 x (y + z)) = outT (iRes 0 (x * y) (x * z))
        rw [e0, e2, Int.mul_add]
/-- A number taken off again. -/
theorem ring_back (y z : Int) (oy : overI y = false) (h : (iRes 0 y z).isSome = true) : dnI 1 (iRes 0 y z) (some z) = some y := by
  have e0 : iRes 0 y z = if overI (y + z) = true then none else some (y + z) := iRes_fit rfl
  rw [e0] at h ⊢
  by_cases c1 : overI (y + z) = true
  · rw [if_pos c1] at h; cases h
  · rw [if_neg c1]
    show iRes 1 (y + z) z = some y
    have e1 : iRes 1 (y + z) z = if overI (y + z - z) = true then none else some (y + z - z) := iRes_fit rfl
    rw [e1, Int.add_sub_cancel, oy, if_neg (by decide)]
theorem ring_none (op : Nat) (r : Option Int) (x : Int) (h : r.isSome = false) : (dnI op (some x) r).isSome = false ∧ (dnI op r (some x)).isSome = false := by
  cases r with
  | none => exact ⟨rfl, rfl⟩
  | some z => cases h
theorem ring_quo (x y : Int) (hy : y ≠ 0) (ox : overI x = false) : iRes 3 x y = some (x.tdiv y) := iRes_some (if_neg hy) (quoI_fits ox)
theorem ring_mod (x y : Int) (hy : y ≠ 0) (oy : overI y = false) : iRes 4 x y = some (modZ x y) := iRes_some (refZ_mod hy) (modI_fits hy oy)
/-- The quotient times the divisor and the rest make the number again, where it is not less than 0. -/
theorem ring_whole (x y : Int) (hx : 0 ≤ x) (_hy : y ≠ 0) (ox : overI x = false) : iRes 2 (x.tdiv y) y = some (x.tdiv y * y) ∧ dnI 0 (some (x.tdiv y * y)) (some (modZ x y)) = some x := by
  have hs := Int.tdiv_mul_add_tmod x y
  have hm0 : 0 ≤ x.tmod y := Int.tmod_nonneg y hx
  have hm : modZ x y = x.tmod y := by unfold modZ; rw [if_neg (by omega)]
  have hle : (x.tdiv y * y).natAbs ≤ x.natAbs := by rw [Int.natAbs_mul, natAbs_quo]; exact Nat.div_mul_le_self _ _
  have ho : overI (x.tdiv y * y) = false := by
    have h1 := overI_abs ox
    unfold overI
    refine decide_eq_false ?_
    have := (natLen_lt_iff (x.tdiv y * y).natAbs 256).2 (by omega)
    omega
  refine ⟨iRes_some rfl ho, ?_⟩
  show iRes 0 (x.tdiv y * y) (modZ x y) = some x
  rw [hm]
  exact iRes_some (z := x) (congrArg some hs) ox
theorem read_pos {c : UInt8} {t : List UInt8} (hc : c ≠ 45) : 0 ≤ readZ (c :: t) := by
  have h : readNeg (c :: t) = false := by simp [readNeg, hc]
  unfold readZ readSign
  rw [h, Bool.and_false, if_neg (by decide)]
  omega
end Go.Proofs.YtiohlcfdoleooaaGreatDoor
