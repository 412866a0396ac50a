/-
  bits.Sub, division of two words by one.
-/
import Derived.Test.YthipbglnaalhmaaGreatDoorNat2
import Derived.Test.YthipbglnaalhmaaGreatDoorDivPure
import Derived.Shelf.Spec.BitsCarry
namespace Go.Proofs.YthipbglnaalhmaaGreatDoor
open Go.RowKit

def borrow (x y b : Nat) : Nat := if x < y + b then 1 else 0
set_option maxRecDepth 100000 in
theorem sub64_law (x y b : Nat) (hb : b ≤ 1) (w : World) : (callFunc 249 #[.int .u64 x, .int .u64 y, .int .u64 b]).run Tryz.prog w =
    .ok (.value (.tuple #[.int .u64 (((x + 18446744073709551616 - y - b) % 18446744073709551616 : Nat) : Int), .int .u64 ((borrow x y b : Nat) : Int)])) w := by
  rw [run_callFunc_extern Tryz.func249 (by kernel_rfl) (by kernel_rfl) (by kernel_rfl) (e := sub64Entry) (by kernel_rfl), run_sub64 x y b hb]
  rfl

set_option maxRecDepth 100000 in
set_option maxHeartbeats 1000000 in
theorem bitsSub_walk (x y b : Nat) (w : World) (hx : x < 18446744073709551616) (hy : y < 18446744073709551616) (hb : b ≤ 1) :
    Calls Tryz.prog 226 #[.int .u64 x, .int .u64 y, .int .u64 b] w fun e w' =>
      e = .returned (.tuple #[.int .u64 (((x + 18446744073709551616 - y - b) % 18446744073709551616 : Nat) : Int), .int .u64 ((borrow x y b : Nat) : Int)]) ∧ w = w' := by
  have hq : borrow x y b ≤ 1 := by unfold borrow; split <;> omega
  have hm : (x + 18446744073709551616 - y - b) % 18446744073709551616 < 18446744073709551616 := Nat.mod_lt _ (by decide)
  have hA := sub64_law x y b hb
  obtain ⟨s, hs⟩ : ∃ s, (x + 18446744073709551616 - y - b) % 18446744073709551616 = s := ⟨_, rfl⟩
  obtain ⟨q, hq2⟩ : ∃ q, borrow x y b = q := ⟨_, rfl⟩
  rw [hs] at hA hm ⊢
  rw [hq2] at hA hq ⊢
  clear hs hq2
  go_enter Tryz.func226, Tryz.ntmps226
  go_wp2_with fail
  go_ret2
  exact ⟨rfl, rfl⟩

/-- The world has drawn, and is else as it was. -/
def Drawn (w w' : World) : Prop := ∃ n, w' = w.drewN n
theorem Drawn.refl (w : World) : Drawn w w := ⟨0, rfl⟩
theorem Drawn.below {w w' : World} (h : Drawn w w') : Below w.heap.size w w' := by obtain ⟨n, rfl⟩ := h; exact below_drewN (Below.refl _ _) _

set_option maxRecDepth 100000 in
set_option maxHeartbeats 1000000 in
/-- bitsDiv64, the high word being nought. -/
theorem bitsDiv64_0_walk (lo y : Nat) (w : World) (hlo : lo < 18446744073709551616) (hy : y < 18446744073709551616) (hy0 : y ≠ 0) :
    Calls Tryz.prog 296 #[.int .u64 0, .int .u64 lo, .int .u64 y] w fun e w' => e = .returned (.tuple #[.int .u64 ((lo / y : Nat) : Int), .int .u64 ((lo % y : Nat) : Int)]) ∧ Drawn w w' := by
  have hyb : ((y : Int) == 0) = false := beq_eq_false_iff_ne.2 (by omega)
  have hy2 : ¬ (y : Int) ≤ 0 := by omega
  obtain ⟨q, hq⟩ : ∃ q, lo / y = q := ⟨_, rfl⟩
  obtain ⟨r, hr⟩ : ∃ r, lo % y = r := ⟨_, rfl⟩
  have hql : q ≤ 18446744073709551615 := by rw [← hq]; have := Nat.div_le_self lo y; omega
  have hqi : (lo : Int) / y = q := by rw [← hq]; exact (Int.natCast_ediv _ _).symm
  have hri : (lo : Int) % y = r := by rw [← hr]; exact (Int.natCast_emod _ _).symm
  have hw : IntKind.u64.wrap (q : Int) = q := by rw [IntKind.wrap_u64]; omega
  rw [hq, hr]
  clear hq hr
  go_enter Tryz.func296, Tryz.ntmps296
  go_wp2_with fail
  go_quiet (fail)
  go_wp2_with fail
  go_ret2
  exact ⟨by first | rfl | simp [hri], _, rfl⟩

set_option maxRecDepth 100000 in
set_option maxHeartbeats 1000000 in
/-- bitsDiv, the high word being nought. -/
theorem bitsDiv0_walk (lo y : Nat) (w : World) (hlo : lo < 18446744073709551616) (hy : y < 18446744073709551616) (hy0 : y ≠ 0) :
    Calls Tryz.prog 271 #[.int .u64 0, .int .u64 lo, .int .u64 y] w fun e w' => e = .returned (.tuple #[.int .u64 ((lo / y : Nat) : Int), .int .u64 ((lo % y : Nat) : Int)]) ∧ Drawn w w' := by
  have hD := bitsDiv64_0_walk lo y w hlo hy hy0
  obtain ⟨q, hq⟩ : ∃ q, lo / y = q := ⟨_, rfl⟩
  obtain ⟨r, hr⟩ : ∃ r, lo % y = r := ⟨_, rfl⟩
  have hql : q ≤ 18446744073709551615 := by rw [← hq]; have := Nat.div_le_self lo y; omega
  have hrl : r ≤ 18446744073709551615 := by rw [← hr]; have := Nat.mod_lt lo (Nat.pos_of_ne_zero hy0); omega
  rw [hq, hr] at hD
  have HD := Lib.hid hD
  rw [hq, hr]
  clear hD hq hr
  go_enter Tryz.func271, Tryz.ntmps271
  go_wp2_with fail
  refine HD.out.mono ?_
  rintro e w1 ⟨rfl, hdr⟩
  go_wp2_with fail
  go_ret2
  exact ⟨rfl, hdr⟩

set_option maxRecDepth 100000 in
set_option maxHeartbeats 2000000 in
/-- The reciprocal of 10^19. -/
theorem nlz19_walk (w : World) :
    Calls Tryz.prog 257 #[.int .u64 10000000000000000000] w fun e w' => e = .returned (.int .u64 0) ∧ w = w' := by
  have hZ := Tryz.bits_LeadingZeros 10000000000000000000
  go_enter Tryz.func257, Tryz.ntmps257
  go_wp2_with fail
  refine (hZ w (by decide) (by decide)).mono ?_
  rintro e w1 ⟨rfl, rfl⟩
  have hb : (64 : Int) - (Lib.bitLen (Int.toNat 10000000000000000000) : Int) = 0 := by decide
  rw [hb]
  go_wp2_with fail
  go_ret
  exact ⟨rfl, rfl⟩

def Div19Post (w : World) (e : Ending) (w' : World) : Prop := ∃ r : Int, e = .returned (.tuple #[.int .u64 15581492618384294730, .int .u64 r]) ∧ (0 ≤ r ∧ r ≤ 18446744073709551615) ∧ Drawn w w'
def R19 (a b : Value) : Prop := (a = .int .u64 3627848956 ∧ b = .int .u64 618870799) ∨ (a = .int .u64 3627848955 ∧ b = .int .u64 2947177235)
def S19 (a b : Value) : Prop := a = .int .u64 1831519050 ∧ b = .int .u64 1772344535
set_option maxRecDepth 100000 in
set_option maxHeartbeats 2000000 in
theorem bitsDiv19_walk (w : World) :
    Calls Tryz.prog 296 #[.int .u64 8446744073709551615, .int .u64 18446744073709551615, .int .u64 10000000000000000000] w (Div19Post w) := by
  have hZ := Tryz.bits_LeadingZeros64 10000000000000000000
  go_enter Tryz.func296, Tryz.ntmps296
  go_wp2_with fail
  refine (hZ w (by decide) (by decide)).mono ?_
  rintro e w1 ⟨rfl, rfl⟩
  have hb : (64 : Int) - (Lib.bitLen (Int.toNat 10000000000000000000) : Int) = 0 := by decide
  rw [hb]
  have b1 : bits BinOp.or IntKind.u64 8446744073709551615 0 = 8446744073709551615 := by decide
  have b2 : bits BinOp.and IntKind.u64 10000000000000000000 4294967295 = 2313682944 := by decide
  have b3 : bits BinOp.and IntKind.u64 18446744073709551615 4294967295 = 4294967295 := by decide
  clear hZ hb
  go_wp2_with fail
  go_loop [15, 16] (fun a b => R19 a b) (fun a _ => (intOf a - 3627848955).toNat)
  case atStart => exact .inl ⟨rfl, rfl⟩
  case round =>
    rcases hrel with ⟨rfl, rfl⟩ | ⟨rfl, rfl⟩
    · go_wp2_with fail
      exact ⟨.inr ⟨rfl, rfl⟩, by decide⟩
    · go_wp2_with fail
      go_loop [16, 18] (fun b a => S19 a b) (fun _ _ => 0)
      case atStart => exact ⟨rfl, rfl⟩
      case round =>
        obtain ⟨rfl, rfl⟩ := hrel
        go_wp2_with fail
        go_ret2
        exact ⟨_, rfl, by decide, Drawn.refl _⟩

set_option maxRecDepth 100000 in
set_option maxHeartbeats 2000000 in
theorem bitsDiv19b_walk (w : World) :
    Calls Tryz.prog 271 #[.int .u64 8446744073709551615, .int .u64 18446744073709551615, .int .u64 10000000000000000000] w (Div19Post w) := by
  have HD := Lib.hid (bitsDiv19_walk w)
  go_enter Tryz.func271, Tryz.ntmps271
  go_wp2_with fail
  refine HD.out.mono ?_
  rintro e w1 ⟨r, rfl, ⟨hr1, hr2⟩, hdr⟩
  go_wp2_with fail
  go_ret2
  exact ⟨r, rfl, ⟨hr1, hr2⟩, hdr⟩

set_option maxRecDepth 100000 in
set_option maxHeartbeats 2000000 in
/-- The reciprocal of 10^19. -/
theorem recip19_walk (w : World) :
    Calls Tryz.prog 272 #[.int .u64 10000000000000000000] w fun e w' => e = .returned (.int .u64 15581492618384294730) ∧ Drawn w w' := by
  have b4 : bits BinOp.xor IntKind.u64 IntKind.u64.max 10000000000000000000 = 8446744073709551615 := by decide
  have hsg : IntKind.u64.signed = false := rfl
  have HD := Lib.hid (bitsDiv19b_walk w)
  go_enter Tryz.func272, Tryz.ntmps272
  go_wp2_with fail
  refine (nlz19_walk w).mono ?_
  rintro e w1 ⟨rfl, rfl⟩
  go_wp2_with fail
  refine HD.out.mono ?_
  rintro e w1 ⟨r, rfl, ⟨hr1, hr2⟩, hdr⟩
  go_wp2_with fail
  go_ret
  exact ⟨rfl, hdr⟩
end Go.Proofs.YthipbglnaalhmaaGreatDoor
