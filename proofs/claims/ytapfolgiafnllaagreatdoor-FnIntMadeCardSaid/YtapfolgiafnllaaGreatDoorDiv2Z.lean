/-
  bits.Sub, division of two words by one.
  divWW by a divisor whose top bit is set.
-/
import Derived.Test.YtapfolgiafnllaaGreatDoorBn17Z
import Derived.Test.YtapfolgiafnllaaGreatDoorDivPureZ
import Derived.Shelf.Spec.BitsCarry
namespace Go.Proofs.YtapfolgiafnllaaGreatDoor
open Go.RowKit

def borrow (x y b : Nat) : Nat := if x < y + b then 1 else 0
set_option maxRecDepth 100000 in
theorem sub64_law (x y b : Nat) (hb : b ≤ 1) (w : World) : (callFunc 209 #[.int .u64 x, .int .u64 y, .int .u64 b]).run Tryz.prog w =
    .ok (.value (.tuple #[.int .u64 (((x + 18446744073709551616 - y - b) % 18446744073709551616 : Nat) : Int), .int .u64 ((borrow x y b : Nat) : Int)])) w := by
  rw [run_callFunc_extern Tryz.func209 (by kernel_rfl) (by kernel_rfl) (by kernel_rfl) (e := sub64Entry) (by kernel_rfl), run_sub64 x y b hb]
  rfl

set_option maxRecDepth 100000 in
set_option maxHeartbeats 1000000 in
theorem bitsSub_walk (x y b : Nat) (w : World) (_hx : x < 18446744073709551616) (_hy : y < 18446744073709551616) (hb : b ≤ 1) :
    Calls Tryz.prog 175 #[.int .u64 x, .int .u64 y, .int .u64 b] w fun e w' =>
      e = .returned (.tuple #[.int .u64 (((x + 18446744073709551616 - y - b) % 18446744073709551616 : Nat) : Int), .int .u64 ((borrow x y b : Nat) : Int)]) ∧ w = w' := by
  have hq : borrow x y b ≤ 1 := by unfold borrow; split <;> omega
  have hm : (x + 18446744073709551616 - y - b) % 18446744073709551616 < 18446744073709551616 := Nat.mod_lt _ (by decide)
  have hA := sub64_law x y b hb
  obtain ⟨s, hs⟩ : ∃ s, (x + 18446744073709551616 - y - b) % 18446744073709551616 = s := ⟨_, rfl⟩
  obtain ⟨q, hq2⟩ : ∃ q, borrow x y b = q := ⟨_, rfl⟩
  rw [hs] at hA hm ⊢
  rw [hq2] at hA hq ⊢
  clear hs hq2
  go_enter Tryz.func175, Tryz.ntmps175
  go_wp2_with fail
  go_ret2
  exact ⟨rfl, rfl⟩

/-- The world has drawn, and is else as it was. -/
def Drawn (w w' : World) : Prop := ∃ n, w' = w.drewN n
theorem Drawn.refl (w : World) : Drawn w w := ⟨0, rfl⟩
theorem Drawn.below {w w' : World} (h : Drawn w w') : Below w.heap.size w w' := by obtain ⟨n, rfl⟩ := h; exact below_drewN (Below.refl _ _) _

set_option maxRecDepth 100000 in
set_option maxHeartbeats 1000000 in
/-- bitsDiv64, the high word being nought. -/
theorem bitsDiv64_0_walk (lo y : Nat) (w : World) (hlo : lo < 18446744073709551616) (hy : y < 18446744073709551616) (hy0 : y ≠ 0) :
    Calls Tryz.prog 242 #[.int .u64 0, .int .u64 lo, .int .u64 y] w fun e w' => e = .returned (.tuple #[.int .u64 ((lo / y : Nat) : Int), .int .u64 ((lo % y : Nat) : Int)]) ∧ Drawn w w' := by
  have hyb : ((y : Int) == 0) = false := beq_eq_false_iff_ne.2 (by omega)
  have hy2 : ¬ (y : Int) ≤ 0 := by omega
  obtain ⟨q, hq⟩ : ∃ q, lo / y = q := ⟨_, rfl⟩
  obtain ⟨r, hr⟩ : ∃ r, lo % y = r := ⟨_, rfl⟩
  have hql : q ≤ 18446744073709551615 := by rw [← hq]; have := Nat.div_le_self lo y; omega
  have hqi : (lo : Int) / y = q := by rw [← hq]; exact (Int.natCast_ediv _ _).symm
  have hri : (lo : Int) % y = r := by rw [← hr]; exact (Int.natCast_emod _ _).symm
  have hw : IntKind.u64.wrap (q : Int) = q := by rw [IntKind.wrap_u64]; omega
  rw [hq, hr]
  clear hq hr
  go_enter Tryz.func242, Tryz.ntmps242
  go_wp2_with fail
  go_quiet (fail)
  go_wp2_with fail
  go_ret2
  exact ⟨by first | rfl | simp [hri], _, rfl⟩

set_option maxRecDepth 100000 in
set_option maxHeartbeats 1000000 in
/-- bitsDiv, the high word being nought. -/
theorem bitsDiv0_walk (lo y : Nat) (w : World) (hlo : lo < 18446744073709551616) (hy : y < 18446744073709551616) (hy0 : y ≠ 0) :
    Calls Tryz.prog 231 #[.int .u64 0, .int .u64 lo, .int .u64 y] w fun e w' => e = .returned (.tuple #[.int .u64 ((lo / y : Nat) : Int), .int .u64 ((lo % y : Nat) : Int)]) ∧ Drawn w w' := by
  have hD := bitsDiv64_0_walk lo y w hlo hy hy0
  obtain ⟨q, hq⟩ : ∃ q, lo / y = q := ⟨_, rfl⟩
  obtain ⟨r, hr⟩ : ∃ r, lo % y = r := ⟨_, rfl⟩
  have hql : q ≤ 18446744073709551615 := by rw [← hq]; have := Nat.div_le_self lo y; omega
  have hrl : r ≤ 18446744073709551615 := by rw [← hr]; have := Nat.mod_lt lo (Nat.pos_of_ne_zero hy0); omega
  rw [hq, hr] at hD
  have HD := Lib.hid hD
  rw [hq, hr]
  clear hD hq hr
  go_enter Tryz.func231, Tryz.ntmps231
  go_wp2_with fail
  refine HD.out.mono ?_
  rintro e w1 ⟨rfl, hdr⟩
  go_wp2_with fail
  go_ret2
  exact ⟨rfl, hdr⟩

set_option maxRecDepth 100000 in
set_option maxHeartbeats 2000000 in
/-- The reciprocal of 10^19. -/
theorem nlz19_walk (w : World) :
    Calls Tryz.prog 160 #[.int .u64 10000000000000000000] w fun e w' => e = .returned (.int .u64 0) ∧ w = w' := by
  have hZ := Tryz.bits_LeadingZeros 10000000000000000000
  go_enter Tryz.func160, Tryz.ntmps160
  go_wp2_with fail
  refine (hZ w (by decide) (by decide)).mono ?_
  rintro e w1 ⟨rfl, rfl⟩
  have hb : (64 : Int) - (Lib.bitLen (Int.toNat 10000000000000000000) : Int) = 0 := by decide
  rw [hb]
  go_wp2_with fail
  go_ret
  exact ⟨rfl, rfl⟩

def Div19Post (w : World) (e : Ending) (w' : World) : Prop := ∃ r : Int, e = .returned (.tuple #[.int .u64 15581492618384294730, .int .u64 r]) ∧ (0 ≤ r ∧ r ≤ 18446744073709551615) ∧ Drawn w w'
def R19 (a b : Value) : Prop := (a = .int .u64 3627848956 ∧ b = .int .u64 618870799) ∨ (a = .int .u64 3627848955 ∧ b = .int .u64 2947177235)
def S19 (a b : Value) : Prop := a = .int .u64 1831519050 ∧ b = .int .u64 1772344535
set_option maxRecDepth 100000 in
set_option maxHeartbeats 2000000 in
theorem bitsDiv19_walk (w : World) :
    Calls Tryz.prog 242 #[.int .u64 8446744073709551615, .int .u64 18446744073709551615, .int .u64 10000000000000000000] w (Div19Post w) := by
  have hZ := Tryz.bits_LeadingZeros64 10000000000000000000
  go_enter Tryz.func242, Tryz.ntmps242
  go_wp2_with fail
  refine (hZ w (by decide) (by decide)).mono ?_
  rintro e w1 ⟨rfl, rfl⟩
  have hb : (64 : Int) - (Lib.bitLen (Int.toNat 10000000000000000000) : Int) = 0 := by decide
  rw [hb]
  have b1 : bits BinOp.or IntKind.u64 8446744073709551615 0 = 8446744073709551615 := by decide
  have b2 : bits BinOp.and IntKind.u64 10000000000000000000 4294967295 = 2313682944 := by decide
  have b3 : bits BinOp.and IntKind.u64 18446744073709551615 4294967295 = 4294967295 := by decide
  clear hZ hb
  go_wp2_with fail
  go_loop [15, 16] (fun a b => R19 a b) (fun a _ => (intOf a - 3627848955).toNat)
  case atStart => exact .inl ⟨rfl, rfl⟩
  case round =>
    rcases hrel with ⟨rfl, rfl⟩ | ⟨rfl, rfl⟩
    · go_wp2_with fail
      exact ⟨.inr ⟨rfl, rfl⟩, by decide⟩
    · go_wp2_with fail
      go_loop [16, 18] (fun b a => S19 a b) (fun _ _ => 0)
      case atStart => exact ⟨rfl, rfl⟩
      case round =>
        obtain ⟨rfl, rfl⟩ := hrel
        go_wp2_with fail
        go_ret2
        exact ⟨_, rfl, by decide, Drawn.refl _⟩

set_option maxRecDepth 100000 in
set_option maxHeartbeats 2000000 in
theorem bitsDiv19b_walk (w : World) :
    Calls Tryz.prog 231 #[.int .u64 8446744073709551615, .int .u64 18446744073709551615, .int .u64 10000000000000000000] w (Div19Post w) := by
  have HD := Lib.hid (bitsDiv19_walk w)
  go_enter Tryz.func231, Tryz.ntmps231
  go_wp2_with fail
  refine HD.out.mono ?_
  rintro e w1 ⟨r, rfl, ⟨hr1, hr2⟩, hdr⟩
  go_wp2_with fail
  go_ret2
  exact ⟨r, rfl, ⟨hr1, hr2⟩, hdr⟩

set_option maxRecDepth 100000 in
set_option maxHeartbeats 2000000 in
/-- The reciprocal of 10^19. -/
theorem recip19_walk (w : World) :
    Calls Tryz.prog 232 #[.int .u64 10000000000000000000] w fun e w' => e = .returned (.int .u64 15581492618384294730) ∧ Drawn w w' := by
  have b4 : bits BinOp.xor IntKind.u64 IntKind.u64.max 10000000000000000000 = 8446744073709551615 := by decide
  have hsg : IntKind.u64.signed = false := rfl
  have HD := Lib.hid (bitsDiv19b_walk w)
  go_enter Tryz.func232, Tryz.ntmps232
  go_wp2_with fail
  refine (nlz19_walk w).mono ?_
  rintro e w1 ⟨rfl, rfl⟩
  go_wp2_with fail
  refine HD.out.mono ?_
  rintro e w1 ⟨r, rfl, ⟨hr1, hr2⟩, hdr⟩
  go_wp2_with fail
  go_ret
  exact ⟨rfl, hdr⟩
end Go.Proofs.YtapfolgiafnllaaGreatDoor

namespace Go.Proofs.YtapfolgiafnllaaGreatDoor
open Go.RowKit

set_option maxRecDepth 100000 in
set_option maxHeartbeats 2000000 in
theorem bitsMul_walk (x y : Nat) (w : World) (hx : x < 18446744073709551616) (hy : y < 18446744073709551616) :
    Calls Tryz.prog 197 #[.int .u64 x, .int .u64 y] w fun e w' => e = .returned (.tuple #[.int .u64 ((x * y / 18446744073709551616 : Nat) : Int), .int .u64 ((x * y % 18446744073709551616 : Nat) : Int)]) ∧ w = w' :=
  (Tryz.bits_Mul x y hx hy w).mono fun _ _ h => ⟨h.1, h.2.symm⟩

/-- What divWW reckons, step by step. -/
structure DivSteps (x1 x0 d m H L s c q c2 D1 D0 r0 b r1 b2 : Nat) : Prop where
  eH : m * x1 / 18446744073709551616 = H
  eL : m * x1 % 18446744073709551616 = L
  es : (L + x0 + 0) % 18446744073709551616 = s
  ec : (L + x0 + 0) / 18446744073709551616 = c
  eq : (H + x1 + c) % 18446744073709551616 = q
  ec2 : (H + x1 + c) / 18446744073709551616 = c2
  eD1 : d * q / 18446744073709551616 = D1
  eD0 : d * q % 18446744073709551616 = D0
  er0 : (x0 + 18446744073709551616 - D0 - 0) % 18446744073709551616 = r0
  eb : borrow x0 D0 0 = b
  er1 : (x1 + 18446744073709551616 - D1 - b) % 18446744073709551616 = r1
  eb2 : borrow x1 D1 b = b2
  sum : r1 * 18446744073709551616 + r0 + d * q = x1 * 18446744073709551616 + x0
  low : x1 * 18446744073709551616 + x0 < d * q + 18446744073709551616 + d
  lt : H < 18446744073709551616 ∧ L < 18446744073709551616 ∧ c ≤ 1 ∧ q < 18446744073709551616 ∧ D1 < 18446744073709551616 ∧ D0 < 18446744073709551616 ∧ r0 < 18446744073709551616 ∧ b ≤ 1 ∧ r1 ≤ 1 ∧ b2 ≤ 1
theorem div_steps {x1 x0 d m : Nat} (hx1 : x1 < d) (hx0 : x0 < 18446744073709551616) (hd : d < 18446744073709551616) (hm : m < 18446744073709551616)
    (h1 : (m + 18446744073709551616) * d < 18446744073709551616 * 18446744073709551616) (h2 : 18446744073709551616 * 18446744073709551616 ≤ (m + 18446744073709551616) * d + d) :
    ∃ H L s c q c2 D1 D0 r0 b r1 b2, DivSteps x1 x0 d m H L s c q c2 D1 D0 r0 b r1 b2 := by
  obtain ⟨k1, k2⟩ := recip_quot (B := 18446744073709551616) (by decide) (Nat.le_of_lt hd) h1 h2 hx1 hx0
  have hmx : m * x1 ≤ 18446744073709551615 * 18446744073709551615 := Nat.mul_le_mul (by omega) (by omega)
  have hq : (m + 18446744073709551616) * x1 + x0 = m * x1 + x0 + x1 * 18446744073709551616 := by rw [Nat.add_mul, Nat.mul_comm 18446744073709551616 x1]; omega
  obtain ⟨q, hqq⟩ : ∃ q, ((m + 18446744073709551616) * x1 + x0) / 18446744073709551616 = q := ⟨_, rfl⟩
  rw [hqq] at k1 k2
  have hqe : q = (m * x1 + x0) / 18446744073709551616 + x1 := by rw [← hqq, hq, Nat.add_mul_div_right _ _ (by decide)]
  have hNd : x1 * 18446744073709551616 + x0 < d * 18446744073709551616 := by
    have := Nat.mul_le_mul_right 18446744073709551616 (show x1 + 1 ≤ d from hx1)
    omega
  have hqW : q < 18446744073709551616 := Nat.lt_of_mul_lt_mul_left (a := d) (Nat.lt_of_le_of_lt k1 hNd)
  obtain ⟨X, hX⟩ : ∃ X, m * x1 = X := ⟨_, rfl⟩
  obtain ⟨Y, hY⟩ : ∃ Y, d * q = Y := ⟨_, rfl⟩
  rw [hX] at hmx hqe
  rw [hY] at k1 k2
  have hH : X / 18446744073709551616 < 18446744073709551616 := by omega
  have hqs : X / 18446744073709551616 + x1 + (X % 18446744073709551616 + x0 + 0) / 18446744073709551616 = q := by omega
  have hb : borrow x0 (Y % 18446744073709551616) 0 ≤ 1 := by unfold borrow; split <;> omega
  have hbb : borrow x0 (Y % 18446744073709551616) 0 = 1 ∧ x0 < Y % 18446744073709551616 ∨ borrow x0 (Y % 18446744073709551616) 0 = 0 ∧ Y % 18446744073709551616 ≤ x0 := by
    unfold borrow
    split
    · exact .inl ⟨rfl, by omega⟩
    · exact .inr ⟨rfl, by omega⟩
  obtain ⟨b, hbe⟩ : ∃ b, borrow x0 (Y % 18446744073709551616) 0 = b := ⟨_, rfl⟩
  rw [hbe] at hb hbb
  have hb2 : borrow x1 (Y / 18446744073709551616) b ≤ 1 := by unfold borrow; split <;> omega
  have hr1 : (x1 + 18446744073709551616 - Y / 18446744073709551616 - b) % 18446744073709551616 = x1 - Y / 18446744073709551616 - b ∧ Y / 18446744073709551616 + b ≤ x1 ∧ x1 - Y / 18446744073709551616 - b ≤ 1 := by
    rcases hbb with ⟨h1, h2⟩ | ⟨h1, h2⟩ <;> subst h1 <;> omega
  refine ⟨_, _, _, _, _, _, _, _, _, _, _, _, ⟨rfl, rfl, rfl, rfl, rfl, rfl, rfl, rfl, rfl, rfl, rfl, rfl, ?_, ?_, ?_⟩⟩
  all_goals
    rw [hX, hqs, Nat.mod_eq_of_lt hqW, hY]
    try rw [hbe]
  · obtain ⟨e1, e2, e3⟩ := hr1
    rw [e1]
    rcases hbb with ⟨h1, h2⟩ | ⟨h1, h2⟩ <;> subst h1 <;> omega
  · exact k2
  · refine ⟨hH, Nat.mod_lt _ (by decide), by omega, hqW, by omega, Nat.mod_lt _ (by decide), Nat.mod_lt _ (by decide), hb, by omega, hb2⟩

set_option maxRecDepth 100000 in
set_option maxHeartbeats 2000000 in
/-- x1 x0 by d, m being d's reciprocal. -/
theorem divWW_walk (x1 x0 d m : Nat) (w : World) (hx1 : x1 < d) (hx0 : x0 < 18446744073709551616) (hd : d < 18446744073709551616) (hd2 : 9223372036854775808 ≤ d) (hm : m < 18446744073709551616)
    (h1 : (m + 18446744073709551616) * d < 18446744073709551616 * 18446744073709551616) (h2 : 18446744073709551616 * 18446744073709551616 ≤ (m + 18446744073709551616) * d + d)
    (hn : ∀ w, Calls Tryz.prog 160 #[.int .u64 d] w fun e w' => e = .returned (.int .u64 0) ∧ w = w') :
    Calls Tryz.prog 233 #[.int .u64 x1, .int .u64 x0, .int .u64 d, .int .u64 m] w fun e w' =>
      e = .returned (.tuple #[.int .u64 (((x1 * 18446744073709551616 + x0) / d : Nat) : Int), .int .u64 (((x1 * 18446744073709551616 + x0) % d : Nat) : Int)]) ∧ w = w' := by
  have hN := Lib.hid (hn w)
  clear hn
  obtain ⟨H, L, s, c, q, c2, D1, D0, r0, b, r1, b2, hS⟩ := div_steps hx1 hx0 hd hm h1 h2
  obtain ⟨lH, lL, lc, lq, lD1, lD0, lr0, lb, lr1, lb2⟩ := hS.lt
  have hM1 := bitsMul_walk m x1 w hm (by omega)
  have hA1 := bitsAdd_walk L x0 0 w lL hx0 (by decide)
  have hA2 := bitsAdd_walk H x1 c w lH (by omega) lc
  have hM2 := bitsMul_walk d q w hd lq
  have hS1 := bitsSub_walk x0 D0 0 w hx0 lD0 (by decide)
  have hS2 := bitsSub_walk x1 D1 b w (by omega) lD1 lb
  rw [hS.eH, hS.eL] at hM1
  rw [hS.es, hS.ec] at hA1
  rw [hS.eq, hS.ec2] at hA2
  rw [hS.eD1, hS.eD0] at hM2
  rw [hS.er0, hS.eb] at hS1
  rw [hS.er1, hS.eb2] at hS2
  have HM1 := Lib.hid hM1
  have HA1 := Lib.hid hA1
  have HA2 := Lib.hid hA2
  have HM2 := Lib.hid hM2
  have HS1 := Lib.hid hS1
  have HS2 := Lib.hid hS2
  have hsum := hS.sum
  have hlow := hS.low
  obtain ⟨N, hNN⟩ : ∃ N, x1 * 18446744073709551616 + x0 = N := ⟨_, rfl⟩
  rw [hNN] at hsum hlow ⊢
  have huniq : ∀ k r, r < d → r + d * k = N → N / d = k ∧ N % d = r := fun k r hr he => (Nat.div_mod_unique (by omega)).2 ⟨by omega, hr⟩
  obtain ⟨Q, hQ⟩ : ∃ Q, N / d = Q := ⟨_, rfl⟩
  obtain ⟨R, hR⟩ : ∃ R, N % d = R := ⟨_, rfl⟩
  have hQW : Q < 18446744073709551616 := by
    rw [← hQ]
    refine Nat.div_lt_of_lt_mul ?_
    have := Nat.mul_le_mul_right 18446744073709551616 (show x1 + 1 ≤ d from hx1)
    omega
  rw [hQ, hR] at huniq ⊢
  have HU := Lib.hid huniq
  have HSU := Lib.hid hsum
  have HLO := Lib.hid hlow
  clear hM1 hA1 hA2 hM2 hS1 hS2 hS hsum hlow huniq hQ hR hNN h1 h2
  go_enter Tryz.func233, Tryz.ntmps233
  go_wp2_with fail
  refine hN.out.mono ?_
  rintro e w1 ⟨rfl, rfl⟩
  go_wp2_with fail
  refine HM1.out.mono ?_
  rintro e w1 ⟨rfl, rfl⟩
  go_wp2_with fail
  refine HA1.out.mono ?_
  rintro e w1 ⟨rfl, rfl⟩
  go_wp2_with fail
  refine HA2.out.mono ?_
  rintro e w1 ⟨rfl, rfl⟩
  go_wp2_with fail
  refine HM2.out.mono ?_
  rintro e w1 ⟨rfl, rfl⟩
  go_wp2_with fail
  refine HS1.out.mono ?_
  rintro e w1 ⟨rfl, rfl⟩
  go_wp2_with fail
  refine HS2.out.mono ?_
  rintro e w1 ⟨rfl, rfl⟩
  have hmul1 : d * (q + 1) = d * q + d := by rw [Nat.mul_add, Nat.mul_one]
  have hmul2 : d * (q + 1 + 1) = d * q + d + d := by rw [Nat.mul_add, Nat.mul_one, hmul1]
  have hsu := HSU.out
  have hlo := HLO.out
  obtain ⟨Y, hY⟩ : ∃ Y, d * q = Y := ⟨_, rfl⟩
  rw [hY] at hsu hlo hmul1 hmul2
  have hqb : r0 < d → r1 = 0 → True := fun _ _ => trivial
  clear hqb
  by_cases hr1 : r1 = 0
  · subst hr1
    by_cases hr0 : r0 < d
    · obtain ⟨e1, e2⟩ := HU.out q r0 hr0 (by rw [hY]; omega)
      have hc1 : ¬ (d : Int) ≤ r0 := by omega
      subst e1 e2
      clear hsu hlo hmul1 hmul2 hY
      go_wp2_with fail
      go_ret2
      exact ⟨rfl, rfl⟩
    · obtain ⟨e1, e2⟩ := HU.out (q + 1) (r0 - d) (by omega) (by rw [hmul1]; omega)
      have hc1 : (d : Int) ≤ r0 := by omega
      have hq1 : (q : Int) + 1 ≤ 18446744073709551615 := by omega
      subst e1 e2
      clear hsu hlo hmul1 hmul2 hY
      go_wp2_with fail
      have f1 : ((r0 - d : Nat) : Int) = (r0 : Int) - d := by omega
      have f2 : ((q + 1 : Nat) : Int) = (q : Int) + 1 := by omega
      go_ret2
      exact ⟨by rw [f1, f2]; rfl, rfl⟩
  · obtain rfl : r1 = 1 := by omega
    have hrd : r0 < d := by omega
    obtain ⟨e, he⟩ : ∃ e, r0 + 18446744073709551616 - d = e := ⟨_, rfl⟩
    have hwe : IntKind.u64.wrap ((r0 : Int) - d) = e := by rw [IntKind.wrap_u64]; omega
    have hew : (e : Int) ≤ 18446744073709551615 := by omega
    by_cases hr0 : e < d
    · obtain ⟨e1, e2⟩ := HU.out (q + 1) e hr0 (by rw [hmul1]; omega)
      have hc1 : ¬ (d : Int) ≤ R := by omega
      have hwq : IntKind.u64.wrap ((q : Int) + 1) = Q := by rw [IntKind.wrap_u64]; omega
      have hwr : IntKind.u64.wrap ((r0 : Int) - d) = R := by rw [hwe]; omega
      clear hsu hlo hmul1 hmul2 hY he hQW hrd hr0 lr0 e1 e2 hwe hew lq
      go_wp2_with fail
      go_ret2
      exact ⟨rfl, rfl⟩
    · obtain ⟨e1, e2⟩ := HU.out (q + 1 + 1) (e - d) (by omega) (by rw [hmul2]; omega)
      have hc1 : (d : Int) ≤ e := by omega
      have hq1 : (q : Int) + 1 ≤ 18446744073709551615 := by omega
      have hq2 : (q : Int) + 1 + 1 ≤ 18446744073709551615 := by omega
      subst e1 e2
      clear hsu hlo hmul1 hmul2 hY he
      go_wp2_with fail
      have f1 : ((e - d : Nat) : Int) = (e : Int) - d := by omega
      have f2 : ((q + 1 + 1 : Nat) : Int) = (q : Int) + 1 + 1 := by omega
      go_ret2
      exact ⟨by rw [f1, f2]; rfl, rfl⟩
end Go.Proofs.YtapfolgiafnllaaGreatDoor
