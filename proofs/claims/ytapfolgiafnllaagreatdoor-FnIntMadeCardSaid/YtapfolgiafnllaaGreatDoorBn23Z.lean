/-
  math/big's bitsDiv64 by a divisor of 64 bits, reciprocalWord.
-/
import Derived.Test.YtapfolgiafnllaaGreatDoorBn11Z
import Derived.Test.YtapfolgiafnllaaGreatDoorDiv2Z
import Derived.Test.YtapfolgiafnllaaGreatDoorBn18Z
import Derived.Laws.Bits64
namespace Go.Proofs.YtapfolgiafnllaaGreatDoor
open Go.RowKit

theorem mask32 (n : Nat) (h : n < 18446744073709551616) : bits BinOp.and IntKind.u64 (n : Int) 4294967295 = ((n % 4294967296 : Nat) : Int) := by
  have h1 := bits_mask .u64 64 (by decide) (fun n h0 h1 => by rw [IntKind.wrap_u64]; omega) 32 (by decide) (n : Int) (by omega) (by omega)
  have e : ((2 : Int) ^ 32 - 1) = 4294967295 := by decide
  have e2 : ((2 : Int) ^ 32) = 4294967296 := by decide
  rw [e, e2] at h1
  rw [h1]
  omega
theorem or_zero (n : Nat) (h : n < 18446744073709551616) : bits BinOp.or IntKind.u64 (n : Int) 0 = (n : Int) := by
  have h1 := bits_or_u64_nat n 0 h (by decide)
  rw [Nat.or_zero] at h1
  exact h1
/-- The first loop of bitsDiv64: q is not too small, r its rest. -/
def HdRel (B n d y1 y0 : Nat) (qv rv : Value) : Prop := ∃ q r : Nat, qv = .int .u64 q ∧ rv = .int .u64 r ∧ q * y1 + r = n ∧ r < B ∧ q ≤ B + 1 ∧ (n * B + d) / (y1 * B + y0) ≤ q

theorem two_u64 {a b c d : Int} {P : Prop} (h1 : a = c) (h2 : b = d) (hp : P) : Ending.returned (.tuple #[.int .u64 a, .int .u64 b]) = .returned (.tuple #[.int .u64 c, .int .u64 d]) ∧ P := ⟨by rw [h1, h2], hp⟩
/-- What one half of the division knows at its start. -/
structure HalfIn (n d y1 y0 q r p : Nat) : Prop where
  eq : q * y1 + r = n
  rlt : r < 4294967296
  qle : q ≤ 4294967297
  Qle : (n * 4294967296 + d) / (y1 * 4294967296 + y0) ≤ q
  ep : q * y1 = p
  eq2 : n / y1 = q
  er2 : n - p = r
theorem half_in {n d y1 y0 : Nat} (hn : n < y1 * 4294967296 + y0) (hd : d < 4294967296) (hy1 : 2147483648 ≤ y1) (hy1b : y1 < 4294967296) (hy0 : y0 < 4294967296) : ∃ q r p, HalfIn n d y1 y0 q r p := by
  have h1 := Nat.div_add_mod n y1
  have h2 := Nat.mod_lt n (show y1 > 0 by omega)
  have h3 := hd_first (n := n) (y0 := y0) (show 0 < y1 by omega) hd
  have h4 := hd_top hn hy0 (show 4294967296 ≤ 2 * y1 by omega) (by omega)
  obtain ⟨q, hq⟩ : ∃ q, n / y1 = q := ⟨_, rfl⟩
  obtain ⟨r, hr⟩ : ∃ r, n % y1 = r := ⟨_, rfl⟩
  rw [hq, hr] at h1
  rw [hr] at h2
  rw [hq] at h3 h4
  rw [Nat.mul_comm] at h1
  exact ⟨q, r, _, ⟨h1, by omega, h4, h3, rfl, hq, by omega⟩⟩
theorem half_rest {n d y q : Nat} (h : q = (n * 4294967296 + d) / y) : n * 4294967296 + d - q * y = (n * 4294967296 + d) % y ∧ q * y ≤ n * 4294967296 + d := by
  have h1 := Nat.div_add_mod (n * 4294967296 + d) y
  rw [← h, Nat.mul_comm] at h1
  exact ⟨by omega, by omega⟩
/-- n B + d - q y, as the machine reckons it. -/
theorem half_wrap {n d q y N2 : Nat} (h1 : q * y ≤ n * 4294967296 + d) (h2 : n * 4294967296 + d - q * y = N2) (hN : N2 < 18446744073709551616) (a b : Int) (ha : a = IntKind.u64.wrap (IntKind.u64.wrap ((n : Int) * 4294967296) + d)) (hb : b = IntKind.u64.wrap ((q : Int) * y)) : IntKind.u64.wrap (a - b) = (N2 : Int) := by
  subst ha hb
  have e : (q : Int) * y = ((q * y : Nat) : Int) := (Int.natCast_mul _ _).symm
  rw [e]
  generalize q * y = P at *
  simp only [IntKind.wrap_u64]
  omega

set_option maxRecDepth 100000 in
set_option maxHeartbeats 4000000 in
theorem bitsDiv64_walk (n lo y : Nat) (w : World) (hn : n < y) (hn0 : n ≠ 0) (hlo : lo < 18446744073709551616) (hy : y < 18446744073709551616) (hy2 : 9223372036854775808 ≤ y) :
    Calls Tryz.prog 242 #[.int .u64 n, .int .u64 lo, .int .u64 y] w fun e w' => e = .returned (.tuple #[.int .u64 (((n * 18446744073709551616 + lo) / y : Nat) : Int), .int .u64 (((n * 18446744073709551616 + lo) % y : Nat) : Int)]) ∧ Drawn w w' := by
  have hZ := Tryz.bits_LeadingZeros64 (y : Int)
  have hb : (64 : Int) - (Lib.bitLen (Int.toNat (y : Int)) : Int) = 0 := by
    rw [Int.toNat_natCast, bitLen_natLen hy]
    have h1 : natLen y = 64 := by
      refine Nat.le_antisymm ((natLen_lt_iff y 64).2 hy) ?_
      refine Nat.lt_of_not_le fun h => ?_
      have := (natLen_lt_iff y 63).1 h
      omega
    rw [h1]
    rfl
  have hB := Lib.hid hb
  have hnlt := hn
  -- the halves
  obtain ⟨y1, hy1⟩ : ∃ y1, y / 4294967296 = y1 := ⟨_, rfl⟩
  obtain ⟨y0, hy0⟩ : ∃ y0, y % 4294967296 = y0 := ⟨_, rfl⟩
  obtain ⟨d1, hd1⟩ : ∃ d1, lo / 4294967296 = d1 := ⟨_, rfl⟩
  obtain ⟨d0, hd0⟩ : ∃ d0, lo % 4294967296 = d0 := ⟨_, rfl⟩
  have ey : y = y1 * 4294967296 + y0 := by omega
  have elo : lo = d1 * 4294967296 + d0 := by omega
  have m1 : bits BinOp.and IntKind.u64 (y : Int) 4294967295 = (y0 : Int) := by rw [mask32 y hy, hy0]
  have m2 : bits BinOp.and IntKind.u64 (lo : Int) 4294967295 = (d0 : Int) := by rw [mask32 lo hlo, hd0]
  have m3 := or_zero n (by omega)
  have m4 : (y : Int) / 4294967296 = (y1 : Int) := by omega
  have m5 : (lo : Int) / 4294967296 = (d1 : Int) := by omega
  have m6 : (lo : Int) / 18446744073709551616 = 0 := by omega
  have hyb : ((y : Int) == 0) = false := beq_eq_false_iff_ne.2 (by omega)
  have hle : ¬ (y : Int) ≤ n := by omega
  have hnb : ((n : Int) == 0) = false := beq_eq_false_iff_ne.2 (by omega)
  have hy1a : 2147483648 ≤ y1 := by omega
  have hy1b : y1 < 4294967296 := by omega
  have hy0b : y0 < 4294967296 := by omega
  have hd1b : d1 < 4294967296 := by omega
  have hd0b : d0 < 4294967296 := by omega
  have hj := div_join (B := 4294967296) (n := n) (d1 := d1) (d0 := d0) (y := y)
  have e64 : n * (4294967296 * 4294967296) + (d1 * 4294967296 + d0) = n * 18446744073709551616 + lo := by rw [← elo]
  rw [e64] at hj
  have hQ1lt : (n * 4294967296 + d1) / y < 4294967296 := hd_lt hn hd1b
  have hN2 : (n * 4294967296 + d1) % y < y := Nat.mod_lt _ (by omega)
  have hQ2lt : ((n * 4294967296 + d1) % y * 4294967296 + d0) / y < 4294967296 := hd_lt hN2 hd0b
  have hR2 : ((n * 4294967296 + d1) % y * 4294967296 + d0) % y < y := Nat.mod_lt _ (by omega)
  rw [← hj.1, ← hj.2]
  have hnb2 : n < y1 * 4294967296 + y0 := by omega
  obtain ⟨q1, r1, p1, hin1⟩ := half_in hnb2 hd1b hy1a hy1b hy0b
  have e1 : (n : Int) / (y1 : Int) = (q1 : Int) := by rw [← hin1.eq2]; exact (Int.natCast_ediv _ _).symm
  have e2 : (q1 : Int) * (y1 : Int) = (p1 : Int) := by rw [← hin1.ep]; exact (Int.natCast_mul _ _).symm
  have hp1 : p1 ≤ n := by have := hin1.eq; have := hin1.ep; omega
  have e3 : (n : Int) - (p1 : Int) = (r1 : Int) := by have := hin1.er2; omega
  have hq1b : q1 ≤ 4294967297 := hin1.qle
  have HIN1 := Lib.hid hin1
  have HEY := Lib.hid ey
  obtain ⟨Q1, hQ1⟩ : ∃ Q1, (n * 4294967296 + d1) / y = Q1 := ⟨_, rfl⟩
  obtain ⟨N2, hN2e⟩ : ∃ N2, (n * 4294967296 + d1) % y = N2 := ⟨_, rfl⟩
  rw [hN2e] at hN2 hQ2lt hR2 ⊢
  rw [hQ1] at hQ1lt ⊢
  have HQ1 := Lib.hid hQ1
  have HN2 := Lib.hid hN2e
  -- the second half
  have hrest := half_rest (n := n) (d := d1) (y := y) hQ1.symm
  rw [hN2e] at hrest
  have hW1 : IntKind.u64.wrap (IntKind.u64.wrap (IntKind.u64.wrap ((n : Int) * 4294967296) + d1) - IntKind.u64.wrap ((Q1 : Int) * y)) = (N2 : Int) := half_wrap hrest.2 hrest.1 (by omega) _ _ rfl rfl
  have hnb3 : N2 < y1 * 4294967296 + y0 := by omega
  obtain ⟨q2, r2, p2, hin2⟩ := half_in hnb3 hd0b hy1a hy1b hy0b
  have f1 : (N2 : Int) / (y1 : Int) = (q2 : Int) := by rw [← hin2.eq2]; exact (Int.natCast_ediv _ _).symm
  have f2 : (q2 : Int) * (y1 : Int) = (p2 : Int) := by rw [← hin2.ep]; exact (Int.natCast_mul _ _).symm
  have hp2 : p2 ≤ N2 := by have := hin2.eq; have := hin2.ep; omega
  have f3 : (N2 : Int) - (p2 : Int) = (r2 : Int) := by have := hin2.er2; omega
  have hq2b : q2 ≤ 4294967297 := hin2.qle
  obtain ⟨Q2, hQ2⟩ : ∃ Q2, (N2 * 4294967296 + d0) / y = Q2 := ⟨_, rfl⟩
  obtain ⟨R2, hR2e⟩ : ∃ R2, (N2 * 4294967296 + d0) % y = R2 := ⟨_, rfl⟩
  rw [hR2e] at hR2 ⊢
  rw [hQ2] at hQ2lt ⊢
  have hrest2 := half_rest (n := N2) (d := d0) (y := y) hQ2.symm
  rw [hR2e] at hrest2
  have hW2 : IntKind.u64.wrap (IntKind.u64.wrap (IntKind.u64.wrap ((N2 : Int) * 4294967296) + d0) - IntKind.u64.wrap ((Q2 : Int) * y)) = (R2 : Int) := half_wrap hrest2.2 hrest2.1 (by omega) _ _ rfl rfl
  have HIN2 := Lib.hid hin2
  have HQ2 := Lib.hid hQ2
  have HNB3 := Lib.hid hnb3
  have HNB2 := Lib.hid hnb2
  have HF1 := Lib.hid f1
  have HF2 := Lib.hid f2
  have HF3 := Lib.hid f3
  have HW1 := Lib.hid hW1
  have HW2 := Lib.hid hW2
  have hN2b : N2 < 18446744073709551616 := by omega
  have hR2b : R2 < 18446744073709551616 := by omega
  clear hb hj e64 hin1 hin2 hnlt hy1 hy0 hd1 hd0 elo hQ1 hN2e ey hrest hrest2 hQ2 hR2e f1 f2 f3 hW1 hW2 hnb3
  go_enter Tryz.func242, Tryz.ntmps242
  go_wp2_with fail
  refine (hZ w (by omega) (by omega)).mono ?_
  rintro e w1 ⟨rfl, rfl⟩
  rw [hB.out]
  clear hZ
  go_wp2_with fail
  clear e1 e2 e3 m1 m2 m3 m4 m5 m6
  go_loop [15, 16] (fun qv rv => HdRel 4294967296 n d1 y1 y0 qv rv) (fun qv _ => natOf qv)
  case atStart => exact ⟨q1, r1, rfl, rfl, HIN1.out.eq, HIN1.out.rlt, HIN1.out.qle, HIN1.out.Qle⟩
  case round =>
    obtain ⟨q, r, rfl, rfl, he, hr, hqB, hQ⟩ := hrel
    obtain ⟨P, hP⟩ : ∃ P, q * y0 = P := ⟨_, rfl⟩
    have hPi : (q : Int) * (y0 : Int) = (P : Int) := by rw [← hP]; exact (Int.natCast_mul _ _).symm
    have hPb : P ≤ 4294967297 * 4294967295 := by rw [← hP]; exact Nat.mul_le_mul hqB (by omega)
    by_cases hgo : 4294967296 ≤ q ∨ r * 4294967296 + d1 < P
    · have hg := hd_go (B := 4294967296) (d := d1) (y0 := y0) he (by rw [hP]; exact hgo) hnb2 hd1b hQ
      have hq1 : 1 ≤ q := Nat.le_trans (Nat.le_add_left 1 _) hg
      obtain ⟨q', rfl⟩ : ∃ q', q = q' + 1 := ⟨q - 1, by omega⟩
      have hqi : ((q' + 1 : Nat) : Int) = (q' : Int) + 1 := by omega
      have he' : q' * y1 + (r + y1) = n := by rw [Nat.succ_mul] at he; omega
      have hQ' := Nat.le_of_succ_le_succ hg
      rw [hqi] at hPi ⊢
      have hbrk : 4294967296 ≤ r + y1 → q' = Q1 := fun h => by
        rw [← HQ1.out, HEY.out]
        exact hd_brk he' h (by omega) hy0b hQ' (by omega)
      have HGO := Lib.hid hgo
      have HHE := Lib.hid he'
      have HQQ := Lib.hid hQ'
      have HBR := Lib.hid hbrk
      clear he he' hQ hQ' hg hP hgo hbrk hqi
      by_cases hbr : 4294967296 ≤ r + y1
      · have t3 : (4294967296 : Int) ≤ (r : Int) + y1 := by omega
        obtain rfl := HBR.out hbr
        by_cases hB : 4294967296 ≤ q' + 1
        · have t1 : (4294967296 : Int) ≤ (q' : Int) + 1 := by omega
          have hW1 := HW1.out
          have f1 := HF1.out
          have f2 := HF2.out
          have f3 := HF3.out
          go_wp2_with fail
          clear hW1 f1 f2 f3
          go_loop [18, 16] (fun qv rv => HdRel 4294967296 N2 d0 y1 y0 qv rv) (fun qv _ => natOf qv)
          case atStart => exact ⟨q2, r2, rfl, rfl, HIN2.out.eq, HIN2.out.rlt, HIN2.out.qle, HIN2.out.Qle⟩
          case round =>
            obtain ⟨qb, rb, rfl, rfl, hbe, hbr0, hbqB, hbQ⟩ := hrel
            obtain ⟨Pb, hPb0⟩ : ∃ Pb, qb * y0 = Pb := ⟨_, rfl⟩
            have hbPi : (qb : Int) * (y0 : Int) = (Pb : Int) := by rw [← hPb0]; exact (Int.natCast_mul _ _).symm
            have hbPb : Pb ≤ 4294967297 * 4294967295 := by rw [← hPb0]; exact Nat.mul_le_mul hbqB (by omega)
            by_cases hbgo : 4294967296 ≤ qb ∨ rb * 4294967296 + d0 < Pb
            · have hbg := hd_go (B := 4294967296) (d := d0) (y0 := y0) hbe (by rw [hPb0]; exact hbgo) HNB3.out hd0b hbQ
              have hbq1 : 1 ≤ qb := Nat.le_trans (Nat.le_add_left 1 _) hbg
              obtain ⟨qc, rfl⟩ : ∃ qc, qb = qc + 1 := ⟨qb - 1, by omega⟩
              have hbqi : ((qc + 1 : Nat) : Int) = (qc : Int) + 1 := by omega
              have hbe' : qc * y1 + (rb + y1) = N2 := by rw [Nat.succ_mul] at hbe; omega
              have hbQ' := Nat.le_of_succ_le_succ hbg
              rw [hbqi] at hbPi ⊢
              have hbbrk : 4294967296 ≤ rb + y1 → qc = Q2 := fun h => by
                rw [← HQ2.out, HEY.out]
                exact hd_brk hbe' h (by omega) hy0b hbQ' (by omega)
              have HGOb := Lib.hid hbgo
              have HHEb := Lib.hid hbe'
              have HQQb := Lib.hid hbQ'
              have HBRb := Lib.hid hbbrk
              clear hbe hbe' hbQ hbQ' hbg hPb0 hbgo hbbrk hbqi
              by_cases hbbr : 4294967296 ≤ rb + y1
              · have t3b : (4294967296 : Int) ≤ (rb : Int) + y1 := by omega
                obtain rfl := HBRb.out hbbr
                have hW2 := HW2.out
                by_cases hbB : 4294967296 ≤ qc + 1
                · have t1b : (4294967296 : Int) ≤ (qc : Int) + 1 := by omega
                  go_wp2_with fail
                  go_ret2
                  exact two_u64 (by omega) (by first | rfl | simp [hW2]) (Drawn.refl _)
                · have t1b : ¬ (4294967296 : Int) ≤ (qc : Int) + 1 := by omega
                  have t2b : 4294967296 * (rb : Int) + d0 < Pb := by have := HGOb.out; omega
                  go_wp2_with fail
                  go_ret2
                  exact two_u64 (by omega) (by first | rfl | simp [hW2]) (Drawn.refl _)
              · have t3b : ¬ (4294967296 : Int) ≤ (rb : Int) + y1 := by omega
                by_cases hbB : 4294967296 ≤ qc + 1
                · have t1b : (4294967296 : Int) ≤ (qc : Int) + 1 := by omega
                  go_wp2_with fail
                  exact ⟨⟨qc, rb + y1, rfl, by go_num, HHEb.out, by omega, by omega, HQQb.out⟩, by simp [natOf]⟩
                · have t1b : ¬ (4294967296 : Int) ≤ (qc : Int) + 1 := by omega
                  have t2b : 4294967296 * (rb : Int) + d0 < Pb := by have := HGOb.out; omega
                  go_wp2_with fail
                  exact ⟨⟨qc, rb + y1, rfl, by go_num, HHEb.out, by omega, by omega, HQQb.out⟩, by simp [natOf]⟩
            · have hbst : qb = Q2 := by
                rw [← HQ2.out, HEY.out]
                exact hd_stop hbe (by rw [hPb0]; omega) (by omega) hbQ
              subst hbst
              have t1b : ¬ (4294967296 : Int) ≤ (qb : Int) := by omega
              have t2b : ¬ 4294967296 * (rb : Int) + d0 < Pb := by omega
              have hW2 := HW2.out
              clear hbe hbQ hPb0 hbgo
              go_wp2_with fail
              go_ret2
              exact two_u64 (by omega) (by first | rfl | simp [hW2]) (Drawn.refl _)
        · have t1 : ¬ (4294967296 : Int) ≤ (q' : Int) + 1 := by omega
          have t2 : 4294967296 * (r : Int) + d1 < P := by have := HGO.out; omega
          have hW1 := HW1.out
          have f1 := HF1.out
          have f2 := HF2.out
          have f3 := HF3.out
          go_wp2_with fail
          clear hW1 f1 f2 f3
          go_loop [18, 16] (fun qv rv => HdRel 4294967296 N2 d0 y1 y0 qv rv) (fun qv _ => natOf qv)
          case atStart => exact ⟨q2, r2, rfl, rfl, HIN2.out.eq, HIN2.out.rlt, HIN2.out.qle, HIN2.out.Qle⟩
          case round =>
            obtain ⟨qb, rb, rfl, rfl, hbe, hbr0, hbqB, hbQ⟩ := hrel
            obtain ⟨Pb, hPb0⟩ : ∃ Pb, qb * y0 = Pb := ⟨_, rfl⟩
            have hbPi : (qb : Int) * (y0 : Int) = (Pb : Int) := by rw [← hPb0]; exact (Int.natCast_mul _ _).symm
            have hbPb : Pb ≤ 4294967297 * 4294967295 := by rw [← hPb0]; exact Nat.mul_le_mul hbqB (by omega)
            by_cases hbgo : 4294967296 ≤ qb ∨ rb * 4294967296 + d0 < Pb
            · have hbg := hd_go (B := 4294967296) (d := d0) (y0 := y0) hbe (by rw [hPb0]; exact hbgo) HNB3.out hd0b hbQ
              have hbq1 : 1 ≤ qb := Nat.le_trans (Nat.le_add_left 1 _) hbg
              obtain ⟨qc, rfl⟩ : ∃ qc, qb = qc + 1 := ⟨qb - 1, by omega⟩
              have hbqi : ((qc + 1 : Nat) : Int) = (qc : Int) + 1 := by omega
              have hbe' : qc * y1 + (rb + y1) = N2 := by rw [Nat.succ_mul] at hbe; omega
              have hbQ' := Nat.le_of_succ_le_succ hbg
              rw [hbqi] at hbPi ⊢
              have hbbrk : 4294967296 ≤ rb + y1 → qc = Q2 := fun h => by
                rw [← HQ2.out, HEY.out]
                exact hd_brk hbe' h (by omega) hy0b hbQ' (by omega)
              have HGOb := Lib.hid hbgo
              have HHEb := Lib.hid hbe'
              have HQQb := Lib.hid hbQ'
              have HBRb := Lib.hid hbbrk
              clear hbe hbe' hbQ hbQ' hbg hPb0 hbgo hbbrk hbqi
              by_cases hbbr : 4294967296 ≤ rb + y1
              · have t3b : (4294967296 : Int) ≤ (rb : Int) + y1 := by omega
                obtain rfl := HBRb.out hbbr
                have hW2 := HW2.out
                by_cases hbB : 4294967296 ≤ qc + 1
                · have t1b : (4294967296 : Int) ≤ (qc : Int) + 1 := by omega
                  go_wp2_with fail
                  go_ret2
                  exact two_u64 (by omega) (by first | rfl | simp [hW2]) (Drawn.refl _)
                · have t1b : ¬ (4294967296 : Int) ≤ (qc : Int) + 1 := by omega
                  have t2b : 4294967296 * (rb : Int) + d0 < Pb := by have := HGOb.out; omega
                  go_wp2_with fail
                  go_ret2
                  exact two_u64 (by omega) (by first | rfl | simp [hW2]) (Drawn.refl _)
              · have t3b : ¬ (4294967296 : Int) ≤ (rb : Int) + y1 := by omega
                by_cases hbB : 4294967296 ≤ qc + 1
                · have t1b : (4294967296 : Int) ≤ (qc : Int) + 1 := by omega
                  go_wp2_with fail
                  exact ⟨⟨qc, rb + y1, rfl, by go_num, HHEb.out, by omega, by omega, HQQb.out⟩, by simp [natOf]⟩
                · have t1b : ¬ (4294967296 : Int) ≤ (qc : Int) + 1 := by omega
                  have t2b : 4294967296 * (rb : Int) + d0 < Pb := by have := HGOb.out; omega
                  go_wp2_with fail
                  exact ⟨⟨qc, rb + y1, rfl, by go_num, HHEb.out, by omega, by omega, HQQb.out⟩, by simp [natOf]⟩
            · have hbst : qb = Q2 := by
                rw [← HQ2.out, HEY.out]
                exact hd_stop hbe (by rw [hPb0]; omega) (by omega) hbQ
              subst hbst
              have t1b : ¬ (4294967296 : Int) ≤ (qb : Int) := by omega
              have t2b : ¬ 4294967296 * (rb : Int) + d0 < Pb := by omega
              have hW2 := HW2.out
              clear hbe hbQ hPb0 hbgo
              go_wp2_with fail
              go_ret2
              exact two_u64 (by omega) (by first | rfl | simp [hW2]) (Drawn.refl _)
      · have t3 : ¬ (4294967296 : Int) ≤ (r : Int) + y1 := by omega
        by_cases hB : 4294967296 ≤ q' + 1
        · have t1 : (4294967296 : Int) ≤ (q' : Int) + 1 := by omega
          go_wp2_with fail
          exact ⟨⟨q', r + y1, rfl, by go_num, HHE.out, by omega, by omega, HQQ.out⟩, by simp [natOf]⟩
        · have t1 : ¬ (4294967296 : Int) ≤ (q' : Int) + 1 := by omega
          have t2 : 4294967296 * (r : Int) + d1 < P := by have := HGO.out; omega
          go_wp2_with fail
          exact ⟨⟨q', r + y1, rfl, by go_num, HHE.out, by omega, by omega, HQQ.out⟩, by simp [natOf]⟩
    · have hst : q = Q1 := by
        rw [← HQ1.out, HEY.out]
        exact hd_stop he (by rw [hP]; omega) (by omega) hQ
      subst hst
      have t1 : ¬ (4294967296 : Int) ≤ (q : Int) := by omega
      have t2 : ¬ 4294967296 * (r : Int) + d1 < P := by omega
      clear he hQ hP hgo
      have hW1 := HW1.out
      have f1 := HF1.out
      have f2 := HF2.out
      have f3 := HF3.out
      go_wp2_with fail
      clear hW1 f1 f2 f3
      go_loop [18, 16] (fun qv rv => HdRel 4294967296 N2 d0 y1 y0 qv rv) (fun qv _ => natOf qv)
      case atStart => exact ⟨q2, r2, rfl, rfl, HIN2.out.eq, HIN2.out.rlt, HIN2.out.qle, HIN2.out.Qle⟩
      case round =>
        obtain ⟨qb, rb, rfl, rfl, hbe, hbr0, hbqB, hbQ⟩ := hrel
        obtain ⟨Pb, hPb0⟩ : ∃ Pb, qb * y0 = Pb := ⟨_, rfl⟩
        have hbPi : (qb : Int) * (y0 : Int) = (Pb : Int) := by rw [← hPb0]; exact (Int.natCast_mul _ _).symm
        have hbPb : Pb ≤ 4294967297 * 4294967295 := by rw [← hPb0]; exact Nat.mul_le_mul hbqB (by omega)
        by_cases hbgo : 4294967296 ≤ qb ∨ rb * 4294967296 + d0 < Pb
        · have hbg := hd_go (B := 4294967296) (d := d0) (y0 := y0) hbe (by rw [hPb0]; exact hbgo) HNB3.out hd0b hbQ
          have hbq1 : 1 ≤ qb := Nat.le_trans (Nat.le_add_left 1 _) hbg
          obtain ⟨qc, rfl⟩ : ∃ qc, qb = qc + 1 := ⟨qb - 1, by omega⟩
          have hbqi : ((qc + 1 : Nat) : Int) = (qc : Int) + 1 := by omega
          have hbe' : qc * y1 + (rb + y1) = N2 := by rw [Nat.succ_mul] at hbe; omega
          have hbQ' := Nat.le_of_succ_le_succ hbg
          rw [hbqi] at hbPi ⊢
          have hbbrk : 4294967296 ≤ rb + y1 → qc = Q2 := fun h => by
            rw [← HQ2.out, HEY.out]
            exact hd_brk hbe' h (by omega) hy0b hbQ' (by omega)
          have HGOb := Lib.hid hbgo
          have HHEb := Lib.hid hbe'
          have HQQb := Lib.hid hbQ'
          have HBRb := Lib.hid hbbrk
          clear hbe hbe' hbQ hbQ' hbg hPb0 hbgo hbbrk hbqi
          by_cases hbbr : 4294967296 ≤ rb + y1
          · have t3b : (4294967296 : Int) ≤ (rb : Int) + y1 := by omega
            obtain rfl := HBRb.out hbbr
            have hW2 := HW2.out
            by_cases hbB : 4294967296 ≤ qc + 1
            · have t1b : (4294967296 : Int) ≤ (qc : Int) + 1 := by omega
              go_wp2_with fail
              go_ret2
              exact two_u64 (by omega) (by first | rfl | simp [hW2]) (Drawn.refl _)
            · have t1b : ¬ (4294967296 : Int) ≤ (qc : Int) + 1 := by omega
              have t2b : 4294967296 * (rb : Int) + d0 < Pb := by have := HGOb.out; omega
              go_wp2_with fail
              go_ret2
              exact two_u64 (by omega) (by first | rfl | simp [hW2]) (Drawn.refl _)
          · have t3b : ¬ (4294967296 : Int) ≤ (rb : Int) + y1 := by omega
            by_cases hbB : 4294967296 ≤ qc + 1
            · have t1b : (4294967296 : Int) ≤ (qc : Int) + 1 := by omega
              go_wp2_with fail
              exact ⟨⟨qc, rb + y1, rfl, by go_num, HHEb.out, by omega, by omega, HQQb.out⟩, by simp [natOf]⟩
            · have t1b : ¬ (4294967296 : Int) ≤ (qc : Int) + 1 := by omega
              have t2b : 4294967296 * (rb : Int) + d0 < Pb := by have := HGOb.out; omega
              go_wp2_with fail
              exact ⟨⟨qc, rb + y1, rfl, by go_num, HHEb.out, by omega, by omega, HQQb.out⟩, by simp [natOf]⟩
        · have hbst : qb = Q2 := by
            rw [← HQ2.out, HEY.out]
            exact hd_stop hbe (by rw [hPb0]; omega) (by omega) hbQ
          subst hbst
          have t1b : ¬ (4294967296 : Int) ≤ (qb : Int) := by omega
          have t2b : ¬ 4294967296 * (rb : Int) + d0 < Pb := by omega
          have hW2 := HW2.out
          clear hbe hbQ hPb0 hbgo
          go_wp2_with fail
          go_ret2
          exact two_u64 (by omega) (by first | rfl | simp [hW2]) (Drawn.refl _)
end Go.Proofs.YtapfolgiafnllaaGreatDoor

/-
  math/big's nlz, reciprocalWord, divWW by any word.
-/
namespace Go.Proofs.YtapfolgiafnllaaGreatDoor
open Go.RowKit

/-- The leading noughts of a word. -/
def lz (y : Nat) : Nat := 64 - natLen y
/-- A word without its leading noughts. -/
def nrm (y : Nat) : Nat := y * 2 ^ lz y
/-- The reciprocal of a word. -/
def recip (y : Nat) : Nat := ((18446744073709551615 - nrm y) * 18446744073709551616 + 18446744073709551615) / nrm y
theorem lz_norm {y : Nat} (h0 : y ≠ 0) (hy : y < 18446744073709551616) : 9223372036854775808 ≤ nrm y ∧ nrm y < 18446744073709551616 ∧ lz y < 64 := by
  obtain ⟨h1, h2, h3⟩ := natLen_bounds h0
  have h4 := (natLen_lt_iff y 64).2 hy
  unfold nrm lz
  obtain ⟨L, hL⟩ : ∃ L, natLen y = L + 1 := ⟨natLen y - 1, by omega⟩
  rw [hL] at h1 h2 h4 ⊢
  have e1 : 2 ^ (L + 1 - 1) * 2 ^ (64 - (L + 1)) ≤ y * 2 ^ (64 - (L + 1)) := Nat.mul_le_mul_right _ h1
  have e2 : y * 2 ^ (64 - (L + 1)) < 2 ^ (L + 1) * 2 ^ (64 - (L + 1)) := Nat.mul_lt_mul_of_pos_right h2 (Nat.two_pow_pos _)
  rw [← Nat.pow_add, show L + 1 - 1 + (64 - (L + 1)) = 63 by omega] at e1
  rw [← Nat.pow_add, show L + 1 + (64 - (L + 1)) = 64 by omega] at e2
  exact ⟨e1, e2, by omega⟩
theorem recip_spec {u : Nat} (h1 : 9223372036854775808 ≤ u) (h2 : u < 18446744073709551616) :
    (((18446744073709551615 - u) * 18446744073709551616 + 18446744073709551615) / u + 18446744073709551616) * u < 18446744073709551616 * 18446744073709551616 ∧
    18446744073709551616 * 18446744073709551616 ≤ (((18446744073709551615 - u) * 18446744073709551616 + 18446744073709551615) / u + 18446744073709551616) * u + u ∧
    ((18446744073709551615 - u) * 18446744073709551616 + 18446744073709551615) / u < 18446744073709551616 := by
  have h3 := Nat.div_add_mod ((18446744073709551615 - u) * 18446744073709551616 + 18446744073709551615) u
  have h4 := Nat.mod_lt ((18446744073709551615 - u) * 18446744073709551616 + 18446744073709551615) (show u > 0 by omega)
  have h5 : ((18446744073709551615 - u) * 18446744073709551616 + 18446744073709551615) / u < 18446744073709551616 := by
    rw [Nat.div_lt_iff_lt_mul (by omega)]
    omega
  obtain ⟨m, hm⟩ : ∃ m, ((18446744073709551615 - u) * 18446744073709551616 + 18446744073709551615) / u = m := ⟨_, rfl⟩
  rw [hm] at h3 h5 ⊢
  rw [Nat.add_mul, Nat.mul_comm m u]
  generalize u * m = P at *
  exact ⟨by omega, by omega, h5⟩
theorem not_u64 (u : Nat) (hu : u < 18446744073709551616) : bits BinOp.xor IntKind.u64 IntKind.u64.max (u : Int) = ((18446744073709551615 - u : Nat) : Int) := by
  have h1 : (IntKind.u64.max : Int) = ((18446744073709551615 : Nat) : Int) := by decide
  rw [h1, bits_xor_u64_nat _ _ (by decide) hu]
  have h2 : 18446744073709551615 ^^^ u = 18446744073709551615 - u := by
    have h3 := congrArg BitVec.toNat (BitVec.allOnes_xor (x := BitVec.ofNat 64 u))
    rw [BitVec.toNat_xor, BitVec.toNat_allOnes, BitVec.toNat_ofNat, Nat.mod_eq_of_lt hu, BitVec.toNat_not, BitVec.toNat_ofNat, Nat.mod_eq_of_lt hu] at h3
    exact h3
  rw [h2]

set_option maxRecDepth 100000 in
set_option maxHeartbeats 1000000 in
theorem nlz_walk (y : Nat) (w : World) (hy : y < 18446744073709551616) :
    Calls Tryz.prog 160 #[.int .u64 y] w fun e w' => e = .returned (.int .u64 ((lz y : Nat) : Int)) ∧ w = w' := by
  have hZ := Tryz.bits_LeadingZeros (y : Int)
  have hb : (64 : Int) - (Lib.bitLen (Int.toNat (y : Int)) : Int) = ((lz y : Nat) : Int) := by
    rw [Int.toNat_natCast, bitLen_natLen hy]
    have := (natLen_lt_iff y 64).2 hy
    unfold lz
    omega
  have hl : lz y ≤ 64 := by unfold lz; omega
  obtain ⟨t, ht⟩ : ∃ t, lz y = t := ⟨_, rfl⟩
  rw [ht] at hb hl ⊢
  have HB := Lib.hid hb
  clear hb ht
  have h0 : (0 : Int) ≤ t := by omega
  have h1 : (t : Int) ≤ 64 := by omega
  go_enter Tryz.func160, Tryz.ntmps160
  go_wp2_with fail
  refine (hZ w (by omega) (by omega)).mono ?_
  rintro e w1 ⟨rfl, rfl⟩
  rw [HB.out]
  go_wp2_with fail
  go_ret
  exact ⟨rfl, rfl⟩

set_option maxRecDepth 100000 in
set_option maxHeartbeats 2000000 in
/-- bitsDiv by a divisor whose top bit is set. -/
theorem bitsDiv_walk (n lo y : Nat) (w : World) (hn : n < y) (hlo : lo < 18446744073709551616) (hy : y < 18446744073709551616) (hy2 : 9223372036854775808 ≤ y) :
    Calls Tryz.prog 231 #[.int .u64 n, .int .u64 lo, .int .u64 y] w fun e w' => e = .returned (.tuple #[.int .u64 (((n * 18446744073709551616 + lo) / y : Nat) : Int), .int .u64 (((n * 18446744073709551616 + lo) % y : Nat) : Int)]) ∧ Drawn w w' := by
  by_cases hn0 : n = 0
  · subst hn0
    rw [Nat.zero_mul, Nat.zero_add]
    exact bitsDiv0_walk lo y w hlo hy (by omega)
  · have hD := bitsDiv64_walk n lo y w hn hn0 hlo hy hy2
    have hql : (n * 18446744073709551616 + lo) / y < 18446744073709551616 := hd_lt hn hlo
    have hrl := Nat.mod_lt (n * 18446744073709551616 + lo) (show y > 0 by omega)
    obtain ⟨q, hq⟩ : ∃ q, (n * 18446744073709551616 + lo) / y = q := ⟨_, rfl⟩
    obtain ⟨r, hr⟩ : ∃ r, (n * 18446744073709551616 + lo) % y = r := ⟨_, rfl⟩
    rw [hq, hr] at hD
    rw [hq] at hql
    rw [hr] at hrl
    have hq2 : q ≤ 18446744073709551615 := by omega
    have hr2 : r ≤ 18446744073709551615 := by omega
    have HD := Lib.hid hD
    rw [hq, hr]
    clear hD hq hr hql hrl
    go_enter Tryz.func231, Tryz.ntmps231
    go_wp2_with fail
    refine HD.out.mono ?_
    rintro e w1 ⟨rfl, hdr⟩
    go_wp2_with fail
    go_ret2
    exact ⟨rfl, hdr⟩

set_option maxRecDepth 100000 in
set_option maxHeartbeats 2000000 in
theorem reciprocal_walk (y : Nat) (w : World) (hy : y < 18446744073709551616) (h0 : y ≠ 0) :
    Calls Tryz.prog 232 #[.int .u64 y] w fun e w' => e = .returned (.int .u64 ((recip y : Nat) : Int)) ∧ Drawn w w' := by
  obtain ⟨n1, n2, n3⟩ := lz_norm h0 hy
  have HN := Lib.hid (nlz_walk y w hy)
  have hb := not_u64 (nrm y) n2
  obtain ⟨_, _, hm3⟩ := recip_spec n1 n2
  have hD := bitsDiv_walk (18446744073709551615 - nrm y) 18446744073709551615 (nrm y) w (by omega) (by decide) n2 n1
  have hrl := Nat.mod_lt ((18446744073709551615 - nrm y) * 18446744073709551616 + 18446744073709551615) (show nrm y > 0 by omega)
  unfold recip
  obtain ⟨q, hq⟩ : ∃ q, ((18446744073709551615 - nrm y) * 18446744073709551616 + 18446744073709551615) / nrm y = q := ⟨_, rfl⟩
  obtain ⟨r, hr⟩ : ∃ r, ((18446744073709551615 - nrm y) * 18446744073709551616 + 18446744073709551615) % nrm y = r := ⟨_, rfl⟩
  rw [hq, hr] at hD
  rw [hq] at hm3 ⊢
  rw [hr] at hrl
  have hsh : IntKind.u64.wrap ((y : Int) * 2 ^ lz y) = ((nrm y : Nat) : Int) := by
    have e : (y : Int) * 2 ^ lz y = ((nrm y : Nat) : Int) := by unfold nrm; rw [Int.natCast_mul, Int.natCast_pow]; rfl
    rw [e, IntKind.wrap_u64]
    omega
  obtain ⟨s, hs⟩ : ∃ s, lz y = s := ⟨_, rfl⟩
  obtain ⟨u, hu⟩ : ∃ u, nrm y = u := ⟨_, rfl⟩
  obtain ⟨v, hv⟩ : ∃ v, 18446744073709551615 - u = v := ⟨_, rfl⟩
  rw [hs] at HN hsh n3
  rw [hu] at hsh hb hD n1 n2 hrl
  rw [hv] at hb hD
  have hsg : IntKind.u64.signed = false := rfl
  have hs1 : (0 : Int) ≤ s := by omega
  have hs2 : (s : Int) ≤ 64 := by omega
  have hs3 : (s : Int) < 64 := by omega
  have hq2 : q ≤ 18446744073709551615 := by omega
  have hr2 : r ≤ 18446744073709551615 := by omega
  have HD := Lib.hid hD
  clear hD hq hr hs hu hv hrl hm3 n1 n2 n3
  go_enter Tryz.func232, Tryz.ntmps232
  go_wp2_with fail
  refine HN.out.mono ?_
  rintro e w1 ⟨rfl, rfl⟩
  go_wp2_with fail
  refine HD.out.mono ?_
  rintro e w1 ⟨rfl, hdr⟩
  go_wp2_with fail
  go_ret
  exact ⟨rfl, hdr⟩

/-- The two words, shifted. -/
theorem sh_words {x1 x0 y s : Nat} (hs : s ≤ 64) (hx1 : x1 < y) (hx0 : x0 < 18446744073709551616) (hn : y * 2 ^ s < 18446744073709551616) :
    ∃ X1 X0, x1 * 2 ^ s + x0 / 2 ^ (64 - s) = X1 ∧ x0 * 2 ^ s % 18446744073709551616 = X0 ∧ X1 * 18446744073709551616 + X0 = (x1 * 18446744073709551616 + x0) * 2 ^ s ∧ X1 < y * 2 ^ s ∧ X0 < 18446744073709551616 ∧ x1 * 2 ^ s < 18446744073709551616 ∧ x0 / 2 ^ (64 - s) < 2 ^ s := by
  have hw := lsh_word hs x0
  have hlo : x0 / 2 ^ (64 - s) < 2 ^ s := by
    rw [Nat.div_lt_iff_lt_mul (Nat.pow_pos (by decide)), pow_split hs]
    exact hx0
  have h1 : (x1 + 1) * 2 ^ s ≤ y * 2 ^ s := Nat.mul_le_mul_right _ hx1
  rw [Nat.succ_mul] at h1
  refine ⟨_, _, rfl, rfl, ?_, by omega, Nat.mod_lt _ (by decide), by omega, hlo⟩
  rw [Nat.add_mul (x1 * 18446744073709551616), hw, Nat.add_mul]
  have e : x1 * 18446744073709551616 * 2 ^ s = x1 * 2 ^ s * 18446744073709551616 := Nat.mul_right_comm _ _ _
  omega
theorem or_sum {a b s : Nat} (ha : a * 2 ^ s < 18446744073709551616) (hb : b < 2 ^ s) (hs : s ≤ 64) : bits BinOp.or IntKind.u64 ((a * 2 ^ s : Nat) : Int) (b : Int) = ((a * 2 ^ s + b : Nat) : Int) := by
  have hs2 : (2 : Nat) ^ s ≤ 18446744073709551616 := Nat.pow_le_pow_right (n := 2) (by decide) hs
  rw [(bits_nat .u64 64 (by decide) (fun n h0 h1 => by rw [IntKind.wrap_u64]; omega) (a * 2 ^ s) b ha (by omega)).2]
  have := Nat.two_pow_add_eq_or_of_lt hb a
  rw [Nat.mul_comm] at this
  rw [this]

set_option maxRecDepth 100000 in
set_option maxHeartbeats 4000000 in
/-- x1 x0 by y, y's top bit not being set, m being y's reciprocal. -/
theorem divWWs_walk (x1 x0 y d m sh : Nat) (w : World) (hx1 : x1 < y) (hx0 : x0 < 18446744073709551616) (hsh1 : 1 ≤ sh) (hsh2 : sh < 64) (hyd : y * 2 ^ sh = d) (hd : d < 18446744073709551616) (hd2 : 9223372036854775808 ≤ d) (hm : m < 18446744073709551616)
    (h1 : (m + 18446744073709551616) * d < 18446744073709551616 * 18446744073709551616) (h2 : 18446744073709551616 * 18446744073709551616 ≤ (m + 18446744073709551616) * d + d)
    (hn : ∀ w, Calls Tryz.prog 160 #[.int .u64 y] w fun e w' => e = .returned (.int .u64 (sh : Int)) ∧ w = w') :
    Calls Tryz.prog 233 #[.int .u64 x1, .int .u64 x0, .int .u64 y, .int .u64 m] w fun e w' =>
      e = .returned (.tuple #[.int .u64 (((x1 * 18446744073709551616 + x0) / y : Nat) : Int), .int .u64 (((x1 * 18446744073709551616 + x0) % y : Nat) : Int)]) ∧ w = w' := by
  have hN := Lib.hid (hn w)
  clear hn
  obtain ⟨X1, X0, hX1, hX0, hXX, hX1d, hX0w, ha1, ha2⟩ := sh_words (Nat.le_of_lt hsh2) hx1 hx0 (by rw [hyd]; exact hd)
  rw [hyd] at hX1d
  have hor := or_sum (a := x1) (b := x0 / 2 ^ (64 - sh)) ha1 ha2 (Nat.le_of_lt hsh2)
  rw [hX1] at hor
  have hT0 : ((x1 * 18446744073709551616 + x0) * 2 ^ sh) / d = (x1 * 18446744073709551616 + x0) / y := by rw [← hyd]; exact Nat.mul_div_mul_right _ _ (Nat.two_pow_pos _)
  have hT1 : ((x1 * 18446744073709551616 + x0) * 2 ^ sh) % d = (x1 * 18446744073709551616 + x0) % y * 2 ^ sh := by rw [← hyd, Nat.mul_mod_mul_right]
  rw [← hXX] at hT0 hT1
  -- what the walk reckons of shifts
  have g1 : IntKind.u64.wrap ((x1 : Int) * 2 ^ sh) = ((x1 * 2 ^ sh : Nat) : Int) := by
    have e : (x1 : Int) * 2 ^ sh = ((x1 * 2 ^ sh : Nat) : Int) := by rw [Int.natCast_mul, Int.natCast_pow]; rfl
    rw [e, IntKind.wrap_u64]
    omega
  obtain ⟨t, ht⟩ : ∃ t, 64 - sh = t := ⟨_, rfl⟩
  rw [ht] at hor hX1 ha2
  have g2 : (x0 : Int) / 2 ^ t = ((x0 / 2 ^ t : Nat) : Int) := by rw [Int.natCast_ediv, Int.natCast_pow]; rfl
  have g3 : IntKind.u64.wrap ((x0 : Int) * 2 ^ sh) = (X0 : Int) := by
    have e : (x0 : Int) * 2 ^ sh = ((x0 * 2 ^ sh : Nat) : Int) := by rw [Int.natCast_mul, Int.natCast_pow]; rfl
    rw [e, IntKind.wrap_u64]
    omega
  have g4 : IntKind.u64.wrap ((y : Int) * 2 ^ sh) = (d : Int) := by
    have e : (y : Int) * 2 ^ sh = ((y * 2 ^ sh : Nat) : Int) := by rw [Int.natCast_mul, Int.natCast_pow]; rfl
    rw [e, hyd, IntKind.wrap_u64]
    omega
  have g5 : (64 : Int) - sh = (t : Int) := by omega
  have hdv : ∀ r : Int, r = ((((x1 * 18446744073709551616 + x0) % y) * 2 ^ sh : Nat) : Int) → r / 2 ^ sh = (((x1 * 18446744073709551616 + x0) % y : Nat) : Int) := by
    intro r hr
    rw [hr]
    have e : ((((x1 * 18446744073709551616 + x0) % y) * 2 ^ sh : Nat) : Int) / 2 ^ sh = ((((x1 * 18446744073709551616 + x0) % y) * 2 ^ sh / 2 ^ sh : Nat) : Int) := by rw [Int.natCast_ediv, Int.natCast_pow]; rfl
    rw [e, Nat.mul_div_cancel _ (Nat.two_pow_pos _)]
  obtain ⟨P1, hP1⟩ : ∃ P1, x1 * 2 ^ sh = P1 := ⟨_, rfl⟩
  obtain ⟨P2, hP2⟩ : ∃ P2, x0 / 2 ^ t = P2 := ⟨_, rfl⟩
  rw [hP1] at hor g1
  rw [hP2] at hor g2
  obtain ⟨QQ, hQQ⟩ : ∃ QQ, (x1 * 18446744073709551616 + x0) / y = QQ := ⟨_, rfl⟩
  obtain ⟨RR, hRR⟩ : ∃ RR, (x1 * 18446744073709551616 + x0) % y = RR := ⟨_, rfl⟩
  rw [hQQ] at hT0
  rw [hRR] at hT1
  simp only [hRR] at hdv
  rw [hQQ, hRR]
  obtain ⟨R2, hR2⟩ : ∃ R2, RR * 2 ^ sh = R2 := ⟨_, rfl⟩
  rw [hR2] at hT1
  simp only [hR2] at hdv
  have HDV := Lib.hid hdv
  have hs0 : (1 : Int) ≤ sh := by omega
  have hs1 : (sh : Int) ≤ 64 := by omega
  have hs2 : (sh : Int) < 64 := by omega
  have ht0 : (0 : Int) ≤ t := by omega
  have ht1 : (t : Int) ≤ 64 := by omega
  have hsb : ((sh : Int) == 0) = false := beq_eq_false_iff_ne.2 (by omega)
  clear hX1 hX0 hXX ha1 ha2 ht hP1 hP2 hQQ hRR hR2 hyd hdv
  obtain ⟨H, L, s, c, q, c2, D1, D0, r0, b, r1, b2, hS⟩ := div_steps hX1d hX0w hd hm h1 h2
  obtain ⟨lH, lL, lc, lq, lD1, lD0, lr0, lb, lr1, lb2⟩ := hS.lt
  have hM1 := bitsMul_walk m X1 w hm (by omega)
  have hA1 := bitsAdd_walk L X0 0 w lL hX0w (by decide)
  have hA2 := bitsAdd_walk H X1 c w lH (by omega) lc
  have hM2 := bitsMul_walk d q w hd lq
  have hS1 := bitsSub_walk X0 D0 0 w hX0w lD0 (by decide)
  have hS2 := bitsSub_walk X1 D1 b w (by omega) lD1 lb
  rw [hS.eH, hS.eL] at hM1
  rw [hS.es, hS.ec] at hA1
  rw [hS.eq, hS.ec2] at hA2
  rw [hS.eD1, hS.eD0] at hM2
  rw [hS.er0, hS.eb] at hS1
  rw [hS.er1, hS.eb2] at hS2
  have HM1 := Lib.hid hM1
  have HA1 := Lib.hid hA1
  have HA2 := Lib.hid hA2
  have HM2 := Lib.hid hM2
  have HS1 := Lib.hid hS1
  have HS2 := Lib.hid hS2
  have hsum := hS.sum
  have hlow := hS.low
  obtain ⟨N, hNN⟩ : ∃ N, X1 * 18446744073709551616 + X0 = N := ⟨_, rfl⟩
  rw [hNN] at hsum hlow hT0 hT1
  have huniq : ∀ k r, r < d → r + d * k = N → N / d = k ∧ N % d = r := fun k r hr he => (Nat.div_mod_unique (by omega)).2 ⟨by omega, hr⟩
  have hQW : N / d < 18446744073709551616 := by
    refine Nat.div_lt_of_lt_mul ?_
    have := Nat.mul_le_mul_right 18446744073709551616 (show X1 + 1 ≤ d from hX1d)
    omega
  rw [hT0] at hQW
  rw [hT0, hT1] at huniq
  have HU := Lib.hid huniq
  have HSU := Lib.hid hsum
  have HLO := Lib.hid hlow
  clear hM1 hA1 hA2 hM2 hS1 hS2 hS hsum hlow huniq hT0 hT1 hNN h1 h2 hX1d
  go_enter Tryz.func233, Tryz.ntmps233
  go_wp2_with fail
  refine hN.out.mono ?_
  rintro e w1 ⟨rfl, rfl⟩
  go_wp2_with fail
  refine HM1.out.mono ?_
  rintro e w1 ⟨rfl, rfl⟩
  go_wp2_with fail
  refine HA1.out.mono ?_
  rintro e w1 ⟨rfl, rfl⟩
  go_wp2_with fail
  refine HA2.out.mono ?_
  rintro e w1 ⟨rfl, rfl⟩
  go_wp2_with fail
  refine HM2.out.mono ?_
  rintro e w1 ⟨rfl, rfl⟩
  go_wp2_with fail
  refine HS1.out.mono ?_
  rintro e w1 ⟨rfl, rfl⟩
  go_wp2_with fail
  refine HS2.out.mono ?_
  rintro e w1 ⟨rfl, rfl⟩
  clear g1 g2 g3 g4 g5 hor
  have hmul1 : d * (q + 1) = d * q + d := by rw [Nat.mul_add, Nat.mul_one]
  have hmul2 : d * (q + 1 + 1) = d * q + d + d := by rw [Nat.mul_add, Nat.mul_one, hmul1]
  have hsu := HSU.out
  have hlo := HLO.out
  obtain ⟨Y, hY⟩ : ∃ Y, d * q = Y := ⟨_, rfl⟩
  rw [hY] at hsu hlo hmul1 hmul2
  by_cases hr1 : r1 = 0
  · subst hr1
    by_cases hr0 : r0 < d
    · obtain ⟨e1, e2⟩ := HU.out q r0 hr0 (by rw [hY]; omega)
      have hc1 : ¬ (d : Int) ≤ r0 := by omega
      have HE1 := Lib.hid e1
      have HE2 := Lib.hid e2
      clear hsu hlo hmul1 hmul2 hY e1 e2
      go_wp2_with fail
      go_ret2
      exact two_u64 (by rw [HE1.out]) (HDV.out _ (by rw [HE2.out])) rfl
    · obtain ⟨e1, e2⟩ := HU.out (q + 1) (r0 - d) (by omega) (by rw [hmul1]; omega)
      have hc1 : (d : Int) ≤ r0 := by omega
      have hq1 : (q : Int) + 1 ≤ 18446744073709551615 := by omega
      have f1 : ((r0 - d : Nat) : Int) = (r0 : Int) - d := by omega
      have HE1 := Lib.hid e1
      have HE2 := Lib.hid e2
      have HF1 := Lib.hid f1
      clear hsu hlo hmul1 hmul2 hY e1 e2 f1
      go_wp2_with fail
      go_ret2
      exact two_u64 (by rw [HE1.out]; rfl) (HDV.out _ (by rw [HE2.out, HF1.out])) rfl
  · obtain rfl : r1 = 1 := by omega
    have hrd : r0 < d := by omega
    obtain ⟨e, he⟩ : ∃ e, r0 + 18446744073709551616 - d = e := ⟨_, rfl⟩
    have hwe : IntKind.u64.wrap ((r0 : Int) - d) = e := by rw [IntKind.wrap_u64]; omega
    have hew : (e : Int) ≤ 18446744073709551615 := by omega
    by_cases hr0 : e < d
    · obtain ⟨e1, e2⟩ := HU.out (q + 1) e hr0 (by rw [hmul1]; omega)
      have hc1 : ¬ (d : Int) ≤ e := by omega
      have hwq : IntKind.u64.wrap ((q : Int) + 1) = (QQ : Int) := by rw [IntKind.wrap_u64]; omega
      have HE2 := Lib.hid e2
      clear hsu hlo hmul1 hmul2 hY he e1 e2 hew lq lr0 hr0 hrd hQW lD0 lD1 lL lH hm hX0w hx0 hd
      go_wp2_with fail
      go_ret2
      exact two_u64 rfl (HDV.out _ (by rw [HE2.out])) rfl
    · obtain ⟨e1, e2⟩ := HU.out (q + 1 + 1) (e - d) (by omega) (by rw [hmul2]; omega)
      have hc1 : (d : Int) ≤ e := by omega
      have hq1 : (q : Int) + 1 ≤ 18446744073709551615 := by omega
      have hq2 : (q : Int) + 1 + 1 ≤ 18446744073709551615 := by omega
      have f1 : ((e - d : Nat) : Int) = (e : Int) - d := by omega
      have HE1 := Lib.hid e1
      have HE2 := Lib.hid e2
      have HF1 := Lib.hid f1
      clear hsu hlo hmul1 hmul2 hY he e1 e2 f1
      go_wp2_with fail
      go_ret2
      exact two_u64 (by rw [HE1.out]; rfl) (HDV.out _ (by rw [HE2.out, HF1.out])) rfl

set_option maxRecDepth 100000 in
/-- x1 x0 by any word. -/
theorem divWWg_walk (x1 x0 y : Nat) (w : World) (hx1 : x1 < y) (hx0 : x0 < 18446744073709551616) (hy : y < 18446744073709551616) :
    Calls Tryz.prog 233 #[.int .u64 x1, .int .u64 x0, .int .u64 y, .int .u64 ((recip y : Nat) : Int)] w fun e w' =>
      e = .returned (.tuple #[.int .u64 (((x1 * 18446744073709551616 + x0) / y : Nat) : Int), .int .u64 (((x1 * 18446744073709551616 + x0) % y : Nat) : Int)]) ∧ w = w' := by
  obtain ⟨n1, n2, n3⟩ := lz_norm (show y ≠ 0 by omega) hy
  obtain ⟨m1, m2, m3⟩ := recip_spec n1 n2
  by_cases hs : lz y = 0
  · have e : nrm y = y := by unfold nrm; rw [hs]; simp
    unfold recip
    rw [e] at n1 m1 m2 m3 ⊢
    exact divWW_walk x1 x0 y _ w hx1 hx0 hy n1 m3 m1 m2 (fun w => (nlz_walk y w hy).mono fun _ _ h => ⟨by rw [h.1, hs]; rfl, h.2⟩)
  · exact divWWs_walk x1 x0 y (nrm y) _ (lz y) w hx1 hx0 (by omega) n3 rfl n2 n1 m3 m1 m2 (fun w => nlz_walk y w hy)
end Go.Proofs.YtapfolgiafnllaaGreatDoor
