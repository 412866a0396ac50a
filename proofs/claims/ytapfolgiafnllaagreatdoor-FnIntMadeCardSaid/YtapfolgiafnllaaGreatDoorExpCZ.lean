/-
  nat.expNN: a power of 10.
-/
import Derived.Test.YtapfolgiafnllaaGreatDoorExpBZ
import Derived.Test.YtapfolgiafnllaaGreatDoorBn23Z
import Derived.Test.YtapfolgiafnllaaGreatDoorItoa4Z
import Derived.Deep.LoopGhost
namespace Go.Proofs.YtapfolgiafnllaaGreatDoor
open Go.RowKit

theorem ten_words {e : Nat} (h : e ≤ 100) : (wds (10 ^ e)).length < 12 := by
  have h1 : 10 ^ e < 18446744073709551616 ^ 11 := Nat.lt_of_le_of_lt (Nat.pow_le_pow_right (by decide) h) (by decide +kernel)
  have := toD_length_le (b := 18446744073709551616) (by decide) 11 _ h1
  exact Nat.lt_of_le_of_lt this (by decide)
theorem ten_words2 {e : Nat} (h : e ≤ 400) : (wds (10 ^ e)).length ≤ 80000 := by
  have h1 : 10 ^ e < 18446744073709551616 ^ 70 := Nat.lt_of_le_of_lt (Nat.pow_le_pow_right (by decide) h) (by decide +kernel)
  have := toD_length_le (b := 18446744073709551616) (by decide) 70 _ h1
  exact Nat.le_trans this (by decide)
theorem ten_pos (e : Nat) : 10 ^ e ≠ 0 := Nat.ne_of_gt (Nat.pow_pos (by decide))
/-- The mask of the top bit. -/
theorem top_bit {v : Nat} (hv : v < 18446744073709551616) : (bits BinOp.and IntKind.u64 (v : Int) 9223372036854775808 == 0) = decide (v < 9223372036854775808) := by
  have h := bits_and_u64_nat v 9223372036854775808 hv (by decide)
  have h2 : ((9223372036854775808 : Nat) : Int) = 9223372036854775808 := rfl
  rw [h2] at h
  rw [h]
  have ht : Nat.testBit 9223372036854775808 63 = true := by decide
  have hu : ∀ i, i ≠ 63 → Nat.testBit 9223372036854775808 i = false := fun i hi => by
    have := Nat.testBit_two_pow_of_ne (n := 63) (m := i) (by omega)
    exact this
  by_cases hh : v < 9223372036854775808
  · have h4 : v &&& 9223372036854775808 = 0 := by
      apply Nat.eq_of_testBit_eq
      intro i
      rw [Nat.testBit_and, Nat.zero_testBit]
      by_cases hi : i = 63
      · subst hi
        rw [Nat.testBit_lt_two_pow hh, Bool.false_and]
      · rw [hu i hi, Bool.and_false]
    rw [h4, decide_eq_true hh]
    rfl
  · have h5 : v.testBit 63 = true := by
      rw [Nat.testBit_eq_decide_div_mod_eq]
      have h6 : v / 9223372036854775808 = 1 := by omega
      exact decide_eq_true (by show v / 9223372036854775808 % 2 = 1; rw [h6])
    have h4 : v &&& 9223372036854775808 ≠ 0 := by
      intro h6
      have h7 := congrArg (fun n => Nat.testBit n 63) h6
      simp only [Nat.testBit_and, Nat.zero_testBit] at h7
      rw [h5, ht] at h7
      cases h7
    rw [decide_eq_false hh]
    exact beq_eq_false_iff_ne.2 (by omega)
/-- One step of the exponent's bits. -/
theorem exp_step {e f q d v : Nat} (hd : e * 2 ^ (q + 1) + f = d) (hf : f < 2 ^ (q + 1)) (hq : q + 1 ≤ 64) (hv : v = f * 2 ^ (64 - (q + 1))) :
    v < 18446744073709551616 ∧ (v < 9223372036854775808 → 2 * e * 2 ^ q + f = d ∧ f < 2 ^ q ∧ v * 2 % 18446744073709551616 = f * 2 ^ (64 - q)) ∧
    (¬ v < 9223372036854775808 → (2 * e + 1) * 2 ^ q + (f - 2 ^ q) = d ∧ f - 2 ^ q < 2 ^ q ∧ v * 2 % 18446744073709551616 = (f - 2 ^ q) * 2 ^ (64 - q)) := by
  obtain ⟨Q, hQ⟩ : ∃ Q, 2 ^ q = Q := ⟨_, rfl⟩
  obtain ⟨T, hT⟩ : ∃ T, 2 ^ (64 - (q + 1)) = T := ⟨_, rfl⟩
  have e1 : 2 ^ (q + 1) = 2 * Q := by rw [← hQ, Nat.pow_succ, Nat.mul_comm]
  have e2 : 2 ^ (64 - q) = 2 * T := by rw [← hT, show 64 - q = (64 - (q + 1)) + 1 by omega, Nat.pow_succ, Nat.mul_comm]
  have e3 : Q * T = 9223372036854775808 := by rw [← hQ, ← hT, ← Nat.pow_add, show q + (64 - (q + 1)) = 63 by omega]
  have hTp : 0 < T := by rw [← hT]; exact Nat.pow_pos (by decide)
  rw [e1] at hd hf
  rw [hT] at hv
  rw [hQ, e2]
  have e4 : e * (2 * Q) = 2 * e * Q := by rw [Nat.mul_comm 2 e, Nat.mul_assoc]
  have e5 : (2 * e + 1) * Q = 2 * e * Q + Q := by rw [Nat.add_mul, Nat.one_mul]
  have e6 : 2 * Q * T = 18446744073709551616 := by rw [Nat.mul_assoc, e3]
  have h1 : f * T < 2 * Q * T := Nat.mul_lt_mul_of_pos_right hf hTp
  refine ⟨by omega, ?_, ?_⟩
  · intro hlt
    have h2 : f < Q := by
      rcases Nat.lt_or_ge f Q with h | h
      · exact h
      · have := Nat.mul_le_mul_right T h
        omega
    refine ⟨by omega, h2, ?_⟩
    rw [hv, show f * T * 2 = f * (2 * T) by rw [Nat.mul_assoc, Nat.mul_comm T 2], Nat.mod_eq_of_lt]
    have : f * (2 * T) = 2 * (f * T) := by rw [Nat.mul_left_comm]
    omega
  · intro hge
    have h2 : Q ≤ f := by
      rcases Nat.lt_or_ge f Q with h | h
      · have := Nat.mul_lt_mul_of_pos_right h hTp
        omega
      · exact h
    obtain ⟨k, rfl⟩ : ∃ k, f = Q + k := ⟨f - Q, by omega⟩
    have h3 : Q + k - Q = k := by omega
    rw [h3]
    refine ⟨by omega, by omega, ?_⟩
    have h4 : (Q + k) * T = 9223372036854775808 + k * T := by rw [Nat.add_mul, e3]
    have h5 : k * (2 * T) = 2 * (k * T) := by rw [Nat.mul_left_comm]
    have h6 : k * T < Q * T := Nat.mul_lt_mul_of_pos_right (by omega) hTp
    rw [hv, h4, h5]
    omega
/-- The loop: r bits are left. -/
def ExpRel (B : Nat) (ws : World) (d W r : Nat) (zv vv zzv jv : Value) (wr : World) : Prop :=
  ∃ (e f v E : Nat) (A : Option Addr) (c : Nat) (A2 : Option Addr) (c2 M : Nat), zv = .slice A (wds E).length c ∧ vv = .int .u64 (v : Int) ∧ zzv = .slice A2 (wds M).length c2 ∧ jv = .int .i64 ((W - r : Nat) : Int) ∧ r ≤ W ∧ e * 2 ^ r + f = d ∧ f < 2 ^ r ∧ v = f * 2 ^ (64 - r) ∧ 1 ≤ e ∧ E = 10 ^ e ∧ OwnB B wr A c E ∧ OwnB B wr A2 c2 M ∧ (∀ k, blkOf A2 k → ¬ blkOf A k) ∧ Below B ws wr
theorem exp_start {d : Nat} (h2 : 2 ≤ d) (h : d ≤ 200) : ∃ W, lz d + 1 + W = 64 ∧ W ≤ 8 ∧ 1 * 2 ^ W + (d - 2 ^ W) = d ∧ d - 2 ^ W < 2 ^ W ∧ d * 2 ^ (lz d + 1) % 18446744073709551616 = (d - 2 ^ W) * 2 ^ (64 - W) := by
  have h1 := (natLen_lt_iff d 8).2 (by omega)
  have h3 : ¬ natLen d ≤ 1 := fun hh => by have := (natLen_lt_iff d 1).1 hh; omega
  obtain ⟨W, hW⟩ : ∃ W, natLen d = W + 1 := ⟨natLen d - 1, by omega⟩
  have h4 := (natLen_lt_iff d (W + 1)).1 (by omega)
  have h5 : ¬ d < 2 ^ W := fun hh => by have := (natLen_lt_iff d W).2 hh; omega
  have hl : lz d = 63 - W := by unfold lz; omega
  refine ⟨W, by omega, by omega, by omega, by rw [Nat.pow_succ] at h4; omega, ?_⟩
  rw [hl, show 63 - W + 1 = 64 - W by omega]
  obtain ⟨Q, hQ⟩ : ∃ Q, 2 ^ W = Q := ⟨_, rfl⟩
  obtain ⟨T, hT⟩ : ∃ T, 2 ^ (64 - W) = T := ⟨_, rfl⟩
  have e3 : Q * T = 18446744073709551616 := by rw [← hQ, ← hT, ← Nat.pow_add, show W + (64 - W) = 64 by omega]
  rw [Nat.pow_succ] at h4
  rw [hQ] at h4 h5 ⊢
  rw [hT]
  obtain ⟨k, rfl⟩ : ∃ k, d = Q + k := ⟨d - Q, by omega⟩
  have h6 : Q + k - Q = k := by omega
  rw [h6, Nat.add_mul, e3]
  have hTp : 0 < T := by rw [← hT]; exact Nat.pow_pos (by decide)
  have h7 : k * T < Q * T := Nat.mul_lt_mul_of_pos_right (by omega) hTp
  omega

set_option maxRecDepth 100000 in
set_option maxHeartbeats 8000000 in
theorem expNN_walk (d : Nat) (X Y : Option Addr) (cx cy : Nat) (w : World) (hd : d ≤ 200) (hcx : 1 ≤ cx) (hcxm : cx ≤ 9223372036854775807) (hx : Rd w X (nums .u64 [10])) (hcy : (wds d).length ≤ cy) (hcym : cy ≤ 9223372036854775807) (hy : Rd w Y (nums .u64 (wds d))) (hk : SqrIs w) :
    Calls Tryz.prog 132 #[.slice none 0 0, .pointer none, .slice X 1 cx, .slice Y (wds d).length cy, .slice none 0 0, .bool false] w (OwnPost w.heap.size w (10 ^ d)) := by
  have HA1 := Lib.hid (fun (w' : World) => aliasNil_walk X 1 cx w')
  obtain ⟨ly, hly⟩ : ∃ ly, (wds d).length = ly := ⟨_, rfl⟩
  have HA2 := Lib.hid (fun (w' : World) => aliasNil_walk Y ly cy w')
  have h10 : wds 10 = [10] := wds_one (by decide) (by decide)
  obtain ⟨ax, rfl, hax⟩ := rd_cell hx (j := 0) (by simp)
  have e0 : ∀ a : Addr, a.add 0 = a := fun a => by unfold Addr.add; rw [if_pos rfl]
  rw [e0] at hax
  have hax2 : w.cell? ax = some (.int .u64 10) := hax
  have hc1 : (1 : Int) ≤ cx := by omega
  have HD := Lib.hid (fun (n : Nat) => (show (w.drewN n).cell? ax = some (.int .u64 10) from hax2))
  rw [hly] at hcy ⊢
  by_cases h0 : d = 0
  · subst h0
    rw [wds_zero] at hly
    obtain rfl : ly = 0 := hly.symm
    have HS := Lib.hid (fun (w' : World) => setWord_walk w'.heap.size none 0 0 1 w' (.inl ⟨rfl, rfl, rfl⟩) (Nat.le_refl _) (by decide))
    simp only [wds_zero, List.length_nil] at HS
    unfold OwnPost at HS ⊢
    have e1 : (10 : Nat) ^ 0 = 1 := rfl
    rw [e1]
    clear hx hy hk e1 hax hax2 h10
    go_enter_defers Tryz.func132, Tryz.ntmps132
    go_wp2_with fail
    refine (HA1.out _).mono ?_
    rintro e w1 ⟨rfl, n1, rfl⟩
    go_wp2_with fail
    refine (HA2.out _).mono ?_
    rintro e w2 ⟨rfl, n2, rfl⟩
    go_wp2_with fail
    refine (HS.out _).mono ?_
    rintro e w3 ⟨A3, c3, rfl, hown, hb, hs⟩
    have HO := Lib.hid hown
    have HB := Lib.hid hb
    clear hown hb
    go_wp2_with fail
    exact ⟨_, results_tmp rfl _ _ _, A3, c3, rfl, HO.out, (below_drewN (Below.refl _ _) (n1 + n2)).trans HB.out, hs⟩
  · by_cases h1 : d = 1
    · subst h1
      have hw1 : wds 1 = [1] := wds_one (by decide) (by decide)
      rw [hw1] at hly hy
      obtain rfl : ly = 1 := hly.symm
      obtain ⟨ay, rfl, hay⟩ := rd_cell hy (j := 0) (by simp)
      rw [e0] at hay
      have hay2 : ∀ n, (w.drewN n).cell? ay = some (.int .u64 1) := fun _ => hay
      have hax3 : ∀ n, (w.drewN n).cell? ax = some (.int .u64 10) := fun _ => hax
      have hc2 : (1 : Int) ≤ cy := by omega
      have HS := Lib.hid (fun (n : Nat) => setOne_walk 10 (some ax) cx (w.drewN n) hcx hcxm hx h10)
      unfold OwnPost
      have e1 : (10 : Nat) ^ 1 = 10 := rfl
      have H10 := Lib.hid h10
      rw [e1]
      clear hx hy hk e1 hax hax2 h10 hay hw1 hcx
      go_enter_defers Tryz.func132, Tryz.ntmps132
      go_wp2_with fail
      refine (HA1.out _).mono ?_
      rintro e w1 ⟨rfl, n1, rfl⟩
      go_wp2_with fail
      refine (HA2.out _).mono ?_
      rintro e w2 ⟨rfl, n2, rfl⟩
      go_wp2_with fail
      refine (HS.out _).mono ?_
      rintro e w3 ⟨A3, c3, rfl, hown, hb⟩
      have HO := Lib.hid hown
      have HB := Lib.hid hb
      clear hown hb
      go_wp2_with fail
      exact ⟨_, results_tmp rfl _ _ _, A3, c3, by rw [H10.out]; rfl, HO.out.nat, (below_drewN (Below.refl _ _) (n1 + n2)).trans HB.out, HB.out.size⟩
    · have hd2 : 2 ≤ d := by omega
      have hw1 : wds d = [d] := wds_one h0 (by omega)
      rw [hw1] at hly hy
      obtain rfl : ly = 1 := hly.symm
      obtain ⟨ay, rfl, hay⟩ := rd_cell hy (j := 0) (by simp)
      rw [e0] at hay
      have hay2 : w.cell? ay = some (.int .u64 (d : Int)) := hay
      have hy2 : ∀ n, (w.drewN n).cell? ay = some (.int .u64 (d : Int)) := fun _ => hay2
      have hx2 : ∀ n, (w.drewN n).cell? ax = some (.int .u64 10) := fun _ => hax2
      have hc2 : (1 : Int) ≤ cy := by omega
      have hd1 : ((d : Int) == 1) = false := beq_eq_false_iff_ne.2 (by omega)
      have ly0 : ay.block < w.heap.size := World.block_lt_of_cell? w _ hay2
      have lx0 : ax.block < w.heap.size := World.block_lt_of_cell? w _ hax2
      have HS := Lib.hid (fun (w' : World) (hb : Below w.heap.size w w') => setOne_walk 10 (some ax) cx w' hcx hcxm (hx.below hb) h10)
      have HNL := Lib.hid (fun (w' : World) => nlz_walk d w' (by omega))
      obtain ⟨W, q1, q2, q3, q4, q5⟩ := exp_start hd2 hd
      obtain ⟨L, hL⟩ : ∃ L, lz d = L := ⟨_, rfl⟩
      rw [hL] at HNL q1 q5
      have HAX := Lib.hid hax2
      have HAY := Lib.hid hay2
      have HX := Lib.hid hx
      have HK := Lib.hid hk
      have HQ3 := Lib.hid (And.intro q3 q4)
      have HQ5 := Lib.hid q5
      have HHD := Lib.hid hd
      have H10 := Lib.hid h10
      have hl1 : (L : Int) + 1 ≤ 64 := by omega
      have hl2 : (0 : Int) ≤ (L : Int) := by omega
      have hl3 : (64 : Int) - ((L : Int) + 1) = (W : Int) := by omega
      have hd0 : (0 : Int) ≤ (d : Int) := by omega
      obtain ⟨Z, hZ⟩ : ∃ Z, 10 ^ d = Z := ⟨_, rfl⟩
      have HZ := Lib.hid hZ
      rw [hZ]
      clear hx hy hk hax hax2 h10 hay hay2 hw1 hcx hL q3 q4 q5 q1 e0 h0 h1 hd2 hd hZ
      go_enter_defers Tryz.func132, Tryz.ntmps132
      go_wp2_with fail
      refine (HA1.out _).mono ?_
      rintro e w1 ⟨rfl, n1, rfl⟩
      go_wp2_with fail
      refine (HA2.out _).mono ?_
      rintro e w2 ⟨rfl, n2, rfl⟩
      go_wp2_with fail
      refine (getStack_walk _).mono ?_
      rintro e w3 ⟨rfl, rfl⟩
      have hsz0 : (w.drewN (n1 + n2)).heap.size = w.heap.size := rfl
      rw [hsz0]
      have hb3 : Below w.heap.size w ((w.drewN (n1 + n2)).alloc (.cells #[.pointer none] 181)) := (below_drewN (Below.refl _ _) (n1 + n2)).alloc (Nat.le_refl _) _
      have hk3 : ((w.drewN (n1 + n2)).alloc (.cells #[.pointer none] 181)).heap[w.heap.size]? = some (.cells #[.pointer none] 181 (0, 0)) := heap_here (w.drewN (n1 + n2)) _
      have hs3 : ((w.drewN (n1 + n2)).alloc (.cells #[.pointer none] 181)).heap.size = w.heap.size + 1 := heap_size_alloc _ _
      obtain ⟨ws, hws⟩ : ∃ ws, (w.drewN (n1 + n2)).alloc (.cells #[.pointer none] 181) = ws := ⟨_, rfl⟩
      rw [hws] at hb3 hk3 hs3 ⊢
      have HB3 := Lib.hid hb3
      have HK3 := Lib.hid hk3
      have HS3 := Lib.hid hs3
      have hyS : ws.cell? ay = some (.int .u64 (d : Int)) := (HB3.out.cell ly0).trans HAY.out
      clear hsz0 hws hb3 hk3 hs3 hy2 hx2
      go_wp2_with fail
      refine (HS.out ws HB3.out).mono ?_
      rintro e w4 ⟨A4, c4, rfl, hown, hb4⟩
      have hy4 : w4.cell? ay = some (.int .u64 (d : Int)) := ((HB3.out.trans (hb4.mono (by have := HS3.out; omega))).cell ly0).trans HAY.out
      have HO4 := Lib.hid hown
      have HB4 := Lib.hid hb4
      clear hown hb4 hyS
      go_wp2_with fail
      refine (HNL.out _).mono ?_
      rintro e w5 ⟨rfl, h5⟩
      subst h5
      go_wp2_with fail
      have hv0 : IntKind.u64.wrap ((d : Int) * 2 ^ (L + 1)) = (((d - 2 ^ W) * 2 ^ (64 - W) : Nat) : Int) := by
        rw [← HQ5.out, IntKind.wrap_u64]
        simp
      rw [hv0]
      obtain ⟨v0, hv0e⟩ : ∃ v0, (d - 2 ^ W) * 2 ^ (64 - W) = v0 := ⟨_, rfl⟩
      rw [hv0e]
      have HV0 := Lib.hid hv0e
      have HBS : Hid (ws.heap.size = w.heap.size + 1) := HS3
      obtain ⟨B, hB⟩ : ∃ B, ws.heap.size = B := ⟨_, rfl⟩
      rw [hB] at HBS HO4 HB4
      have HSB := Lib.hid hB
      have HG : Hid (3 < B ∧ 4 < B) := Lib.hid (by
        have g5 : 3 < w.heap.size := World.block_lt_of_cell? w _ HK.out.1
        have g6 : 4 < w.heap.size := World.block_lt_of_cell? w _ HK.out.2
        have := HBS.out
        omega)
      clear hv0 hv0e HQ5 hy4 hB
      go_loopg [0, 15, 19, 21] W (fun r zv vv zzv jv wr => ExpRel B ws d W r zv vv zzv jv wr)
      case atStart => exact ⟨1, d - 2 ^ W, v0, 10, A4, c4, none, 0, 0, by rw [H10.out]; rfl, rfl, by rw [wds_zero]; rfl, by rw [Nat.sub_self]; rfl, Nat.le_refl _, HQ3.out.1, HQ3.out.2, HV0.out.symm, Nat.le_refl _, rfl, HO4.out, .inl ⟨rfl, rfl, rfl⟩, fun k h => by (obtain ⟨a, ha, _⟩ := h; cases ha), HB4.out⟩
      case round =>
        obtain ⟨e, f, v, E, A, c, A2, c2, M, rfl, rfl, rfl, rfl, hrW, hdef, hf, hv, he1, hE, hO, hO2, hap, hbr⟩ := hrel
        have HO := Lib.hid hO
        have HO2 := Lib.hid hO2
        have HAP := Lib.hid hap
        have HBR := Lib.hid hbr
        have HE := Lib.hid hE
        have HDEF := Lib.hid (And.intro hdef hf)
        have HVV := Lib.hid hv
        have HRW := Lib.hid hrW
        clear hO hO2 hap hbr hE hdef hf hv HO4 HB4 HV0 HQ3 hrW
        rcases gk with _ | q
        · have hj : W - 0 = W := rfl
          rw [hj]
          have HED : Hid (E = 10 ^ d) := Lib.hid (by
            have h1 := HDEF.out.1
            have h2 := HDEF.out.2
            rw [Nat.pow_zero] at h1 h2
            rw [HE.out, show e = d by omega])
          have hrm := HO.out.nat.room
          have HNM := Lib.hid (norm_walk A c (wds E) wr hrm.1 (by have := hrm.2; omega) HO.out.nat.rd)
          have htr : trimN (wds E) = wds E := trimN_self (by decide) E
          rw [htr] at HNM
          have HSTK : Hid (wr.heap[w.heap.size]? = some (.cells #[.pointer none] 181 (0, 0))) := Lib.hid ((HBR.out.block _ (by have := HBS.out; omega)).trans HK3.out)
          have HFIN : Hid (OwnNat w.heap.size wr A c Z ∧ Below w.heap.size w wr ∧ w.heap.size ≤ wr.heap.size ∧ (wds Z).length = (wds E).length) := Lib.hid (by
            have h1 : E = Z := HED.out.trans HZ.out
            rw [← h1]
            refine ⟨?_, HB3.out.trans (HBR.out.mono (by have := HBS.out; omega)), ?_, rfl⟩
            · rcases HO.out.nat with h | ⟨g, zs, h1, h2, h3, h4, h5, h6⟩
              · exact .inl h
              · exact .inr ⟨g, zs, h1, h2, h3, h4, by have := HBS.out; omega, h6⟩
            · have h2 := HB3.out.size
              have h3 := HBR.out.size
              omega)
          obtain ⟨le, hle⟩ : ∃ le, (wds E).length = le := ⟨_, rfl⟩
          rw [hle] at HNM HFIN ⊢
          clear hj htr hrm hle HED HDEF HE
          go_wp2_with fail
          go_loopw [0, 22] (fun zv iv wx => zv = .slice A le c ∧ iv = .int .i64 (-1) ∧ wx = wr) (fun _ _ _ => 0)
          case atStart => exact ⟨rfl, rfl, rfl⟩
          case round =>
            obtain ⟨rfl, rfl, rfl⟩ := hrel
            go_wp2_with fail
            refine HNM.out.mono ?_
            rintro e9 w9 ⟨rfl, h9⟩
            subst h9
            go_wp2_with fail
            refine leaves_cons (f := 148) (args := #[.pointer (some ⟨w.heap.size, 0, none⟩)]) (by simp) (by simp [go_sem]) ?_
            refine (stackFree_deferred _ .returning _ (one_cell HSTK.out)).mono ?_
            rintro e u' w'' ⟨rfl, rfl, rfl⟩
            exact ⟨_, results_tmp rfl _ _ _, A, c, by rw [HFIN.out.2.2.2]; rfl, HFIN.out.1, HFIN.out.2.1, HFIN.out.2.2.1⟩
        · have hE0 : Hid (E ≠ 0) := Lib.hid (by rw [HE.out]; exact ten_pos e)
          have hq64 : q + 1 ≤ 64 := by have := HRW.out; omega
          obtain ⟨v1, v2, v3⟩ := exp_step HDEF.out.1 HDEF.out.2 hq64 HVV.out
          have he100 : e ≤ 100 := by
            have h1 := HDEF.out.1
            have h2 : 2 ≤ 2 ^ (q + 1) := by rw [Nat.pow_succ]; have := Nat.pow_pos (n := q) (show 0 < 2 by decide); omega
            have h3 := Nat.mul_le_mul_left e h2
            have h4 := HHD.out
            omega
          have HE100 := Lib.hid he100
          have hSQR := Lib.hid (natSqrX_walk B E M A2 A c2 c wr HO2.out HO.out HAP.out (by have := HBR.out.size; have := HSB.out; omega)
            ⟨((HBR.out.cell (p := ⟨3, 0, none⟩) HG.out.1).trans ((HB3.out.cell (p := ⟨3, 0, none⟩) (World.block_lt_of_cell? w _ HK.out.1)).trans HK.out.1)), ((HBR.out.cell (p := ⟨4, 0, none⟩) HG.out.2).trans ((HB3.out.cell (p := ⟨4, 0, none⟩) (World.block_lt_of_cell? w _ HK.out.2)).trans HK.out.2))⟩ HG.out.1 HG.out.2 hE0.out (by rw [HE.out]; exact ten_words he100) (.pointer (some ⟨w.heap.size, 0, none⟩)))
          obtain ⟨J, hJ⟩ : ∃ J, W - (q + 1) = J := ⟨_, rfl⟩
          rw [hJ]
          have hJ1 : (J : Int) < W := by have := HRW.out; omega
          have hJ2 : (J : Int) + 1 = ((W - q : Nat) : Int) := by have := HRW.out; omega
          have hJ0 : (0 : Int) ≤ (J : Int) := by omega
          obtain ⟨J', hJ'⟩ : ∃ J', W - q = J' := ⟨_, rfl⟩
          rw [hJ'] at hJ2
          have HJ' := Lib.hid hJ'
          obtain ⟨lE, hlE⟩ : ∃ lE, (wds E).length = lE := ⟨_, rfl⟩
          obtain ⟨lM, hlM⟩ : ∃ lM, (wds M).length = lM := ⟨_, rfl⟩
          rw [hlE, hlM] at hSQR ⊢
          have HLE := Lib.hid hlE
          have HV1 := Lib.hid v1
          have HV2 := Lib.hid v2
          have HV3 := Lib.hid v3
          have hv0 : (0 : Int) ≤ (v : Int) := by omega
          have htb := top_bit v1
          clear v1 v2 v3 hJ hJ' hlE hlM he100 hq64
          by_cases hbit : v < 9223372036854775808
          · rw [decide_eq_true hbit] at htb
            have HBIT := Lib.hid hbit
            clear hbit
            go_wp2_with fail
            refine hSQR.out.mono ?_
            rintro e9 w6 ⟨A6, c6, rfl, hO6, hx6, hn6⟩
            have HO6 := Lib.hid hO6
            have HX6 := Lib.hid hx6
            have HN6 := Lib.hid hn6
            clear hO6 hx6 hn6
            go_wp2_with fail
            have hBx : B ≤ wr.heap.size := by have := HBR.out.size; have := HSB.out; omega
            have hb6 : Below B wr w6 := HX6.out.below hBx (fun k hk => (HO2.out.lt hk).1)
            have hA6 : OwnB B w6 A c E := HO.out.ext HX6.out (fun k h1 h2 => HAP.out k h2 h1)
            have hap6 : ∀ k, blkOf A k → ¬ blkOf A6 k := fun k h1 h2 => by
              rcases HN6.out k h2 with h3 | h3
              · exact HAP.out k h3 h1
              · have := (HO.out.lt h1).2
                omega
            have HB6 := Lib.hid hb6
            have HA6 := Lib.hid hA6
            have HAP6 := Lib.hid hap6
            have HBX := Lib.hid hBx
            clear hb6 hA6 hap6 hBx
            go_roundg q
            case measure => exact Nat.lt_succ_self q
            case rel => exact ⟨2 * e, f, v * 2 % 18446744073709551616, E * E, A6, c6, A, c, E, rfl, by (have h := IntKind.wrap_u64 ((v : Int) * 2); rw [h]; congr 1), by rw [HLE.out], by rw [HJ'.out], by have := HRW.out; omega, (HV2.out HBIT.out).1, (HV2.out HBIT.out).2.1, (HV2.out HBIT.out).2.2, by omega, by (rw [HE.out, ← Nat.pow_add]; congr 1; omega), HO6.out, HA6.out, HAP6.out, HBR.out.trans HB6.out⟩
          · rw [decide_eq_false hbit] at htb
            have HBIT := Lib.hid hbit
            clear hbit
            go_wp2_with fail
            refine hSQR.out.mono ?_
            rintro e9 w6 ⟨A6, c6, rfl, hO6, hx6, hn6⟩
            have HO6 := Lib.hid hO6
            have HX6 := Lib.hid hx6
            have HN6 := Lib.hid hn6
            clear hO6 hx6 hn6
            go_wp2_with fail
            have hBx : B ≤ wr.heap.size := by have := HBR.out.size; have := HSB.out; omega
            have hb6 : Below B wr w6 := HX6.out.below hBx (fun k hk => (HO2.out.lt hk).1)
            have hA6 : OwnB B w6 A c E := HO.out.ext HX6.out (fun k h1 h2 => HAP.out k h2 h1)
            have hap6 : ∀ k, blkOf A k → ¬ blkOf A6 k := fun k h1 h2 => by
              rcases HN6.out k h2 with h3 | h3
              · exact HAP.out k h3 h1
              · have := (HO.out.lt h1).2
                omega
            have HB6 := Lib.hid hb6
            have HA6 := Lib.hid hA6
            have HAP6 := Lib.hid hap6
            have HBX := Lib.hid hBx
            clear hb6 hA6 hap6 hBx
            have hM := natMul1X_walk B (E * E) E 10 A A6 (some ax) c c6 cx w6 HA6.out HO6.out HAP6.out (Nat.le_trans HBX.out HX6.out.size) (Nat.mul_ne_zero hE0.out hE0.out) (by rw [HE.out, ← Nat.pow_add]; exact ten_words2 (by have := HE100.out; omega)) (by decide) (by decide) (by omega) hcxm (HX.out.below ((HB3.out.trans (HBR.out.mono (by have := HBS.out; omega))).trans (HB6.out.mono (by have := HBS.out; omega)))) (.pointer (some ⟨w.heap.size, 0, none⟩))
            rw [HLE.out] at hM
            have HM := Lib.hid hM
            clear hM
            refine HM.out.mono ?_
            rintro e8 w7 ⟨A7, c7, rfl, hO7, hx7, hn7⟩
            have HO7 := Lib.hid hO7
            have HX7 := Lib.hid hx7
            have HN7 := Lib.hid hn7
            clear hO7 hx7 hn7
            go_wp2_with fail
            have hb7 : Below B w6 w7 := HX7.out.below (Nat.le_trans HBX.out HX6.out.size) (fun k hk => (HA6.out.lt hk).1)
            have hA7 : OwnB B w7 A6 c6 (E * E) := HO6.out.ext HX7.out (fun k h1 h2 => HAP6.out k h2 h1)
            have hap7 : ∀ k, blkOf A6 k → ¬ blkOf A7 k := fun k h1 h2 => by
              rcases HN7.out k h2 with h3 | h3
              · exact HAP6.out k h3 h1
              · have := (HO6.out.lt h1).2
                omega
            go_roundg q
            case measure => exact Nat.lt_succ_self q
            case rel => exact ⟨2 * e + 1, f - 2 ^ q, v * 2 % 18446744073709551616, E * E * 10, A7, c7, A6, c6, E * E, rfl, by (have h := IntKind.wrap_u64 ((v : Int) * 2); rw [h]; congr 1), rfl, by rw [HJ'.out], by have := HRW.out; omega, (HV3.out HBIT.out).1, (HV3.out HBIT.out).2.1, (HV3.out HBIT.out).2.2, by omega, by (rw [HE.out, ← Nat.pow_add, ← Nat.pow_succ]; congr 1; omega), HO7.out, hA7, hap7, (HBR.out.trans HB6.out).trans hb7⟩
end Go.Proofs.YtapfolgiafnllaaGreatDoor
