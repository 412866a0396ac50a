/-
  BitLen, Sign, UintOverflow.
  cosmosmath.UintOverflow, impl.UintOverflows.
-/
import Derived.Test.YtapfolgiafnllaaGreatDoorSetStrZ
import Derived.Lib.ItoaNum
namespace Go.Proofs.YtapfolgiafnllaaGreatDoor
open Go.RowKit

/-- How many bits a number has. -/
def natLen (n : Nat) : Nat := if n = 0 then 0 else n.log2 + 1
theorem natLen_of {n b : Nat} (h1 : 2 ^ b ≤ n) (h2 : n < 2 ^ (b + 1)) : natLen n = b + 1 := by
  have h0 : n ≠ 0 := by have := Nat.two_pow_pos b; omega
  unfold natLen
  rw [if_neg h0]
  have h3 := (Nat.le_log2 h0).2 h1
  have h4 := (Nat.log2_lt h0).2 h2
  omega
theorem bitLen_natLen {x : Nat} (h : x < 18446744073709551616) : Lib.bitLen x = natLen x := by
  by_cases h0 : x = 0
  · subst h0; decide
  · obtain ⟨h1, h2, h3⟩ := Lib.bitLenAux_bounds 64 x h h0
    obtain ⟨b, hb⟩ : ∃ b, Lib.bitLenAux 64 x = b + 1 := ⟨Lib.bitLenAux 64 x - 1, by omega⟩
    rw [hb] at h2 h3
    have := natLen_of h2 h3
    unfold Lib.bitLen
    omega
theorem natLen_bounds {n : Nat} (h : n ≠ 0) : 2 ^ (natLen n - 1) ≤ n ∧ n < 2 ^ natLen n ∧ 1 ≤ natLen n := by
  unfold natLen
  rw [if_neg h]
  exact ⟨Nat.log2_self_le h, Nat.lt_log2_self, by omega⟩
theorem natLen_or {x s : Nat} (hx : x ≠ 0) : natLen (x ||| x / 2 ^ s) = natLen x := by
  obtain ⟨h1, h2, h3⟩ := natLen_bounds hx
  obtain ⟨b, hb⟩ : ∃ b, natLen x = b + 1 := ⟨natLen x - 1, by omega⟩
  rw [hb] at h1 h2 ⊢
  refine natLen_of (Nat.le_trans h1 Nat.left_le_or) (Nat.or_lt_two_pow h2 (Nat.lt_of_le_of_lt (Nat.div_le_self _ _) h2))
theorem natLen_lt_iff (n k : Nat) : natLen n ≤ k ↔ n < 2 ^ k := by
  by_cases h : n = 0
  · subst h; simp [natLen]; exact Nat.two_pow_pos k
  · unfold natLen
    rw [if_neg h, ← Nat.log2_lt h]
    omega
theorem natLen_words {n m : Nat} (hl : (wds n).length = m + 1) : natLen n = m * 64 + natLen ((wds n)[m]'(by omega)) := by
  have hv := wds_val n
  have hne : (wds n) ≠ [] := by intro e; rw [e] at hl; simp at hl
  have htop : (wds n)[m]'(by omega) ≠ 0 := by
    have h1 : (wds n).getLast hne ≠ 0 := toD_last (b := 18446744073709551616) (by decide) n hne
    have e : (wds n)[m]'(by omega) = (wds n).getLast hne := by rw [List.getLast_eq_getElem hne]; congr 1; omega
    rw [e]
    exact h1
  have hsplit := valD_take_succ (b := 18446744073709551616) (xs := wds n) (k := m) (by omega)
  rw [List.take_of_length_le (by omega), hv] at hsplit
  have hlow := valD_lt (b := 18446744073709551616) (by decide) (ds := (wds n).take m) (fun d hd => wds_lt n d (List.mem_of_mem_take hd))
  have hml : ((wds n).take m).length = m := by simp; omega
  rw [hml] at hlow
  have hW : 18446744073709551616 ^ m = 2 ^ (m * 64) := by rw [show (18446744073709551616 : Nat) = 2 ^ 64 from by decide, ← Nat.pow_mul, Nat.mul_comm]
  rw [hW] at hsplit hlow
  obtain ⟨h1, h2, h3⟩ := natLen_bounds htop
  obtain ⟨b, hb⟩ : ∃ b, natLen ((wds n)[m]'(by omega)) = b + 1 := ⟨natLen ((wds n)[m]'(by omega)) - 1, by omega⟩
  rw [hb] at h1 h2 ⊢
  generalize (wds n)[m]'(by omega) = t at *
  generalize valD 18446744073709551616 ((wds n).take m) = V at *
  have e1 : 2 ^ (m * 64) * 2 ^ b ≤ 2 ^ (m * 64) * t := Nat.mul_le_mul_left _ h1
  have e2 : 2 ^ (m * 64) * (t + 1) ≤ 2 ^ (m * 64) * 2 ^ (b + 1) := Nat.mul_le_mul_left _ h2
  rw [Nat.mul_add, Nat.mul_one] at e2
  rw [← Nat.pow_add] at e1 e2
  have := natLen_of (n := n) (b := m * 64 + b) (by omega) (by rw [Nat.add_assoc]; omega)
  omega
theorem or_u64 (a s : Nat) (ha : a < 18446744073709551616) : bits BinOp.or IntKind.u64 (a : Int) ((a / 2 ^ s : Nat) : Int) = ((a ||| a / 2 ^ s : Nat) : Int) :=
  (bits_nat .u64 64 (by decide) (fun n h0 h1 => by rw [IntKind.wrap_u64]; omega) a (a / 2 ^ s) ha (Nat.lt_of_le_of_lt (Nat.div_le_self _ _) ha)).2

theorem or_step {t : Nat} (s : Nat) (K : Nat) (hK : 2 ^ s = K) (ht : t < 18446744073709551616) (h0 : t ≠ 0) :
    ∃ u : Nat, bits BinOp.or IntKind.u64 (t : Int) ((t : Int) / (K : Int)) = u ∧ u < 18446744073709551616 ∧ u ≠ 0 ∧ natLen u = natLen t := by
  subst hK
  refine ⟨t ||| t / 2 ^ s, ?_, ?_, ?_, natLen_or h0⟩
  · rw [← or_u64 t s ht, Int.natCast_ediv]
  · exact Nat.or_lt_two_pow (n := 64) ht (Nat.lt_of_le_of_lt (Nat.div_le_self _ _) ht)
  · have : t ≤ t ||| t / 2 ^ s := Nat.left_le_or
    omega

set_option maxRecDepth 100000 in
set_option maxHeartbeats 1000000 in
theorem natBitLen_walk (n : Nat) (A : Option Addr) (c : Nat) (w : World) (hc : (wds n).length ≤ c) (_hm : c ≤ 9223372036854775807) (hl : (wds n).length ≤ 1000000) (hr : Rd w A (nums .u64 (wds n))) :
    Calls Tryz.prog 135 #[.slice A (wds n).length c] w fun e w' => e = .returned (.int .i64 (natLen n)) ∧ w = w' := by
  by_cases h0 : n = 0
  · subst h0
    rw [wds_zero]
    go_enter Tryz.func135, Tryz.ntmps135
    go_wp2_with fail
    go_ret
    exact ⟨rfl, rfl⟩
  · obtain ⟨m, hml⟩ : ∃ m, (wds n).length = m + 1 := by
      refine ⟨(wds n).length - 1, ?_⟩
      have : (wds n).length ≠ 0 := fun e => h0 ((toD_nil_iff (by decide)).1 (List.length_eq_zero_iff.1 e))
      omega
    have hnl := natLen_words hml
    obtain ⟨a, rfl, ha⟩ := rd_cell hr (show m < (wds n).length by omega)
    have htl := wds_lt n _ (List.getElem_mem (show m < (wds n).length by omega))
    obtain ⟨t, ht⟩ : ∃ t, (wds n)[m]'(by omega) = t := ⟨_, rfl⟩
    rw [ht] at ha hnl htl
    rw [hml]
    rw [hnl]
    have hm0 : (0 : Int) ≤ m := by omega
    have hm1 : (m : Int) < (m : Int) + 1 := by omega
    have hc1 : ((m + 1 : Nat) : Int) = (m : Int) + 1 := by omega
    have ht0 : t ≠ 0 := by
      intro e
      have hne : (wds n) ≠ [] := by intro e; rw [e] at hml; simp at hml
      have h1 : (wds n).getLast hne ≠ 0 := toD_last (b := 18446744073709551616) (by decide) n hne
      rw [List.getLast_eq_getElem hne] at h1
      apply h1
      rw [← e, ← ht]
      congr 1
      omega
    obtain ⟨t1, o1, l1, z1, n1⟩ := or_step 1 2 rfl htl ht0
    obtain ⟨t2, o2, l2, z2, n2⟩ := or_step 2 4 rfl l1 z1
    obtain ⟨t3, o3, l3, z3, n3⟩ := or_step 4 16 rfl l2 z2
    obtain ⟨t4, o4, l4, z4, n4⟩ := or_step 8 256 rfl l3 z3
    obtain ⟨t5, o5, l5, z5, n5⟩ := or_step 16 65536 rfl l4 z4
    obtain ⟨t6, o6, l6, z6, n6⟩ := or_step 32 4294967296 (by decide) l5 z5
    have p1 : bits BinOp.or IntKind.u64 (t : Int) ((t : Int) / 2) = t1 := o1
    have p2 : bits BinOp.or IntKind.u64 (t1 : Int) ((t1 : Int) / 4) = t2 := o2
    have p3 : bits BinOp.or IntKind.u64 (t2 : Int) ((t2 : Int) / 16) = t3 := o3
    have p4 : bits BinOp.or IntKind.u64 (t3 : Int) ((t3 : Int) / 256) = t4 := o4
    have p5 : bits BinOp.or IntKind.u64 (t4 : Int) ((t4 : Int) / 65536) = t5 := o5
    have hL := Tryz.bits_Len (t6 : Int) w (by omega) (by omega)
    rw [Int.toNat_natCast, bitLen_natLen l6, n6, n5, n4, n3, n2, n1] at hL
    have o6' : bits BinOp.or IntKind.u64 (t5 : Int) ((t5 : Int) / 65536 / 65536) = t6 := by rw [← o6]; congr 1; omega
    have hL2 := Lib.hid hL
    have hnl64 : natLen t ≤ 64 := (natLen_lt_iff t 64).2 htl
    obtain ⟨L, hLL⟩ : ∃ L, natLen t = L := ⟨_, rfl⟩
    rw [hLL] at hL2 hnl64 ⊢
    clear o1 o2 o3 o4 o5 o6
    clear hL n1 n2 n3 n4 n5 n6 l1 l2 l3 l4 l5 l6 z1 z2 z3 z4 z5 z6 hnl hLL
    have hcast : ((m * 64 + L : Nat) : Int) = (m : Int) * 64 + L := by omega
    rw [hcast]
    go_enter Tryz.func135, Tryz.ntmps135
    go_wp2_with fail
    refine hL2.out.mono ?_
    rintro e w1 ⟨rfl, rfl⟩
    go_wp2_with fail
    go_ret
    exact ⟨rfl, rfl⟩
end Go.Proofs.YtapfolgiafnllaaGreatDoor

namespace Go.Proofs.YtapfolgiafnllaaGreatDoor
open Go.RowKit

theorem nums_nil {ws : List Nat} : nums .u64 ws = [] ↔ ws = [] := by simp [nums]
theorem wds_len0 {n : Nat} : (wds n).length = 0 ↔ n = 0 := by
  rw [List.length_eq_zero_iff]
  exact toD_nil_iff (by decide)

set_option maxRecDepth 100000 in
set_option maxHeartbeats 1000000 in
theorem intBitLen_walk (g : Nat) (z : Int) (w : World) (hz : IntAt w g z) (hl : (wds z.natAbs).length ≤ 1000000) :
    Calls Tryz.prog 110 #[.pointer (some ⟨g, 0, none⟩)] w fun e w' => e = .returned (.int .i64 (natLen z.natAbs)) ∧ w = w' := by
  obtain ⟨A, c, hk, h2, h3, h4⟩ := hz
  have c1 := num_cell1 hk
  have HB := Lib.hid (natBitLen_walk z.natAbs A c w h2 h3 hl h4.rd)
  clear h4 hk
  go_enter Tryz.func110, Tryz.ntmps110
  go_wp2_with fail
  refine HB.out.mono ?_
  rintro e w1 ⟨rfl, rfl⟩
  go_wp2_with fail
  go_ret
  exact ⟨rfl, rfl⟩

set_option maxRecDepth 100000 in
set_option maxHeartbeats 1000000 in
theorem intSign_walk (g : Nat) (z : Int) (w : World) (hz : IntAt w g z) :
    Calls Tryz.prog 126 #[.pointer (some ⟨g, 0, none⟩)] w fun e w' => e = .returned (.int .i64 (sgnC z)) ∧ w = w' := by
  obtain ⟨A, c, hk, h2, h3, h4⟩ := hz
  have c0 := num_cell0 hk
  have c1 := num_cell1 hk
  have h0 := wds_len0 (n := z.natAbs)
  by_cases hz0 : z = 0
  · have hl : (((wds z.natAbs).length : Int) == 0) = true := by rw [beq_iff_eq]; have := h0.2 (by omega); omega
    have hs : sgnC z = 0 := by subst hz0; rfl
    rw [hs]
    clear hs h0 h4 hk hz0
    go_enter Tryz.func126, Tryz.ntmps126
    go_wp2_with fail
    go_ret
    exact ⟨rfl, rfl⟩
  · have hl : (((wds z.natAbs).length : Int) == 0) = false := by rw [beq_eq_false_iff_ne]; intro h; have := h0.1 (by omega); omega
    by_cases hn : z < 0
    · have hd : decide (z < 0) = true := decide_eq_true hn
      have hs : sgnC z = -1 := by unfold sgnC; rw [if_pos hn]
      rw [hs]
      rw [hd] at c0
      clear hs h0 h4 hk
      go_enter Tryz.func126, Tryz.ntmps126
      go_wp2_with fail
      go_ret
      exact ⟨rfl, rfl⟩
    · have hd : decide (z < 0) = false := decide_eq_false hn
      have hs : sgnC z = 1 := by unfold sgnC; rw [if_neg hn, if_neg hz0]
      rw [hs]
      rw [hd] at c0
      clear hs h0 h4 hk
      go_enter Tryz.func126, Tryz.ntmps126
      go_wp2_with fail
      go_ret
      exact ⟨rfl, rfl⟩

set_option maxRecDepth 100000 in
set_option maxHeartbeats 1000000 in
theorem errNew_walk (s : ByteArray) (w : World) :
    Calls Tryz.prog 93 #[.string s] w fun e w' => e = .returned (.iface 117 (.pointer (some ⟨w.heap.size, 0, none⟩))) ∧ Below w.heap.size w w' := by
  go_enter Tryz.func93, Tryz.ntmps93
  go_wp2_with fail
  go_ret
  exact ⟨rfl, below_a1 _ _⟩

/-- The number is no Uint. -/
def overU (z : Int) : Bool := decide (z < 0) || decide (256 < natLen z.natAbs)
def OverPost (w : World) (b : Bool) (e : Ending) (w' : World) : Prop := (∃ a, e = .returned (if b then .iface 117 (.pointer (some a)) else .nilIface)) ∧ Below w.heap.size w w'

set_option maxRecDepth 100000 in
set_option maxHeartbeats 1000000 in
theorem uintOverflow_walk (g : Nat) (z : Int) (w : World) (hz : IntAt w g z) (hl : (wds z.natAbs).length ≤ 1000000) :
    Calls Tryz.prog 120 #[.pointer (some ⟨g, 0, none⟩)] w (OverPost w (overU z)) := by
  have HS := Lib.hid (intSign_walk g z w hz)
  have HB := Lib.hid (intBitLen_walk g z w hz hl)
  by_cases hn : z < 0
  · have hs : sgnC z = -1 := by unfold sgnC; rw [if_pos hn]
    have ho : overU z = true := by unfold overU; rw [decide_eq_true hn]; rfl
    rw [hs] at HS
    rw [ho]
    clear hs ho
    go_enter Tryz.func120, Tryz.ntmps120
    go_wp2_with fail
    refine HS.out.mono ?_
    rintro e w1 ⟨rfl, rfl⟩
    go_wp2_with fail
    refine (errNew_walk _ w).mono ?_
    rintro e w2 ⟨rfl, hb2⟩
    go_wp2_with fail
    go_ret
    exact ⟨⟨_, rfl⟩, hb2⟩
  · have hs : ¬ sgnC z < 0 := by unfold sgnC; rw [if_neg hn]; split <;> decide
    obtain ⟨s, hss⟩ : ∃ s, sgnC z = s := ⟨_, rfl⟩
    rw [hss] at HS hs
    clear hss
    by_cases hb : 256 < natLen z.natAbs
    · have ho : overU z = true := by unfold overU; rw [decide_eq_true hb, Bool.or_true]
      rw [ho]
      have hb' : (256 : Int) < (natLen z.natAbs : Nat) := by omega
      clear ho
      go_enter Tryz.func120, Tryz.ntmps120
      go_wp2_with fail
      refine HS.out.mono ?_
      rintro e w1 ⟨rfl, rfl⟩
      go_wp2_with fail
      refine HB.out.mono ?_
      rintro e w1 ⟨rfl, rfl⟩
      go_wp2_with fail
      refine (errNew_walk _ w).mono ?_
      rintro e w2 ⟨rfl, hb2⟩
      go_wp2_with fail
      go_ret
      exact ⟨⟨_, rfl⟩, hb2⟩
    · have ho : overU z = false := by unfold overU; rw [decide_eq_false hb, decide_eq_false hn]; rfl
      rw [ho]
      have hb' : ¬ (256 : Int) < (natLen z.natAbs : Nat) := by omega
      clear ho
      go_enter Tryz.func120, Tryz.ntmps120
      go_wp2_with fail
      refine HS.out.mono ?_
      rintro e w1 ⟨rfl, rfl⟩
      go_wp2_with fail
      refine HB.out.mono ?_
      rintro e w1 ⟨rfl, rfl⟩
      go_wp2_with fail
      go_ret
      exact ⟨⟨⟨0, 0, none⟩, rfl⟩, Below.refl _ _⟩

end Go.Proofs.YtapfolgiafnllaaGreatDoor

/-
  slices.Reverse, rshVU, (nat).rsh of one word.
-/
namespace Go.Proofs.YtapfolgiafnllaaGreatDoor
open Go.RowKit

set_option maxRecDepth 100000 in
set_option maxHeartbeats 1000000 in
theorem reverse1_walk (A : Option Addr) (c : Nat) (w : World) :
    Calls Tryz.prog 215 #[.slice A 1 c] w fun e w' => e = .returned (.tuple #[]) ∧ w' = w := by
  go_enter Tryz.func215, Tryz.ntmps215
  go_wp2_with fail
  go_loopw [2, 3] (fun i j wr => i = .int .i64 0 ∧ j = .int .i64 0 ∧ wr = w) (fun _ _ _ => 0)
  case atStart => exact ⟨rfl, rfl, rfl⟩
  case round =>
    obtain ⟨rfl, rfl, rfl⟩ := hrel
    go_wp2_with fail
    go_end0
    exact ⟨rfl, rfl⟩

theorem mask63 (n : Nat) (h : n < 64) : bits BinOp.and IntKind.u64 (n : Int) 63 = (n : Int) := by
  have h1 := bits_mask .u64 63 (by decide) (fun n h0 h1 => by rw [IntKind.wrap_u64]; omega) 6 (by decide) (n : Int) (by omega) (by omega)
  have e : ((2 : Int) ^ 6 - 1) = 63 := by decide
  have e2 : ((2 : Int) ^ 6) = 64 := by decide
  rw [e, e2] at h1
  rw [h1]
  omega
set_option maxRecDepth 100000 in
set_option maxHeartbeats 1000000 in
theorem rshVU1_walk (g c W s : Nat) (zs : List Nat) (w : World) (hrow : Row w g .u64 106 zs) (hz : zs[0]? = some W) (hs : 1 ≤ s) (hs2 : s < 64) (_hW : W < 18446744073709551616) :
    Calls Tryz.prog 236 #[.slice (some ⟨g, 0, none⟩) 1 c, .slice (some ⟨g, 0, none⟩) 1 c, .int .u64 s] w fun e w' => ∃ cc, e = .returned (.int .u64 cc) ∧ w' = w.setCell ⟨g, 0, none⟩ (.int .u64 ((W / 2 ^ s : Nat) : Int)) := by
  have hlen : 0 < zs.length := by
    rcases Nat.eq_zero_or_pos zs.length with h | h
    · rw [List.eq_nil_of_length_eq_zero h] at hz; simp at hz
    · exact h
  have hW0 : zs[0] = W := by rw [List.getElem?_eq_getElem hlen] at hz; exact Option.some.inj hz
  have c0 : w.cell? ⟨g, 0, none⟩ = some (.int .u64 W) := by rw [hrow.cell hlen, hW0]
  have f0 := hrow.free 0
  have hsb : ((s : Int) == 0) = false := beq_eq_false_iff_ne.2 (by omega)
  have hs1 : (1 : Int) ≤ s := by omega
  have hs3 : (s : Int) < 64 := by omega
  have hm1 := mask63 s hs2
  obtain ⟨t, ht⟩ : ∃ t, 64 - s = t := ⟨_, rfl⟩
  have hm2 := mask63 t (by omega)
  have hts : (64 : Int) - s = (t : Int) := by omega
  have ht0 : (0 : Int) ≤ t := by omega
  have ht1 : (t : Int) < 64 := by omega
  have hdv : (W : Int) / 2 ^ s = ((W / 2 ^ s : Nat) : Int) := by simp
  have HDV := Lib.hid hdv
  clear hrow hz hdv
  go_enter Tryz.func236, Tryz.ntmps236
  go_wp2_with fail
  go_loopw [8] (fun i wr => i = .int .i64 1 ∧ wr = w) (fun _ _ => 0)
  case atStart => exact ⟨rfl, rfl⟩
  case round =>
    obtain ⟨rfl, rfl⟩ := hrel
    go_wp2_with fail
    go_ret
    exact ⟨_, rfl, by rw [← HDV.out]⟩
set_option maxRecDepth 100000 in
set_option maxHeartbeats 1000000 in
theorem rshVU_walk (g c W s : Nat) (zs : List Nat) (w : World) (hrow : Row w g .u64 106 zs) (hz : zs[0]? = some W) (hs : 1 ≤ s) (hs2 : s < 64) (hW : W < 18446744073709551616) :
    Calls Tryz.prog 213 #[.slice (some ⟨g, 0, none⟩) 1 c, .slice (some ⟨g, 0, none⟩) 1 c, .int .u64 s] w fun e w' => ∃ cc, e = .returned (.int .u64 cc) ∧ w' = w.setCell ⟨g, 0, none⟩ (.int .u64 ((W / 2 ^ s : Nat) : Int)) := by
  have HR := Lib.hid (rshVU1_walk g c W s zs w hrow hz hs hs2 hW)
  clear hrow hz
  go_enter Tryz.func213, Tryz.ntmps213
  go_wp2_with fail
  refine HR.out.mono ?_
  rintro e w1 ⟨cc, rfl, rfl⟩
  go_wp2_with fail
  go_ret
  exact ⟨_, rfl, rfl⟩
theorem wds_row1 {W : Nat} (h : W < 18446744073709551616) (r : List Nat) : ∃ r2, [W] ++ r = wds W ++ r2 := by
  by_cases h0 : W = 0
  · exact ⟨[W] ++ r, by rw [h0, wds_zero]; rfl⟩
  · exact ⟨r, by rw [wds_one h0 h]⟩
theorem trim_row1 {W : Nat} (h : W < 18446744073709551616) : trimN [W] = wds W := by
  by_cases hq : W = 0
  · rw [hq, wds_zero]; rfl
  · rw [wds_one hq h]; simp [trimN, hq]
theorem row1_rd {w : World} {g W : Nat} {r : List Nat} (h : Row w g .u64 106 ([W] ++ r)) : Rd w (some ⟨g, 0, none⟩) (nums .u64 [W]) := by
  have := (h.rd 0).take 1
  simpa [nums] using this
set_option maxRecDepth 100000 in
set_option maxHeartbeats 1000000 in
theorem rshB_walk (B g c W s : Nat) (r : List Nat) (w : World) (hrow : Row w g .u64 106 ([W] ++ r)) (hc : 1 ≤ c) (hc2 : c ≤ 9223372036854775807) (hB : B ≤ g) (hW : W < 18446744073709551616) (hs : 1 ≤ s) (hs2 : s < 64) :
    Calls Tryz.prog 193 #[.slice (some ⟨g, 0, none⟩) (wds W).length c, .slice (some ⟨g, 0, none⟩) (wds W).length c, .int .u64 s] w fun e w' => e = .returned (.slice (some ⟨g, 0, none⟩) (wds (W / 2 ^ s)).length c) ∧ Row w' g .u64 106 ([W / 2 ^ s] ++ r) ∧ Below B w w' := by
  have hsb : ((s : Int) == 0) = false := beq_eq_false_iff_ne.2 (by omega)
  have hs1 : (1 : Int) ≤ s := by omega
  have hs3 : (s : Int) < 64 := by omega
  have hd : (s : Int) / 64 = 0 := by omega
  have hm : (s : Int) % 64 = s := by omega
  have hzc : (1 : Int) ≤ c := by omega
  have hzc2 : (c : Int) ≤ 9223372036854775807 := by omega
  by_cases h0 : W = 0
  · subst h0
    have hz : 0 / 2 ^ s = 0 := Nat.zero_div _
    have H := Lib.hid hrow
    rw [wds_zero, hz, wds_zero]
    clear hrow hz
    go_enter Tryz.func193, Tryz.ntmps193
    go_wp2_with fail
    go_ret
    exact ⟨rfl, H.out, Below.refl _ _⟩
  · have e := wds_one h0 hW
    rw [e]
    have HM := Lib.hid (make_room_walk (some ⟨g, 0, none⟩) 1 c 1 w hc hc2 hc)
    have HS := Lib.hid (rshVU_walk g c W s ([W] ++ r) w hrow rfl hs hs2 hW)
    have hrow2 := hrow.set 0 (W / 2 ^ s)
    have hlt : W / 2 ^ s < 18446744073709551616 := Nat.lt_of_le_of_lt (Nat.div_le_self _ _) hW
    have hn := norm_walk (some ⟨g, 0, none⟩) c [W / 2 ^ s] _ (by simpa using hc) hc2 (row1_rd hrow2)
    rw [trim_row1 hlt] at hn
    have HN := Lib.hid hn
    have HO := Lib.hid hrow2
    obtain ⟨q, hq⟩ : ∃ q, W / 2 ^ s = q := ⟨_, rfl⟩
    rw [hq] at HS HN HO ⊢
    clear hrow hrow2 hn e hq hlt
    go_enter Tryz.func193, Tryz.ntmps193
    go_wp2_with fail
    refine HM.out.mono ?_
    rintro e w1 ⟨rfl, rfl⟩
    go_wp2_with fail
    refine HS.out.mono ?_
    rintro e w2 ⟨cc, rfl, rfl⟩
    go_wp2_with fail
    refine HN.out.mono ?_
    rintro e w3 ⟨rfl, rfl⟩
    go_wp2_with fail
    go_ret
    exact ⟨rfl, HO.out, (Below.refl _ _).setCell (p := ⟨g, 0, none⟩) hB _⟩
theorem word_cells (W n : Nat) : (#[Value.int .u64 (W : Int)] ++ Builtin.zeroCells (Value.int .u64 0).cells n) = (nums .u64 ([W] ++ List.replicate n 0)).toArray := by
  apply Array.ext'
  simp [Builtin.zeroCells, nums, Value.cells]
  apply List.ext_getElem (by simp)
  intro i h1 h2
  simp [Nat.mod_one]
/-- A word is put behind none: what append makes. -/
theorem wpList_append_word {ops : Array Oper} {rest : List Oper} {o : Oper} {a : Act} {Q : Exit → Act → World → Prop} (hgd : o.guard = none) (s x : Operand) (t : TypeId) (ho : o.op = .call { callee := .builtin .append, args := #[s, x], argTypes := #[t, t] })
    (w : World) (ht : Tryz.prog.underlying t = some (.slice 106)) (hs : a.eval s = .slice none 0 0) (ad : Addr) (c W : Nat) (hx : a.eval x = .slice (some ad) 1 c) (hc : w.cell? (ad.add 0) = some (.int .u64 (W : Int)))
    (h : ∀ (w' : World) (cap : Nat) (r : List Nat), 1 ≤ cap → cap ≤ 9223372036854775807 → Row w' w.heap.size .u64 106 ([W] ++ r) → Below w.heap.size w w' → wpList Tryz.prog ops Q rest (a.put o.dst (.slice (some ⟨w.heap.size, 0, none⟩) 1 cap)) w') : wpList Tryz.prog ops Q (o :: rest) a w := by
  obtain ⟨i, hi, hz0, hz1, hz2⟩ := info_parts infoWord
  refine wpList_plain hgd fun K hK => ?_
  have hr := run_append_nil (P := Tryz.prog) w t o.type 106 i (.int .u64 0) ht hi hz0 ad 1 c [.int .u64 (W : Int)] (by rw [hz1]; rfl) (fun j u hu => by
    match j, hu with
    | 0, hu => simp at hu; subst hu; exact hc
    | j + 1, hu => simp at hu) (by decide) (by decide) (by rw [hz2]; decide)
  unfold Oper.wp execOp
  simp only [ho, resolve, invoke, builtin, Sem.run_bind, Sem.run_pure, Result.andThen_ok, List.map_toArray, List.map_cons, List.map_nil, hs, hx, hr]
  refine hK _ _ (h _ (grownCap w 1 0 106) (List.replicate (grownCap w 1 0 106 - 1) 0) (grownCap_ge w 1 0 _) (by have := grownCap_le_maxLen w 1 0 106 (by decide); unfold maxLen at this; omega) ?_ ?_)
  · unfold Row
    rw [← word_cells]
    exact heap_here w.drew _
  · exact (Below.refl w.heap.size w).drew.alloc (Nat.le_refl _) _
end Go.Proofs.YtapfolgiafnllaaGreatDoor
