/-
  cosmosmath.UintOverflow, impl.UintOverflows.
-/
import Derived.Test.YtikacehcjaaamaaDoorBitLen
namespace Go.Proofs.YtikacehcjaaamaaDoor
open Go.RowKit

theorem nums_nil {ws : List Nat} : nums .u64 ws = [] ↔ ws = [] := by simp [nums]
theorem wds_len0 {n : Nat} : (wds n).length = 0 ↔ n = 0 := by
  rw [List.length_eq_zero_iff]
  exact toD_nil_iff (by decide)

set_option maxRecDepth 100000 in
set_option maxHeartbeats 1000000 in
theorem intBitLen_walk (g : Nat) (z : Int) (w : World) (hz : IntAt w g z) (hl : (wds z.natAbs).length ≤ 1000000) :
    Calls Tryd.prog 29 #[.pointer (some ⟨g, 0, none⟩)] w fun e w' => e = .returned (.int .i64 (natLen z.natAbs)) ∧ w = w' := by
  obtain ⟨A, c, hk, h2, h3, h4⟩ := hz
  have c1 := num_cell1 hk
  have HB := Lib.hid (natBitLen_walk z.natAbs A c w h2 h3 hl h4)
  clear h4 hk
  go_enter Tryd.func29, Tryd.ntmps29
  go_wp2_with fail
  refine HB.out.mono ?_
  rintro e w1 ⟨rfl, rfl⟩
  go_wp2_with fail
  go_ret
  exact ⟨rfl, rfl⟩

set_option maxRecDepth 100000 in
set_option maxHeartbeats 1000000 in
theorem intSign_walk (g : Nat) (z : Int) (w : World) (hz : IntAt w g z) :
    Calls Tryd.prog 27 #[.pointer (some ⟨g, 0, none⟩)] w fun e w' => e = .returned (.int .i64 (sgnC z)) ∧ w = w' := by
  obtain ⟨A, c, hk, h2, h3, h4⟩ := hz
  have c0 := num_cell0 hk
  have c1 := num_cell1 hk
  have h0 := wds_len0 (n := z.natAbs)
  by_cases hz0 : z = 0
  · have hl : (((wds z.natAbs).length : Int) == 0) = true := by rw [beq_iff_eq]; have := h0.2 (by omega); omega
    have hs : sgnC z = 0 := by subst hz0; rfl
    rw [hs]
    clear hs h0 h4 hk hz0
    go_enter Tryd.func27, Tryd.ntmps27
    go_wp2_with fail
    go_ret
    exact ⟨rfl, rfl⟩
  · have hl : (((wds z.natAbs).length : Int) == 0) = false := by rw [beq_eq_false_iff_ne]; intro h; have := h0.1 (by omega); omega
    by_cases hn : z < 0
    · have hd : decide (z < 0) = true := decide_eq_true hn
      have hs : sgnC z = -1 := by unfold sgnC; rw [if_pos hn]
      rw [hs]
      rw [hd] at c0
      clear hs h0 h4 hk
      go_enter Tryd.func27, Tryd.ntmps27
      go_wp2_with fail
      go_ret
      exact ⟨rfl, rfl⟩
    · have hd : decide (z < 0) = false := decide_eq_false hn
      have hs : sgnC z = 1 := by unfold sgnC; rw [if_neg hn, if_neg hz0]
      rw [hs]
      rw [hd] at c0
      clear hs h0 h4 hk
      go_enter Tryd.func27, Tryd.ntmps27
      go_wp2_with fail
      go_ret
      exact ⟨rfl, rfl⟩

set_option maxRecDepth 100000 in
set_option maxHeartbeats 1000000 in
theorem errNew_walk (s : ByteArray) (w : World) :
    Calls Tryd.prog 28 #[.string s] w fun e w' => e = .returned (.iface 73 (.pointer (some ⟨w.heap.size, 0, none⟩))) ∧ Below w.heap.size w w' := by
  go_enter Tryd.func28, Tryd.ntmps28
  go_wp2_with fail
  go_ret
  exact ⟨rfl, below_a1 _ _⟩

/-- The number is no Uint. -/
def overU (z : Int) : Bool := decide (z < 0) || decide (256 < natLen z.natAbs)
def OverPost (w : World) (b : Bool) (e : Ending) (w' : World) : Prop := (∃ a, e = .returned (if b then .iface 73 (.pointer (some a)) else .nilIface)) ∧ Below w.heap.size w w'

set_option maxRecDepth 100000 in
set_option maxHeartbeats 1000000 in
theorem uintOverflow_walk (g : Nat) (z : Int) (w : World) (hz : IntAt w g z) (hl : (wds z.natAbs).length ≤ 1000000) :
    Calls Tryd.prog 14 #[.pointer (some ⟨g, 0, none⟩)] w (OverPost w (overU z)) := by
  have HS := Lib.hid (intSign_walk g z w hz)
  have HB := Lib.hid (intBitLen_walk g z w hz hl)
  by_cases hn : z < 0
  · have hs : sgnC z = -1 := by unfold sgnC; rw [if_pos hn]
    have ho : overU z = true := by unfold overU; rw [decide_eq_true hn]; rfl
    rw [hs] at HS
    rw [ho]
    clear hs ho
    go_enter Tryd.func14, Tryd.ntmps14
    go_wp2_with fail
    refine HS.out.mono ?_
    rintro e w1 ⟨rfl, rfl⟩
    go_wp2_with fail
    refine (errNew_walk _ w).mono ?_
    rintro e w2 ⟨rfl, hb2⟩
    go_wp2_with fail
    go_ret
    exact ⟨⟨_, rfl⟩, hb2⟩
  · have hs : ¬ sgnC z < 0 := by unfold sgnC; rw [if_neg hn]; split <;> decide
    obtain ⟨s, hss⟩ : ∃ s, sgnC z = s := ⟨_, rfl⟩
    rw [hss] at HS hs
    clear hss
    by_cases hb : 256 < natLen z.natAbs
    · have ho : overU z = true := by unfold overU; rw [decide_eq_true hb, Bool.or_true]
      rw [ho]
      have hb' : (256 : Int) < (natLen z.natAbs : Nat) := by omega
      clear ho
      go_enter Tryd.func14, Tryd.ntmps14
      go_wp2_with fail
      refine HS.out.mono ?_
      rintro e w1 ⟨rfl, rfl⟩
      go_wp2_with fail
      refine HB.out.mono ?_
      rintro e w1 ⟨rfl, rfl⟩
      go_wp2_with fail
      refine (errNew_walk _ w).mono ?_
      rintro e w2 ⟨rfl, hb2⟩
      go_wp2_with fail
      go_ret
      exact ⟨⟨_, rfl⟩, hb2⟩
    · have ho : overU z = false := by unfold overU; rw [decide_eq_false hb, decide_eq_false hn]; rfl
      rw [ho]
      have hb' : ¬ (256 : Int) < (natLen z.natAbs : Nat) := by omega
      clear ho
      go_enter Tryd.func14, Tryd.ntmps14
      go_wp2_with fail
      refine HS.out.mono ?_
      rintro e w1 ⟨rfl, rfl⟩
      go_wp2_with fail
      refine HB.out.mono ?_
      rintro e w1 ⟨rfl, rfl⟩
      go_wp2_with fail
      go_ret
      exact ⟨⟨⟨0, 0, none⟩, rfl⟩, Below.refl _ _⟩

set_option maxRecDepth 100000 in
set_option maxHeartbeats 1000000 in
theorem uintOverflows_walk (l : List UInt8) (p : Addr) (w : World) (hok : readOk l = true) (hl : l.length ≤ 1000) (hp : EofIs w p) :
    Calls Tryd.prog 6 #[.string (S l)] w fun e w' => e = .returned (.bool (overU (readZ l))) ∧ Below w.heap.size w w' := by
  have hwl : (wds (readZ l).natAbs).length ≤ 1000000 := by
    rw [read_abs]
    obtain ⟨c, t, _, _, _, hbody, hdig, _⟩ := read_scan hok
    have h1 := wds_len_dec (decV_lt hdig)
    have h2 : (readBody l).length ≤ l.length := by rw [hbody]; simp
    omega
  obtain ⟨R, hR⟩ : ∃ R, overU (readZ l) = R := ⟨_, rfl⟩
  rw [hR]
  have HR := Lib.hid hR
  clear hR
  cases R with
  | true =>
    go_enter Tryd.func6, Tryd.ntmps6
    go_wp2_with fail
    refine (number_walk l p w hok hl hp).mono ?_
    rintro e w1 ⟨gz, rfl, hi1, hb1, hgz⟩
    go_wp2_with fail
    refine (uintOverflow_walk gz (readZ l) w1 hi1 hwl).mono ?_
    rw [HR.out]
    rintro e w2 ⟨⟨a, rfl⟩, hb2⟩
    rw [if_pos rfl]
    go_wp2_with fail
    go_ret
    exact ⟨rfl, bt hb1 hb2⟩
  | false =>
    go_enter Tryd.func6, Tryd.ntmps6
    go_wp2_with fail
    refine (number_walk l p w hok hl hp).mono ?_
    rintro e w1 ⟨gz, rfl, hi1, hb1, hgz⟩
    go_wp2_with fail
    refine (uintOverflow_walk gz (readZ l) w1 hi1 hwl).mono ?_
    rw [HR.out]
    rintro e w2 ⟨⟨a, rfl⟩, hb2⟩
    rw [if_neg (by decide)]
    go_wp2_with fail
    go_ret
    exact ⟨rfl, bt hb1 hb2⟩
end Go.Proofs.YtikacehcjaaamaaDoor
