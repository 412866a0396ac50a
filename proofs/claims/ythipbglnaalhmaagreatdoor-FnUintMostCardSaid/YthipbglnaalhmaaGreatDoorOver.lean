/-
  cosmosmath.UintOverflow, impl.UintOverflows.
-/
import Derived.Test.YthipbglnaalhmaaGreatDoorBitLen
namespace Go.Proofs.YthipbglnaalhmaaGreatDoor
open Go.RowKit

theorem nums_nil {ws : List Nat} : nums .u64 ws = [] ↔ ws = [] := by simp [nums]
theorem wds_len0 {n : Nat} : (wds n).length = 0 ↔ n = 0 := by
  rw [List.length_eq_zero_iff]
  exact toD_nil_iff (by decide)

set_option maxRecDepth 100000 in
set_option maxHeartbeats 1000000 in
theorem intBitLen_walk (g : Nat) (z : Int) (w : World) (hz : IntAt w g z) (hl : (wds z.natAbs).length ≤ 1000000) :
    Calls Tryz.prog 158 #[.pointer (some ⟨g, 0, none⟩)] w fun e w' => e = .returned (.int .i64 (natLen z.natAbs)) ∧ w = w' := by
  obtain ⟨A, c, hk, h2, h3, h4⟩ := hz
  have c1 := num_cell1 hk
  have HB := Lib.hid (natBitLen_walk z.natAbs A c w h2 h3 hl h4.rd)
  clear h4 hk
  go_enter Tryz.func158, Tryz.ntmps158
  go_wp2_with fail
  refine HB.out.mono ?_
  rintro e w1 ⟨rfl, rfl⟩
  go_wp2_with fail
  go_ret
  exact ⟨rfl, rfl⟩

set_option maxRecDepth 100000 in
set_option maxHeartbeats 1000000 in
theorem intSign_walk (g : Nat) (z : Int) (w : World) (hz : IntAt w g z) :
    Calls Tryz.prog 126 #[.pointer (some ⟨g, 0, none⟩)] w fun e w' => e = .returned (.int .i64 (sgnC z)) ∧ w = w' := by
  obtain ⟨A, c, hk, h2, h3, h4⟩ := hz
  have c0 := num_cell0 hk
  have c1 := num_cell1 hk
  have h0 := wds_len0 (n := z.natAbs)
  by_cases hz0 : z = 0
  · have hl : (((wds z.natAbs).length : Int) == 0) = true := by rw [beq_iff_eq]; have := h0.2 (by omega); omega
    have hs : sgnC z = 0 := by subst hz0; rfl
    rw [hs]
    clear hs h0 h4 hk hz0
    go_enter Tryz.func126, Tryz.ntmps126
    go_wp2_with fail
    go_ret
    exact ⟨rfl, rfl⟩
  · have hl : (((wds z.natAbs).length : Int) == 0) = false := by rw [beq_eq_false_iff_ne]; intro h; have := h0.1 (by omega); omega
    by_cases hn : z < 0
    · have hd : decide (z < 0) = true := decide_eq_true hn
      have hs : sgnC z = -1 := by unfold sgnC; rw [if_pos hn]
      rw [hs]
      rw [hd] at c0
      clear hs h0 h4 hk
      go_enter Tryz.func126, Tryz.ntmps126
      go_wp2_with fail
      go_ret
      exact ⟨rfl, rfl⟩
    · have hd : decide (z < 0) = false := decide_eq_false hn
      have hs : sgnC z = 1 := by unfold sgnC; rw [if_neg hn, if_neg hz0]
      rw [hs]
      rw [hd] at c0
      clear hs h0 h4 hk
      go_enter Tryz.func126, Tryz.ntmps126
      go_wp2_with fail
      go_ret
      exact ⟨rfl, rfl⟩

set_option maxRecDepth 100000 in
set_option maxHeartbeats 1000000 in
theorem errNew_walk (s : ByteArray) (w : World) :
    Calls Tryz.prog 93 #[.string s] w fun e w' => e = .returned (.iface 113 (.pointer (some ⟨w.heap.size, 0, none⟩))) ∧ Below w.heap.size w w' := by
  go_enter Tryz.func93, Tryz.ntmps93
  go_wp2_with fail
  go_ret
  exact ⟨rfl, below_a1 _ _⟩

/-- The number is no Uint. -/
def overU (z : Int) : Bool := decide (z < 0) || decide (256 < natLen z.natAbs)
def OverPost (w : World) (b : Bool) (e : Ending) (w' : World) : Prop := (∃ a, e = .returned (if b then .iface 113 (.pointer (some a)) else .nilIface)) ∧ Below w.heap.size w w'

set_option maxRecDepth 100000 in
set_option maxHeartbeats 1000000 in
theorem uintOverflow_walk (g : Nat) (z : Int) (w : World) (hz : IntAt w g z) (hl : (wds z.natAbs).length ≤ 1000000) :
    Calls Tryz.prog 139 #[.pointer (some ⟨g, 0, none⟩)] w (OverPost w (overU z)) := by
  have HS := Lib.hid (intSign_walk g z w hz)
  have HB := Lib.hid (intBitLen_walk g z w hz hl)
  by_cases hn : z < 0
  · have hs : sgnC z = -1 := by unfold sgnC; rw [if_pos hn]
    have ho : overU z = true := by unfold overU; rw [decide_eq_true hn]; rfl
    rw [hs] at HS
    rw [ho]
    clear hs ho
    go_enter Tryz.func139, Tryz.ntmps139
    go_wp2_with fail
    refine HS.out.mono ?_
    rintro e w1 ⟨rfl, rfl⟩
    go_wp2_with fail
    refine (errNew_walk _ w).mono ?_
    rintro e w2 ⟨rfl, hb2⟩
    go_wp2_with fail
    go_ret
    exact ⟨⟨_, rfl⟩, hb2⟩
  · have hs : ¬ sgnC z < 0 := by unfold sgnC; rw [if_neg hn]; split <;> decide
    obtain ⟨s, hss⟩ : ∃ s, sgnC z = s := ⟨_, rfl⟩
    rw [hss] at HS hs
    clear hss
    by_cases hb : 256 < natLen z.natAbs
    · have ho : overU z = true := by unfold overU; rw [decide_eq_true hb, Bool.or_true]
      rw [ho]
      have hb' : (256 : Int) < (natLen z.natAbs : Nat) := by omega
      clear ho
      go_enter Tryz.func139, Tryz.ntmps139
      go_wp2_with fail
      refine HS.out.mono ?_
      rintro e w1 ⟨rfl, rfl⟩
      go_wp2_with fail
      refine HB.out.mono ?_
      rintro e w1 ⟨rfl, rfl⟩
      go_wp2_with fail
      refine (errNew_walk _ w).mono ?_
      rintro e w2 ⟨rfl, hb2⟩
      go_wp2_with fail
      go_ret
      exact ⟨⟨_, rfl⟩, hb2⟩
    · have ho : overU z = false := by unfold overU; rw [decide_eq_false hb, decide_eq_false hn]; rfl
      rw [ho]
      have hb' : ¬ (256 : Int) < (natLen z.natAbs : Nat) := by omega
      clear ho
      go_enter Tryz.func139, Tryz.ntmps139
      go_wp2_with fail
      refine HS.out.mono ?_
      rintro e w1 ⟨rfl, rfl⟩
      go_wp2_with fail
      refine HB.out.mono ?_
      rintro e w1 ⟨rfl, rfl⟩
      go_wp2_with fail
      go_ret
      exact ⟨⟨⟨0, 0, none⟩, rfl⟩, Below.refl _ _⟩

end Go.Proofs.YthipbglnaalhmaaGreatDoor
