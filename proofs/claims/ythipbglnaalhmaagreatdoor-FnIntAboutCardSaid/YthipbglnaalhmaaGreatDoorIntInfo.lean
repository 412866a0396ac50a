/-
  IsInt64, Int64 of big.Int; what cosmosmath's Int tells.
-/
import Derived.Test.YthipbglnaalhmaaGreatDoorIntNew
import Derived.Test.YthipbglnaalhmaaGreatDoorSpecSml
import Derived.Test.YthipbglnaalhmaaGreatDoorUintAbout
namespace Go.Proofs.YthipbglnaalhmaaGreatDoor
open Go.RowKit

set_option maxRecDepth 100000 in
set_option maxHeartbeats 1000000 in
theorem isInt64_walk (g : Nat) (z : Int) (w : World) (hz : IntAt w g z) :
    Calls Tryz.prog 127 #[.pointer (some ⟨g, 0, none⟩)] w fun e w' => e = .returned (.bool (smlOk z)) ∧ Below w.heap.size w w' := by
  obtain ⟨A, c, hk, h2, h3, h4⟩ := hz
  have c0 := num_cell0 hk
  have c1 := num_cell1 hk
  have HK := Lib.hid hk
  have hle := wds_le1 z.natAbs
  obtain ⟨N, hN⟩ : ∃ N, z.natAbs = N := ⟨_, rfl⟩
  obtain ⟨b, hb⟩ : ∃ b, decide (z < 0) = b := ⟨_, rfl⟩
  have HL := Lib.hid (fun (w' : World) (h : N < 18446744073709551616) (hb : Below w.heap.size w w') => low64_walk N A c w' h ((by rw [← hN]; exact h4 : Wd w A (wds N)).below hb))
  obtain ⟨n, hn⟩ : ∃ n, (wds N).length = n := ⟨_, rfl⟩
  rw [hN, hn] at c1 hle HK
  rw [hb] at c0 HK
  rw [hn] at HL
  have hbz : b = true ↔ z < 0 := by rw [← hb, decide_eq_true_iff]
  clear hk h4 hb
  by_cases h1 : n ≤ 1
  · have h1' : ((n : Nat) : Int) ≤ 1 := by omega
    have hlt := hle.1 h1
    by_cases hs : N < 9223372036854775808
    · have ho : smlOk z = true := by unfold smlOk; rw [decide_eq_true (by omega : -9223372036854775808 ≤ z), decide_eq_true (by omega : z ≤ 9223372036854775807)]; rfl
      have hw : IntKind.i64.wrap (N : Int) = (N : Int) := by rw [IntKind.wrap_i64]; omega
      have hw0 : (0 : Int) ≤ (N : Int) := by omega
      have hw1 : (N : Int) < 9223372036854775808 := by omega
      rw [ho]
      clear ho hle h1 hn h2 hN hbz
      go_enter Tryz.func127, Tryz.ntmps127
      go_wp2_with fail
      refine (HL.out _ hlt (Below.refl _ _)).mono ?_
      rintro e w1 ⟨rfl, hb1⟩
      have HB1 := Lib.hid hb1
      clear hb1 hlt
      go_wp2_with fail
      go_ret
      exact ⟨rfl, HB1.out⟩
    · have hw : IntKind.i64.wrap (N : Int) = (N : Int) - 18446744073709551616 := by rw [IntKind.wrap_i64]; omega
      obtain ⟨W, hW⟩ : ∃ W, (N : Int) - 18446744073709551616 = W := ⟨_, rfl⟩
      have hw0 : decide ((0 : Int) ≤ W) = false := decide_eq_false (by omega)
      rw [hW] at hw
      cases b with
      | false =>
        have hnz : ¬ z < 0 := fun h => absurd (hbz.2 h) (by decide)
        have ho : smlOk z = false := by unfold smlOk; rw [decide_eq_false (by omega : ¬ z ≤ 9223372036854775807), Bool.and_false]
        rw [ho]
        clear ho hle h1 hn h2 hN hbz hs hnz hW
        go_enter Tryz.func127, Tryz.ntmps127
        go_wp2_with fail
        refine (HL.out _ hlt (Below.refl _ _)).mono ?_
        rintro e w1 ⟨rfl, hb1⟩
        have d0 := num_cell0 ((hb1.block g (iter_lt HK.out)).trans HK.out)
        have HB1 := Lib.hid hb1
        clear hb1 hlt
        go_wp2_with fail
        go_ret
        exact ⟨rfl, HB1.out⟩
      | true =>
        have hnz : z < 0 := hbz.1 rfl
        have ho : smlOk z = (W == IntKind.i64.wrap (-W)) := by
          unfold smlOk
          rw [decide_eq_true (by omega : z ≤ 9223372036854775807), Bool.and_true, Bool.eq_iff_iff, decide_eq_true_iff, beq_iff_eq, IntKind.wrap_i64]
          omega
        rw [ho]
        obtain ⟨V, hV⟩ : ∃ V, IntKind.i64.wrap (-W) = V := ⟨_, rfl⟩
        rw [hV]
        clear ho hle h1 hn h2 hN hbz hs hnz hW
        go_enter Tryz.func127, Tryz.ntmps127
        go_wp2_with fail
        refine (HL.out _ hlt (Below.refl _ _)).mono ?_
        rintro e w1 ⟨rfl, hb1⟩
        have d0 := num_cell0 ((hb1.block g (iter_lt HK.out)).trans HK.out)
        have HB1 := Lib.hid hb1
        clear hb1 hlt
        go_wp2_with fail
        go_ret
        exact ⟨rfl, HB1.out⟩
  · have h1' : ¬ ((n : Nat) : Int) ≤ 1 := by omega
    have ho : smlOk z = false := by
      have hge : ¬ N < 18446744073709551616 := fun h => h1 (hle.2 h)
      unfold smlOk
      by_cases hn0 : z < 0
      · rw [decide_eq_false (by omega : ¬ -9223372036854775808 ≤ z)]; rfl
      · rw [decide_eq_false (by omega : ¬ z ≤ 9223372036854775807), Bool.and_false]
    rw [ho]
    clear ho hle h1 hn h2 hN hbz
    go_enter Tryz.func127, Tryz.ntmps127
    go_wp2_with fail
    go_ret
    exact ⟨rfl, Below.refl _ _⟩

set_option maxRecDepth 100000 in
set_option maxHeartbeats 1000000 in
theorem intInt64_walk (g : Nat) (z : Int) (w : World) (hz : IntAt w g z) (ho : smlOk z = true) :
    Calls Tryz.prog 128 #[.pointer (some ⟨g, 0, none⟩)] w fun e w' => e = .returned (.int .i64 z) ∧ Below w.heap.size w w' := by
  obtain ⟨A, c, hk, h2, h3, h4⟩ := hz
  have c0 := num_cell0 hk
  have c1 := num_cell1 hk
  have HK := Lib.hid hk
  unfold smlOk at ho
  rw [Bool.and_eq_true, decide_eq_true_eq, decide_eq_true_eq] at ho
  obtain ⟨N, hN⟩ : ∃ N, z.natAbs = N := ⟨_, rfl⟩
  obtain ⟨b, hb⟩ : ∃ b, decide (z < 0) = b := ⟨_, rfl⟩
  have HL := Lib.hid (low64_walk N A c w (by omega) (by rw [← hN]; exact h4))
  obtain ⟨n, hn⟩ : ∃ n, (wds N).length = n := ⟨_, rfl⟩
  rw [hN, hn] at c1 HK
  rw [hb] at c0 HK
  rw [hn] at HL
  have hbz : b = true ↔ z < 0 := by rw [← hb, decide_eq_true_iff]
  clear hk h4 hb h2 hn
  cases b with
  | false =>
    have hnz : ¬ z < 0 := fun h => absurd (hbz.2 h) (by decide)
    have hw : IntKind.i64.wrap (N : Int) = z := by rw [IntKind.wrap_i64]; omega
    clear hbz hN hnz ho
    go_enter Tryz.func128, Tryz.ntmps128
    go_wp2_with fail
    refine HL.out.mono ?_
    rintro e w1 ⟨rfl, hb1⟩
    have d0 := num_cell0 ((hb1.block g (iter_lt HK.out)).trans HK.out)
    have HB1 := Lib.hid hb1
    clear hb1
    go_wp2_with fail
    go_ret
    exact ⟨by rw [← hw]; rfl, HB1.out⟩
  | true =>
    have hnz : z < 0 := hbz.1 rfl
    obtain ⟨W, hW⟩ : ∃ W, IntKind.i64.wrap (N : Int) = W := ⟨_, rfl⟩
    have hw : IntKind.i64.wrap (-W) = z := by rw [← hW, IntKind.wrap_i64, IntKind.wrap_i64]; omega
    clear hbz hN hnz ho
    go_enter Tryz.func128, Tryz.ntmps128
    go_wp2_with fail
    refine HL.out.mono ?_
    rintro e w1 ⟨rfl, hb1⟩
    have d0 := num_cell0 ((hb1.block g (iter_lt HK.out)).trans HK.out)
    have HB1 := Lib.hid hb1
    clear hb1
    go_wp2_with fail
    go_ret
    exact ⟨by rw [← hw]; rfl, HB1.out⟩

set_option maxRecDepth 100000 in
set_option maxHeartbeats 1000000 in
theorem isUint64I_walk (g : Nat) (z : Int) (w : World) (hz : IntAt w g z) :
    Calls Tryz.prog 110 #[.pointer (some ⟨g, 0, none⟩)] w fun e w' => e = .returned (.bool (unsOk z)) ∧ Below w.heap.size w w' := by
  by_cases hp : z < 0
  · have ho : unsOk z = false := by unfold unsOk; rw [decide_eq_false (by omega)]; rfl
    rw [ho]
    obtain ⟨A, c, hk, h2, h3, h4⟩ := hz
    have c0 := num_cell0 hk
    rw [decide_eq_true hp] at c0
    clear hk h4 ho h2 hp
    go_enter Tryz.func110, Tryz.ntmps110
    go_wp2_with fail
    go_ret
    exact ⟨rfl, Below.refl _ _⟩
  · have ho : unsOk z = decide (z < 18446744073709551616) := by unfold unsOk; rw [decide_eq_true (by omega : 0 ≤ z)]; rfl
    rw [ho]
    exact isUint64_walk g z w hz hp

theorem intUint64I_walk (g : Nat) (z : Int) (w : World) (hz : IntAt w g z) (ho : unsOk z = true) :
    Calls Tryz.prog 111 #[.pointer (some ⟨g, 0, none⟩)] w fun e w' => e = .returned (.int .u64 z) ∧ Below w.heap.size w w' := by
  unfold unsOk at ho
  rw [Bool.and_eq_true, decide_eq_true_eq, decide_eq_true_eq] at ho
  exact intUint64_walk g z w hz (by omega) ho.2

set_option maxRecDepth 100000 in
set_option maxHeartbeats 1000000 in
theorem csign_walk (g : Nat) (z : Int) (w : World) (hz : IntAt w g z) :
    Calls Tryz.prog 73 #[.agg #[.pointer (some ⟨g, 0, none⟩)]] w fun e w' => e = .returned (.int .i64 (sgnC z)) ∧ Below w.heap.size w w' := by
  have HI := Lib.hid (intSign_walk g z _ (hz.below (below_a1 w (.cells #[.pointer (some ⟨g, 0, none⟩)] 75))))
  clear hz
  go_enter Tryz.func73, Tryz.ntmps73
  go_wp2_with fail
  refine HI.out.mono ?_
  rintro e w1 ⟨rfl, rfl⟩
  go_wp2_with fail
  go_ret
  exact ⟨rfl, below_a1 _ _⟩

set_option maxRecDepth 100000 in
set_option maxHeartbeats 1000000 in
theorem cisZero_walk (g : Nat) (z : Int) (w : World) (hz : IntAt w g z) :
    Calls Tryz.prog 74 #[.agg #[.pointer (some ⟨g, 0, none⟩)]] w fun e w' => e = .returned (.bool (decide (z = 0))) ∧ Below w.heap.size w w' := by
  have HI := Lib.hid (intSign_walk g z _ (hz.below (below_a1 w (.cells #[.pointer (some ⟨g, 0, none⟩)] 75))))
  have hs : (sgnC z == 0) = decide (z = 0) := by
    unfold sgnC
    by_cases h1 : z < 0
    · rw [if_pos h1]; simp; omega
    · rw [if_neg h1]
      by_cases h2 : z = 0
      · rw [if_pos h2]; simp; omega
      · rw [if_neg h2]; simp; omega
  rw [← hs]
  obtain ⟨s, hss⟩ : ∃ s, sgnC z = s := ⟨_, rfl⟩
  rw [hss] at HI ⊢
  clear hs hss
  clear hz
  go_enter Tryz.func74, Tryz.ntmps74
  go_wp2_with fail
  refine HI.out.mono ?_
  rintro e w1 ⟨rfl, rfl⟩
  go_wp2_with fail
  go_ret
  exact ⟨rfl, below_a1 _ _⟩

set_option maxRecDepth 100000 in
set_option maxHeartbeats 1000000 in
theorem cisNeg_walk (g : Nat) (z : Int) (w : World) (hz : IntAt w g z) :
    Calls Tryz.prog 75 #[.agg #[.pointer (some ⟨g, 0, none⟩)]] w fun e w' => e = .returned (.bool (decide (z < 0))) ∧ Below w.heap.size w w' := by
  have HI := Lib.hid (intSign_walk g z _ (hz.below (below_a1 w (.cells #[.pointer (some ⟨g, 0, none⟩)] 75))))
  have hs : (sgnC z == -1) = decide (z < 0) := by
    unfold sgnC
    by_cases h1 : z < 0
    · rw [if_pos h1]; simp; omega
    · rw [if_neg h1]
      by_cases h2 : z = 0
      · rw [if_pos h2]; simp; omega
      · rw [if_neg h2]; simp; omega
  rw [← hs]
  obtain ⟨s, hss⟩ : ∃ s, sgnC z = s := ⟨_, rfl⟩
  rw [hss] at HI ⊢
  clear hs hss
  clear hz
  go_enter Tryz.func75, Tryz.ntmps75
  go_wp2_with fail
  refine HI.out.mono ?_
  rintro e w1 ⟨rfl, rfl⟩
  go_wp2_with fail
  go_ret
  exact ⟨rfl, below_a1 _ _⟩

set_option maxRecDepth 100000 in
set_option maxHeartbeats 1000000 in
theorem cisPos_walk (g : Nat) (z : Int) (w : World) (hz : IntAt w g z) :
    Calls Tryz.prog 76 #[.agg #[.pointer (some ⟨g, 0, none⟩)]] w fun e w' => e = .returned (.bool (decide (0 < z))) ∧ Below w.heap.size w w' := by
  have HI := Lib.hid (intSign_walk g z _ (hz.below (below_a1 w (.cells #[.pointer (some ⟨g, 0, none⟩)] 75))))
  have hs : (sgnC z == 1) = decide (0 < z) := by
    unfold sgnC
    by_cases h1 : z < 0
    · rw [if_pos h1]; simp; omega
    · rw [if_neg h1]
      by_cases h2 : z = 0
      · rw [if_pos h2]; simp; omega
      · rw [if_neg h2]; simp; omega
  rw [← hs]
  obtain ⟨s, hss⟩ : ∃ s, sgnC z = s := ⟨_, rfl⟩
  rw [hss] at HI ⊢
  clear hs hss
  clear hz
  go_enter Tryz.func76, Tryz.ntmps76
  go_wp2_with fail
  refine HI.out.mono ?_
  rintro e w1 ⟨rfl, rfl⟩
  go_wp2_with fail
  go_ret
  exact ⟨rfl, below_a1 _ _⟩

set_option maxRecDepth 100000 in
set_option maxHeartbeats 1000000 in
theorem cisInt64_walk (g : Nat) (z : Int) (w : World) (hz : IntAt w g z) :
    Calls Tryz.prog 77 #[.agg #[.pointer (some ⟨g, 0, none⟩)]] w fun e w' => e = .returned (.bool (smlOk z)) ∧ Below w.heap.size w w' := by
  have HI := Lib.hid (isInt64_walk g z _ (hz.below (below_a1 w (.cells #[.pointer (some ⟨g, 0, none⟩)] 75))))
  clear hz
  go_enter Tryz.func77, Tryz.ntmps77
  go_wp2_with fail
  refine HI.out.mono ?_
  rintro e w1 ⟨rfl, hb⟩
  have HB := Lib.hid hb
  clear hb
  go_wp2_with fail
  go_ret
  exact ⟨rfl, bt (below_a1 _ _) HB.out⟩

set_option maxRecDepth 100000 in
set_option maxHeartbeats 1000000 in
theorem cisUint64_walk (g : Nat) (z : Int) (w : World) (hz : IntAt w g z) :
    Calls Tryz.prog 78 #[.agg #[.pointer (some ⟨g, 0, none⟩)]] w fun e w' => e = .returned (.bool (unsOk z)) ∧ Below w.heap.size w w' := by
  have HI := Lib.hid (isUint64I_walk g z _ (hz.below (below_a1 w (.cells #[.pointer (some ⟨g, 0, none⟩)] 75))))
  clear hz
  go_enter Tryz.func78, Tryz.ntmps78
  go_wp2_with fail
  refine HI.out.mono ?_
  rintro e w1 ⟨rfl, hb⟩
  have HB := Lib.hid hb
  clear hb
  go_wp2_with fail
  go_ret
  exact ⟨rfl, bt (below_a1 _ _) HB.out⟩

set_option maxRecDepth 100000 in
set_option maxHeartbeats 1000000 in
theorem cisNil_walk (g : Nat) (w : World) :
    Calls Tryz.prog 72 #[.agg #[.pointer (some ⟨g, 0, none⟩)]] w fun e w' => e = .returned (.bool false) ∧ Below w.heap.size w w' := by
  go_enter Tryz.func72, Tryz.ntmps72
  go_wp2_with fail
  go_ret
  exact ⟨rfl, below_a1 _ _⟩

set_option maxRecDepth 100000 in
set_option maxHeartbeats 1000000 in
theorem cint64_walk (g : Nat) (z : Int) (w : World) (hz : IntAt w g z) (ho : smlOk z = true) :
    Calls Tryz.prog 80 #[.agg #[.pointer (some ⟨g, 0, none⟩)]] w fun e w' => e = .returned (.int .i64 z) ∧ Below w.heap.size w w' := by
  have HI := Lib.hid (isInt64_walk g z _ (hz.below (below_a1 w (.cells #[.pointer (some ⟨g, 0, none⟩)] 75))))
  have HU := Lib.hid (fun (w' : World) (h : Below (w.alloc (.cells #[.pointer (some ⟨g, 0, none⟩)] 75)).heap.size (w.alloc (.cells #[.pointer (some ⟨g, 0, none⟩)] 75)) w') => intInt64_walk g z w' ((hz.below (below_a1 w (.cells #[.pointer (some ⟨g, 0, none⟩)] 75))).below h) ho)
  rw [ho] at HI
  have HK := Lib.hid (heap_here w (.cells #[.pointer (some ⟨g, 0, none⟩)] 75))
  clear hz ho
  go_enter Tryz.func80, Tryz.ntmps80
  go_wp2_with fail
  refine HI.out.mono ?_
  rintro e w1 ⟨rfl, hb⟩
  have c0 := one_cell ((hb.block w.heap.size (by rw [heap_size_alloc]; omega)).trans HK.out)
  have HB := Lib.hid hb
  clear hb
  go_wp2_with fail
  refine (HU.out w1 HB.out).mono ?_
  rintro e w2 ⟨rfl, hb2⟩
  go_wp2_with fail
  go_ret
  exact ⟨rfl, bt (bt (below_a1 _ _) HB.out) hb2⟩
set_option maxRecDepth 100000 in
set_option maxHeartbeats 1000000 in
theorem cint64_panic (g : Nat) (z : Int) (w : World) (hz : IntAt w g z) (ho : smlOk z = false) :
    Calls Tryz.prog 80 #[.agg #[.pointer (some ⟨g, 0, none⟩)]] w (PanicPost w) := by
  have HI := Lib.hid (isInt64_walk g z _ (hz.below (below_a1 w (.cells #[.pointer (some ⟨g, 0, none⟩)] 75))))
  rw [ho] at HI
  clear hz ho
  go_enter Tryz.func80, Tryz.ntmps80
  go_wp2_with fail
  refine HI.out.mono ?_
  rintro e w1 ⟨rfl, hb⟩
  have HB := Lib.hid (bt (below_a1 _ _) hb)
  clear hb
  go_wp2_with fail
  exact ⟨rfl, _, _, rfl, HB.out⟩

set_option maxRecDepth 100000 in
set_option maxHeartbeats 1000000 in
theorem cuint64_walk (g : Nat) (z : Int) (w : World) (hz : IntAt w g z) (ho : unsOk z = true) :
    Calls Tryz.prog 82 #[.agg #[.pointer (some ⟨g, 0, none⟩)]] w fun e w' => e = .returned (.int .u64 z) ∧ Below w.heap.size w w' := by
  have HI := Lib.hid (isUint64I_walk g z _ (hz.below (below_a1 w (.cells #[.pointer (some ⟨g, 0, none⟩)] 75))))
  have HU := Lib.hid (fun (w' : World) (h : Below (w.alloc (.cells #[.pointer (some ⟨g, 0, none⟩)] 75)).heap.size (w.alloc (.cells #[.pointer (some ⟨g, 0, none⟩)] 75)) w') => intUint64I_walk g z w' ((hz.below (below_a1 w (.cells #[.pointer (some ⟨g, 0, none⟩)] 75))).below h) ho)
  rw [ho] at HI
  have HK := Lib.hid (heap_here w (.cells #[.pointer (some ⟨g, 0, none⟩)] 75))
  clear hz ho
  go_enter Tryz.func82, Tryz.ntmps82
  go_wp2_with fail
  refine HI.out.mono ?_
  rintro e w1 ⟨rfl, hb⟩
  have c0 := one_cell ((hb.block w.heap.size (by rw [heap_size_alloc]; omega)).trans HK.out)
  have HB := Lib.hid hb
  clear hb
  go_wp2_with fail
  refine (HU.out w1 HB.out).mono ?_
  rintro e w2 ⟨rfl, hb2⟩
  go_wp2_with fail
  go_ret
  exact ⟨rfl, bt (bt (below_a1 _ _) HB.out) hb2⟩
set_option maxRecDepth 100000 in
set_option maxHeartbeats 1000000 in
theorem cuint64_panic (g : Nat) (z : Int) (w : World) (hz : IntAt w g z) (ho : unsOk z = false) :
    Calls Tryz.prog 82 #[.agg #[.pointer (some ⟨g, 0, none⟩)]] w (PanicPost w) := by
  have HI := Lib.hid (isUint64I_walk g z _ (hz.below (below_a1 w (.cells #[.pointer (some ⟨g, 0, none⟩)] 75))))
  rw [ho] at HI
  clear hz ho
  go_enter Tryz.func82, Tryz.ntmps82
  go_wp2_with fail
  refine HI.out.mono ?_
  rintro e w1 ⟨rfl, hb⟩
  have HB := Lib.hid (bt (below_a1 _ _) hb)
  clear hb
  go_wp2_with fail
  exact ⟨rfl, _, _, rfl, HB.out⟩
end Go.Proofs.YthipbglnaalhmaaGreatDoor
