/-
  bigIntOverflows, NewIntFromBigInt, NewIntFromString, Int.String of cosmosmath; impl.integer, impl.IntRead.
-/
import Derived.Test.YtapfolgiafnllaaGreatDoorBn08Z
namespace Go.Proofs.YtapfolgiafnllaaGreatDoor
open Go.RowKit

/-- More than 256 bits. -/
def overI (z : Int) : Bool := decide (256 < natLen z.natAbs)
set_option maxRecDepth 100000 in
set_option maxHeartbeats 1000000 in
theorem bits_walk (g n c : Nat) (A : Option Addr) (b : Bool) (w : World) (hk : w.heap[g]? = some (.cells #[.bool b, .slice A n c] 80 (0, 0))) :
    Calls Tryz.prog 109 #[.pointer (some ⟨g, 0, none⟩)] w fun e w' => e = .returned (.slice A n c) ∧ w' = w := by
  have c1 := num_cell1 hk
  clear hk
  go_enter Tryz.func109, Tryz.ntmps109
  go_wp2_with fail
  go_ret
  exact ⟨rfl, rfl⟩
set_option maxRecDepth 100000 in
set_option maxHeartbeats 1000000 in
theorem bigOver_walk (g : Nat) (z : Int) (w : World) (hz : IntAt w g z) (hl : (wds z.natAbs).length ≤ 1000000) :
    Calls Tryz.prog 83 #[.pointer (some ⟨g, 0, none⟩)] w fun e w' => e = .returned (.bool (overI z)) ∧ w' = w := by
  have HBL := Lib.hid (intBitLen_walk g z w hz hl)
  obtain ⟨A, c, hk, h2, h3, h4⟩ := hz
  have HB := Lib.hid (bits_walk g _ c A _ w hk)
  clear h4 hk
  by_cases h4 : (wds z.natAbs).length ≤ 4
  · have h4' : ¬ (4 : Int) < ((wds z.natAbs).length : Int) := by omega
    have ho : overI z = false := by
      unfold overI
      refine decide_eq_false ?_
      have h1 := toD_lt_pow (b := 18446744073709551616) (by decide) z.natAbs
      have h5 : (18446744073709551616 : Nat) ^ (wds z.natAbs).length ≤ 18446744073709551616 ^ 4 := Nat.pow_le_pow_right (by decide) h4
      have h6 := (natLen_lt_iff z.natAbs 256).2 (Nat.lt_of_lt_of_le h1 (Nat.le_trans h5 (by decide)))
      omega
    rw [ho]
    obtain ⟨n, hn⟩ : ∃ n, (wds z.natAbs).length = n := ⟨_, rfl⟩
    rw [hn] at HB h4'
    clear hn h4 ho h2 hl
    go_enter Tryz.func83, Tryz.ntmps83
    go_wp2_with fail
    refine HB.out.mono ?_
    rintro e w1 ⟨rfl, rfl⟩
    go_wp2_with fail
    go_ret
    exact ⟨rfl, rfl⟩
  · have h4' : (4 : Int) < ((wds z.natAbs).length : Int) := by omega
    have ho : overI z = decide ((256 : Int) < ((natLen z.natAbs : Nat) : Int)) := by
      unfold overI
      congr 1
      apply propext
      omega
    rw [ho]
    obtain ⟨n, hn⟩ : ∃ n, (wds z.natAbs).length = n := ⟨_, rfl⟩
    obtain ⟨m, hm⟩ : ∃ m, natLen z.natAbs = m := ⟨_, rfl⟩
    rw [hn] at HB h4'
    rw [hm] at HBL ⊢
    clear hn hm h4 ho h2 hl
    go_enter Tryz.func83, Tryz.ntmps83
    go_wp2_with fail
    refine HB.out.mono ?_
    rintro e w1 ⟨rfl, rfl⟩
    go_wp2_with fail
    refine HBL.out.mono ?_
    rintro e w1 ⟨rfl, rfl⟩
    go_wp2_with fail
    go_ret
    exact ⟨rfl, rfl⟩

set_option maxRecDepth 100000 in
set_option maxHeartbeats 2000000 in
theorem newInt_walk (g : Nat) (z : Int) (w : World) (hz : IntAt w g z) (hl : (wds z.natAbs).length ≤ 80000) (ho : overI z = false) :
    Calls Tryz.prog 99 #[.pointer (some ⟨g, 0, none⟩)] w (MadePost w z) := by
  have HO := Lib.hid (bigOver_walk g z _ (hz.below (below_a1 w (.cells #[.pointer none] 55))) (by omega))
  rw [ho] at HO
  have HZ := Lib.hid hz
  have hg := hz.lt
  clear hz ho
  go_enter Tryz.func99, Tryz.ntmps99
  go_wp2_with fail
  refine HO.out.mono ?_
  rintro e w1 ⟨rfl, rfl⟩
  go_wp2_with fail
  refine (intSet_walk (w.heap.size + 1) g z _ (heap_at _ _ (heap_size_alloc _ _)) (HZ.out.below (below_a2 _ _ _)) (by omega) hl).mono ?_
  rintro e w4 ⟨rfl, hi4, hx4⟩
  have hk4 := (hx4.block w.heap.size (by rw [heap_size_alloc, heap_size_alloc]; omega) (by omega)).trans (heap_old (o := .cells #[.bool false, .slice none 0 0] 80) (heap_here w (.cells #[.pointer none] 55)))
  have hb4 : Below w.heap.size w w4 := (below_a2 _ _ _).trans (hx4.below (by rw [heap_size_alloc, heap_size_alloc]; omega) (fun k hk => by omega))
  have c0 := one_cell hk4
  have f0 := one_free hk4 0
  have HK4 := Lib.hid hk4
  have HI4 := Lib.hid hi4
  have HB4 := Lib.hid hb4
  clear hk4 hi4 hx4 hb4
  go_wp2_with fail
  have k0 := one_set (u := .pointer (some ⟨w.heap.size + 1, 0, none⟩)) HK4.out
  have d0 := one_cell k0
  exact bodyPost_ret (v := .agg #[.pointer (some ⟨w.heap.size + 1, 0, none⟩)]) (by simp [results, Tryz.results99, go_sem, d0]) rfl
    ⟨_, rfl, HI4.out.store HK4.out (by decide) (by decide) _, HB4.out.setCell (p := ⟨w.heap.size, 0, none⟩) (Nat.le_refl _) _, by omega⟩

set_option maxRecDepth 100000 in
set_option maxHeartbeats 2000000 in
theorem integer_walk (l : List UInt8) (p : Addr) (w : World) (hok : readOk l = true) (hl : l.length ≤ 1000) (hp : EofIs w p) (ho : overI (readZ l) = false) :
    Calls Tryz.prog 70 #[.string (S l)] w (MadePost w (readZ l)) := by
  have hwl := read_words hok hl
  go_enter Tryz.func70, Tryz.ntmps70
  go_wp2_with fail
  refine (number_walk l p _ hok hl (hp.below (below_a1 _ _))).mono ?_
  rintro e w2 ⟨gz, rfl, hi2, hb2, hgz⟩
  have hk2 := (hb2.block w.heap.size (by rw [heap_size_alloc]; omega)).trans (heap_here w (.cells #[.pointer none] 55))
  have hb02 := bt (below_a1 w (.cells #[.pointer none] 55)) hb2
  have HK2 := Lib.hid hk2
  have HI2 := Lib.hid hi2
  have HB2 := Lib.hid hb02
  clear hk2 hi2 hb02 hb2
  go_wp2_with fail
  refine (newInt_walk gz (readZ l) w2 HI2.out (by omega) ho).mono ?_
  rintro e w5 ⟨g5, rfl, hi5, hb5, hfr⟩
  have hk5 := (hb5.block w.heap.size (iter_lt HK2.out)).trans HK2.out
  have c0 := one_cell hk5
  have f0 := one_free hk5 0
  have HK5 := Lib.hid hk5
  have HI5 := Lib.hid hi5
  have HB5 := Lib.hid hb5
  clear hk5 hi5 hb5
  go_wp2_with fail
  have k0 := one_set (u := .pointer (some ⟨g5, 0, none⟩)) HK5.out
  have d0 := one_cell k0
  exact bodyPost_ret (v := .agg #[.pointer (some ⟨g5, 0, none⟩)]) (by simp [results, Tryz.results70, go_sem, d0]) rfl
    ⟨g5, rfl, HI5.out.store HK5.out (by decide) (by decide) _, (bt HB2.out HB5.out).setCell (p := ⟨w.heap.size, 0, none⟩) (Nat.le_refl _) _, Nat.le_trans HB2.out.size hfr⟩

set_option maxRecDepth 100000 in
set_option maxHeartbeats 1000000 in
theorem intStringI_walk (g : Nat) (z : Int) (w : World) (hz : IntAt w g z) (hl : natLen z.natAbs ≤ 320) (hleaf : LeafIs w) :
    Calls Tryz.prog 36 #[.agg #[.pointer (some ⟨g, 0, none⟩)]] w fun e w' => e = .returned (.string (S (zText z))) ∧ Below w.heap.size w w' := by
  have HI := Lib.hid (intString_walk g z (w.alloc (.cells #[.pointer (some ⟨g, 0, none⟩)] 55)) (hz.below (below_a1 _ _)) hl (hleaf.below (below_a1 _ _)))
  clear hz
  go_enter Tryz.func36, Tryz.ntmps36
  go_wp2_with fail
  refine HI.out.mono ?_
  rintro e w1 ⟨rfl, hb⟩
  have HB := Lib.hid hb
  clear hb
  go_wp2_with fail
  go_ret
  exact ⟨rfl, bt (below_a1 _ _) HB.out⟩
theorem overI_len {z : Int} (h : overI z = false) : natLen z.natAbs ≤ 320 := by
  have := of_decide_eq_false h
  omega

set_option maxRecDepth 100000 in
set_option maxHeartbeats 1000000 in
theorem newIntegerFromString_walk (l : List UInt8) (p : Addr) (w : World) (hok : readOk l = true) (hl : l.length ≤ 1000) (hp : EofIs w p) :
    Calls Tryz.prog 106 #[.string (S l)] w fun e w' => ∃ g, e = .returned (.tuple #[.pointer (some ⟨g, 0, none⟩), .bool true]) ∧ IntAt w' g (readZ l) ∧ Below w.heap.size w w' := by
  have hpl := hp.lt
  have HS := Lib.hid (setString0_walk w.heap.size l p _ hok hl (heap_here w _) (hp.below (below_a1 _ _)) (by omega))
  clear hp
  go_enter Tryz.func106, Tryz.ntmps106
  go_wp2_with fail
  refine HS.out.mono ?_
  rintro e w1 ⟨rfl, hi1, hx1⟩
  have HI1 := Lib.hid hi1
  have HB1 := Lib.hid ((below_a1 _ _).trans (hx1.below (B := w.heap.size) (by rw [heap_size_alloc]; omega) (fun k hk => by omega)))
  clear hi1 hx1
  go_wp2_with fail
  exact bodyPost_ret (v := .tuple #[.pointer (some ⟨w.heap.size, 0, none⟩), .bool true]) (by simp [results, Tryz.results106, go_sem]) rfl ⟨_, rfl, HI1.out, HB1.out⟩

def NifsPost (w : World) (z : Int) (e : Ending) (w' : World) : Prop :=
  if overI z = true then e = .returned (.tuple #[.agg #[.pointer none], .bool false]) ∧ Below w.heap.size w w'
  else ∃ g, e = .returned (.tuple #[.agg #[.pointer (some ⟨g, 0, none⟩)], .bool true]) ∧ IntAt w' g z ∧ Below w.heap.size w w'
set_option maxRecDepth 100000 in
set_option maxHeartbeats 2000000 in
theorem newIntFromString_walk (l : List UInt8) (p : Addr) (w : World) (hok : readOk l = true) (hl : l.length ≤ 1000) (hp : EofIs w p) :
    Calls Tryz.prog 79 #[.string (S l)] w (NifsPost w (readZ l)) := by
  have hwl := read_words hok hl
  have HN := Lib.hid (newIntegerFromString_walk l p _ hok hl (hp.below (below_a1 w (.cells #[.pointer none] 55))))
  clear hp
  obtain ⟨z, hz⟩ : ∃ z, readZ l = z := ⟨_, rfl⟩
  rw [hz] at HN hwl ⊢
  clear hz
  cases ho : overI z with
  | true =>
    have HO := Lib.hid ho
    have hpost : ∀ e w', e = .returned (.tuple #[.agg #[.pointer none], .bool false]) ∧ Below w.heap.size w w' → NifsPost w z e w' := fun e w' h => by unfold NifsPost; rw [if_pos ho]; exact h
    have HPO := Lib.hid hpost
    clear ho hpost
    go_enter Tryz.func79, Tryz.ntmps79
    go_wp2_with fail
    refine HN.out.mono ?_
    rintro e w1 ⟨g, rfl, hi1, hb1⟩
    have hk1 := (hb1.block w.heap.size (by rw [heap_size_alloc]; omega)).trans (heap_here w (.cells #[.pointer none] 55))
    have c0 := one_cell hk1
    have HB1 := Lib.hid (bt (below_a1 _ _) hb1)
    have HI1 := Lib.hid hi1
    clear hi1 hb1 hk1
    go_wp2_with fail
    refine (bigOver_walk g z w1 HI1.out (by omega)).mono ?_
    rw [HO.out]
    rintro e w2 ⟨rfl, rfl⟩
    go_wp2_with fail
    exact bodyPost_ret (v := .tuple #[.agg #[.pointer none], .bool false]) (by simp [results, Tryz.results79, go_sem, c0]) rfl (HPO.out _ _ ⟨rfl, HB1.out⟩)
  | false =>
    have HO := Lib.hid ho
    have hpost : ∀ e w', (∃ g, e = .returned (.tuple #[.agg #[.pointer (some ⟨g, 0, none⟩)], .bool true]) ∧ IntAt w' g z ∧ Below w.heap.size w w') → NifsPost w z e w' := fun e w' h => by unfold NifsPost; rw [if_neg (by rw [ho]; decide)]; exact h
    have HPO := Lib.hid hpost
    clear ho hpost
    go_enter Tryz.func79, Tryz.ntmps79
    go_wp2_with fail
    refine HN.out.mono ?_
    rintro e w1 ⟨g, rfl, hi1, hb1⟩
    have hk1 := (hb1.block w.heap.size (by rw [heap_size_alloc]; omega)).trans (heap_here w (.cells #[.pointer none] 55))
    have c0 := one_cell hk1
    have f0 := one_free hk1 0
    have HK1 := Lib.hid hk1
    have HB1 := Lib.hid (bt (below_a1 _ _) hb1)
    have HI1 := Lib.hid hi1
    clear hi1 hb1 hk1
    go_wp2_with fail
    refine (bigOver_walk g z w1 HI1.out (by omega)).mono ?_
    rw [HO.out]
    rintro e w2 ⟨rfl, rfl⟩
    go_wp2_with fail
    have k0 := one_set (u := .pointer (some ⟨g, 0, none⟩)) HK1.out
    have d0 := one_cell k0
    exact bodyPost_ret (v := .tuple #[.agg #[.pointer (some ⟨g, 0, none⟩)], .bool true]) (by simp [results, Tryz.results79, go_sem, d0]) rfl
      (HPO.out _ _ ⟨g, rfl, HI1.out.store HK1.out (by decide) (by decide) _, HB1.out.setCell (p := ⟨w.heap.size, 0, none⟩) (Nat.le_refl _) _⟩)

def readOutI (l : List UInt8) : List UInt8 := if overI (readZ l) = true then [] else zText (readZ l)
set_option maxRecDepth 100000 in
set_option maxHeartbeats 2000000 in
theorem intReadC_walk (l : List UInt8) (p : Addr) (b1 b2 b3 : Nat) (w : World) (hok : readOk l = true) (hl : l.length ≤ 1000) (hp : EofIs w p) (hleaf : LeafIs w) (h1 : w.heap[b1]? = some (.cells #[.string (S l)] 9 (0, 0)))
    (h2 : w.heap[b2]? = some (.cells #[.string ⟨#[]⟩] 9 (0, 0))) (h3 : w.heap[b3]? = some (.cells #[.bool false] 4 (0, 0))) (hne : b2 ≠ b3) :
    Calls Tryz.prog 78 #[.pointer (some ⟨b1, 0, none⟩), .pointer (some ⟨b2, 0, none⟩), .pointer (some ⟨b3, 0, none⟩)] w fun e w' => e = .returned (.tuple #[]) ∧ Ext (fun k => k = b2 ∨ k = b3) w w' ∧
      w'.heap[b2]? = some (.cells #[.string (S (readOutI l))] 9 (0, 0)) ∧ w'.heap[b3]? = some (.cells #[.bool (!overI (readZ l))] 4 (0, 0)) := by
  have c1 := one_cell h1
  have hl2 := iter_lt h2
  have hl3 := iter_lt h3
  have H2 := Lib.hid h2
  have H3 := Lib.hid h3
  clear h1 h2 h3
  have HN := Lib.hid (newIntFromString_walk l p w hok hl hp)
  cases ho : overI (readZ l) with
  | true =>
    have hro : readOutI l = [] := by unfold readOutI; rw [if_pos ho]
    have hnp : ∀ e w', NifsPost w (readZ l) e w' → e = .returned (.tuple #[.agg #[.pointer none], .bool false]) ∧ Below w.heap.size w w' := fun e w' h => by unfold NifsPost at h; rw [if_pos ho] at h; exact h
    have HNP := Lib.hid hnp
    rw [hro]
    clear ho hro hnp
    go_enter Tryz.func78, Tryz.ntmps78
    go_wp2_with fail
    refine HN.out.mono ?_
    intro e w1 hpost
    obtain ⟨rfl, hb1⟩ := HNP.out _ _ hpost
    have HB := Lib.hid hb1
    clear hb1 hpost
    go_wp2_with fail
    go_end0
    exact ⟨rfl, Ext.of_below (bt HB.out (below_a1 _ _)), heap_old ((HB.out.block b2 hl2).trans H2.out), heap_old ((HB.out.block b3 hl3).trans H3.out)⟩
  | false =>
    have hro : readOutI l = zText (readZ l) := by unfold readOutI; rw [if_neg (by rw [ho]; decide)]
    have hnl := overI_len ho
    have hnp : ∀ e w', NifsPost w (readZ l) e w' → ∃ g, e = .returned (.tuple #[.agg #[.pointer (some ⟨g, 0, none⟩)], .bool true]) ∧ IntAt w' g (readZ l) ∧ Below w.heap.size w w' := fun e w' h => by unfold NifsPost at h; rw [if_neg (by rw [ho]; decide)] at h; exact h
    have HNP := Lib.hid hnp
    rw [hro]
    clear ho hro hnp
    go_enter Tryz.func78, Tryz.ntmps78
    go_wp2_with fail
    refine HN.out.mono ?_
    intro e w1 hpost
    obtain ⟨g, rfl, hi1, hb1⟩ := HNP.out _ _ hpost
    have HB := Lib.hid hb1
    have HI := Lib.hid hi1
    clear hb1 hi1 hpost
    go_wp2_with fail
    refine (intStringI_walk g (readZ l) _ (HI.out.below (below_a1 _ _)) hnl ((hleaf.below HB.out).below (below_a1 _ _))).mono ?_
    rintro e w2 ⟨rfl, hb2⟩
    have hbb := bt (bt HB.out (below_a1 w1 (.cells #[.pointer (some ⟨g, 0, none⟩)] 55))) hb2
    have k2 := (hbb.block b2 hl2).trans H2.out
    have k3 := (hbb.block b3 hl3).trans H3.out
    have c2 := one_cell k2
    have c3 := one_cell k3
    have f2 := one_free k2 0
    have f3 := one_free k3 0
    have K2 := Lib.hid k2
    have K3 := Lib.hid k3
    have HBB := Lib.hid hbb
    clear k2 k3 hbb hb2
    go_wp2_with fail
    go_end0
    refine ⟨rfl, (((Ext.of_below HBB.out).setCell (p := ⟨b2, 0, none⟩) (fun _ => .inl rfl) _).setCell (p := ⟨b3, 0, none⟩) (fun _ => .inr rfl) _), ?_, ?_⟩
    · rw [one_other hne]
      exact one_set K2.out
    · exact one_set ((one_other (a := ⟨b2, 0, none⟩) hne.symm).trans K3.out)

set_option maxRecDepth 100000 in
theorem callCIntRead : ∀ (caps : Array Value) (w : World), (callFunc 78 caps).run Tryz.prog w = .ok (.enter 78 caps) w := fun _ _ => by rfl
set_option maxRecDepth 100000 in
set_option maxHeartbeats 2000000 in
theorem intRead_walk (l : List UInt8) (p : Addr) (w : World) (hok : readOk l = true) (hl : l.length ≤ 1000) (hp : EofIs w p) (hleaf : LeafIs w) :
    Calls Tryz.prog 33 #[.string (S l)] w fun e w' => e = .returned (.tuple #[.string (S (readOutI l)), .bool (!overI (readZ l))]) ∧ Below w.heap.size w w' := by
  have hmf : ∀ (fn : Fn) (first cap : Array Value) (w : World), (Instr.makeFunc fn first cap).run Tryz.prog w = .ok (.func fn first cap) w := fun _ _ _ _ => rfl
  go_enter Tryz.func33, Tryz.ntmps33
  go_wp2_with fail
  refine (safe_ret 78 _ _ (fun w' => Below w.heap.size w w' ∧ w'.heap[w.heap.size + 1]? = some (.cells #[.string (S (readOutI l))] 9 (0, 0)) ∧ w'.heap[w.heap.size + 1 + 1]? = some (.cells #[.bool (!overI (readZ l))] 4 (0, 0))) (callCIntRead _) ?_).mono ?_
  · refine (intReadC_walk l p _ _ _ _ hok hl ((((hp.below (below_a1 _ _)).below (below_a1 _ _)).below (below_a1 _ _)).below (below_a1 _ _)) ((((hleaf.below (below_a1 _ _)).below (below_a1 _ _)).below (below_a1 _ _)).below (below_a1 _ _)) ?_ ?_ ?_ ?_).mono ?_
    · simp only [heap_get, heap_size_alloc]
      rw [if_neg (by omega), if_neg (by omega), if_neg (by omega), if_pos trivial]
    · simp only [heap_get, heap_size_alloc]
      rw [if_neg (by omega), if_neg (by omega), if_pos trivial]
    · simp only [heap_get, heap_size_alloc]
      rw [if_neg (by omega), if_pos trivial]
    · omega
    · rintro e w1 ⟨rfl, he, k2, k3⟩
      have hz := he.size
      simp only [heap_size_alloc] at hz
      refine ⟨rfl, ?_, ?_, ?_, ?_⟩
      · rw [he.block _ (by simp only [heap_size_alloc]; omega) (by simp only [heap_size_alloc]; omega)]
        simp only [heap_get, heap_size_alloc]
        rw [if_pos trivial]
      · refine Below.setCell (Below.setCell ?_ (by simp only [heap_size_alloc]; omega) _) (by simp only [heap_size_alloc]; omega) _
        exact ((((Below.refl _ w).alloc (Nat.le_refl _) _).alloc (by simp only [heap_size_alloc]; omega) _).alloc (by simp only [heap_size_alloc]; omega) _).alloc (by simp only [heap_size_alloc]; omega) _ |>.trans (he.below (by simp only [heap_size_alloc]; omega) (by rintro k (rfl | rfl) <;> omega))
      · rw [one_other (by simp only [heap_size_alloc]; omega), one_other (by simp only [heap_size_alloc]; omega)]
        exact k2
      · rw [one_other (by simp only [heap_size_alloc]; omega), one_other (by simp only [heap_size_alloc]; omega)]
        exact k3
  · rintro e w1 ⟨rfl, hb, k2, k3⟩
    have c2 := one_cell k2
    have c3 := one_cell k3
    have f2 := one_free k2 0
    have f3 := one_free k3 0
    have K2 := Lib.hid k2
    have K3 := Lib.hid k3
    clear k2 k3
    obtain ⟨b, hob⟩ : ∃ b, overI (readZ l) = b := ⟨_, rfl⟩
    have hro : b = true → readOutI l = [] := fun h => by unfold readOutI; rw [if_pos (hob.trans h)]
    rw [hob] at c3 K3
    cases b with
    | true =>
      have HRO := Lib.hid (hro rfl)
      have HOB := Lib.hid hob
      clear hob hro
      go_wp2_with fail
      have e2 := (one_other (u := .bool false) (w := w1.setCell ⟨w.heap.size + 1, 0, none⟩ (.string ⟨#[]⟩)) (g := w.heap.size + 1) (a := ⟨w.heap.size + 1 + 1, 0, none⟩) (by simp)).trans (one_set (u := .string ⟨#[]⟩) K2.out)
      have e3 := one_set (u := .bool false) ((one_other (u := .string ⟨#[]⟩) (w := w1) (g := w.heap.size + 1 + 1) (a := ⟨w.heap.size + 1, 0, none⟩) (by simp)).trans K3.out)
      have d2 := one_cell e2
      have d3 := one_cell e3
      exact bodyPost_ret (v := .tuple #[.string (S []), .bool false]) (by simp [results, Tryz.results33, go_sem, d2, d3]; rfl) rfl ⟨by rw [HRO.out, HOB.out]; rfl, (hb.setCell (p := ⟨w.heap.size + 1, 0, none⟩) (by simp) _).setCell (p := ⟨w.heap.size + 1 + 1, 0, none⟩) (by simp; omega) _⟩
    | false =>
      have HOB := Lib.hid hob
      clear hob hro
      go_wp2_with fail
      have e2 := (one_other (u := .bool true) (w := w1.setCell ⟨w.heap.size + 1, 0, none⟩ (.string (S (readOutI l)))) (g := w.heap.size + 1) (a := ⟨w.heap.size + 1 + 1, 0, none⟩) (by simp)).trans (one_set (u := .string (S (readOutI l))) K2.out)
      have e3 := one_set (u := .bool true) ((one_other (u := .string (S (readOutI l))) (w := w1) (g := w.heap.size + 1 + 1) (a := ⟨w.heap.size + 1, 0, none⟩) (by simp)).trans K3.out)
      have d2 := one_cell e2
      have d3 := one_cell e3
      exact bodyPost_ret (v := .tuple #[.string (S (readOutI l)), .bool true]) (by simp [results, Tryz.results33, go_sem, d2, d3]) rfl ⟨by rw [HOB.out]; rfl, (hb.setCell (p := ⟨w.heap.size + 1, 0, none⟩) (by simp) _).setCell (p := ⟨w.heap.size + 1 + 1, 0, none⟩) (by simp; omega) _⟩
end Go.Proofs.YtapfolgiafnllaaGreatDoor
