/-
  The walk of laws.FnUintMost.
-/
import Derived.Test.YthipbglnaalhmaaGreatDoorSpecUint
import Derived.Test.YthipbglnaalhmaaGreatDoorMostTop
import Derived.Test.YthipbglnaalhmaaGreatDoorAwake
import Derived.Deep.RegionHeld3
import Derived.Deep.RegionWith
namespace Go.Proofs.YthipbglnaalhmaaGreatDoor
open Go.RowKit

theorem over_fits (z : Int) : overU z = (decide (z < 0) || !decide (z.natAbs < 2 ^ 256)) := by
  unfold overU
  congr 1
  by_cases h : z.natAbs < 2 ^ 256
  · rw [decide_eq_true h, decide_eq_false (by have := (natLen_lt_iff z.natAbs 256).2 h; omega)]; rfl
  · rw [decide_eq_false h, decide_eq_true (by
      refine Nat.lt_of_not_le fun hle => h ((natLen_lt_iff z.natAbs 256).1 hle))]; rfl
/-- What a text that spec.Uint takes is. -/
theorem uintOk_parts {l : List UInt8} (h : uintOk l = true) : readOk l = true ∧ l.length ≤ 1000 ∧ overU (readZ l) = false ∧ (toD 10 (readZ l).natAbs).length ≤ 1000000 := by
  unfold uintOk intOk at h
  simp only [Bool.and_eq_true, decide_eq_true_eq] at h
  obtain ⟨⟨h1, h2, h3⟩, h4⟩ := h
  refine ⟨h2, by omega, ?_, ?_⟩
  · rw [over_fits, decide_eq_true h3]
    simpa using h4
  · exact Nat.le_trans (toD_length_le (by decide) 100 _ (Nat.lt_of_lt_of_le h3 (by decide))) (by decide)

/-- Two variables of the reference's numbers. -/
def TwoNums (w : World) (b1 : Bool) (A1 : Option Addr) (n1 c1 : Nat) (b2 : Bool) (A2 : Option Addr) (n2 c2 : Nat) (xv yv : Value) (wx : World) : Prop :=
  ∃ gx gy, xv = .pointer (some ⟨gx, 0, none⟩) ∧ yv = .pointer (some ⟨gy, 0, none⟩) ∧ gx ≠ gy ∧ w.heap.size ≤ gx ∧ w.heap.size ≤ gy ∧
    wx.heap[gx]? = some (.cells #[.bool b1, .slice A1 n1 c1] 29 (0, 0)) ∧ wx.heap[gy]? = some (.cells #[.bool b2, .slice A2 n2 c2] 29 (0, 0)) ∧ Below w.heap.size w wx
theorem twoNums_xy (w : World) (b1 : Bool) (A1 : Option Addr) (n1 c1 : Nat) (b2 : Bool) (A2 : Option Addr) (n2 c2 : Nat) :
    TwoNums w b1 A1 n1 c1 b2 A2 n2 c2 (.pointer (some ⟨w.heap.size, 0, none⟩)) (.pointer (some ⟨w.heap.size + 1, 0, none⟩)) ((w.alloc (.cells #[.bool b1, .slice A1 n1 c1] 29)).alloc (.cells #[.bool b2, .slice A2 n2 c2] 29)).drew :=
  ⟨_, _, rfl, rfl, by omega, by omega, by omega, heap_old (heap_here _ _), heap_at _ _ (heap_size_alloc _ _), (below_a2 _ _ _).drew⟩
theorem twoNums_yx (w : World) (b1 : Bool) (A1 : Option Addr) (n1 c1 : Nat) (b2 : Bool) (A2 : Option Addr) (n2 c2 : Nat) :
    TwoNums w b1 A1 n1 c1 b2 A2 n2 c2 (.pointer (some ⟨w.heap.size + 1, 0, none⟩)) (.pointer (some ⟨w.heap.size, 0, none⟩)) ((w.alloc (.cells #[.bool b2, .slice A2 n2 c2] 29)).alloc (.cells #[.bool b1, .slice A1 n1 c1] 29)).drew :=
  ⟨_, _, rfl, rfl, by omega, by omega, by omega, heap_at _ _ (heap_size_alloc _ _), heap_old (heap_here _ _), (below_a2 _ _ _).drew⟩
theorem isNum_set2 {w : World} {b : Nat} {x : Bool} {A : Option Addr} {n c : Nat} {T : TypeId} {u v k : Value} {z : Int} (hk : w.heap[b]? = some (.cells #[.bool x, .slice A n c] T (0, 0))) (h : IsNum w k z) :
    IsNum ((w.setCell ⟨b, 0, none⟩ u).setCell ⟨b, 1, none⟩ v) k z := by
  obtain ⟨B, d, h1, h2, h3, h4⟩ := h
  exact ⟨B, d, h1, h2, h3, rd_set2 hk h4⟩
theorem heap_set2 {w : World} {b k : Nat} {u v : Value} (h : k ≠ b) : ((w.setCell ⟨b, 0, none⟩ u).setCell ⟨b, 1, none⟩ v).heap[k]? = w.heap[k]? :=
  (one_other h).trans (one_other h)
/-- What the exchange leaves. -/
theorem swapped {w : World} {x y k : Nat} {b1 b2 b3 b4 : Bool} {A1 A2 A3 A4 : Option Addr} {n1 c1 n2 c2 n3 c3 n4 c4 : Nat} (hne : x ≠ y) (hx : k ≤ x) (hy : k ≤ y) (hkw : k ≤ w.heap.size)
    (kx : w.heap[x]? = some (.cells #[.bool b1, .slice A1 n1 c1] 29 (0, 0))) (ky : w.heap[y]? = some (.cells #[.bool b2, .slice A2 n2 c2] 29 (0, 0))) (wT : World)
    (h : ((((w.setCell ⟨x, 0, none⟩ (.bool b3)).setCell ⟨x, 1, none⟩ (.slice A3 n3 c3)).setCell ⟨y, 0, none⟩ (.bool b4)).setCell ⟨y, 1, none⟩ (.slice A4 n4 c4)).drew = wT) :
    wT.heap[x]? = some (.cells #[.bool b3, .slice A3 n3 c3] 29 (0, 0)) ∧ wT.heap[y]? = some (.cells #[.bool b4, .slice A4 n4 c4] 29 (0, 0)) ∧ Below k w wT ∧ (∀ v z, IsNum w v z → IsNum wT v z) := by
  obtain ⟨w1, hw1⟩ : ∃ w1, (w.setCell ⟨x, 0, none⟩ (.bool b3)).setCell ⟨x, 1, none⟩ (.slice A3 n3 c3) = w1 := ⟨_, rfl⟩
  rw [hw1] at h
  have k1 : w1.heap[x]? = some (.cells #[.bool b3, .slice A3 n3 c3] 29 (0, 0)) := by rw [← hw1]; exact cells_set (cells_set kx 0 (.bool b3)) 1 (.slice A3 n3 c3)
  have k2 : w1.heap[y]? = some (.cells #[.bool b2, .slice A2 n2 c2] 29 (0, 0)) := by rw [← hw1]; exact (heap_set2 hne.symm).trans ky
  have hb1 : Below k w w1 := by rw [← hw1]; exact ((Below.refl k w).setCell (p := ⟨x, 0, none⟩) hx _).setCell (p := ⟨x, 1, none⟩) hx _
  have hn1 : ∀ v z, IsNum w v z → IsNum w1 v z := fun v z hv => by rw [← hw1]; exact isNum_set2 kx hv
  clear hw1
  obtain ⟨w2, hw2⟩ : ∃ w2, (w1.setCell ⟨y, 0, none⟩ (.bool b4)).setCell ⟨y, 1, none⟩ (.slice A4 n4 c4) = w2 := ⟨_, rfl⟩
  rw [hw2] at h
  have k3 : w2.heap[y]? = some (.cells #[.bool b4, .slice A4 n4 c4] 29 (0, 0)) := by rw [← hw2]; exact cells_set (cells_set k2 0 (.bool b4)) 1 (.slice A4 n4 c4)
  have k4 : w2.heap[x]? = some (.cells #[.bool b3, .slice A3 n3 c3] 29 (0, 0)) := by rw [← hw2]; exact (heap_set2 hne).trans k1
  have hb2 : Below k w1 w2 := by rw [← hw2]; exact ((Below.refl k w1).setCell (p := ⟨y, 0, none⟩) hy _).setCell (p := ⟨y, 1, none⟩) hy _
  have hn2 : ∀ v z, IsNum w1 v z → IsNum w2 v z := fun v z hv => by rw [← hw2]; exact isNum_set2 k2 hv
  clear hw2
  subst h
  exact ⟨k4, k3, (hb1.trans hb2).drew, fun v z hv => hn2 v z (hn1 v z hv)⟩

set_option maxRecDepth 100000 in
set_option maxHeartbeats 4000000 in
theorem fnUintMost_walk (l1 l2 : List UInt8) (p : Addr) (w : World) (hl1 : l1.length ≤ 140737488355328) (hl2 : l2.length ≤ 140737488355328) (hp : EofIs w p) (hleaf : LeafIs w) :
    Calls Tryz.prog 10 #[.string (S l1), .string (S l2)] w fun e w' => e = .returned (.bool true) ∧ Below w.heap.size w w' := by
  by_cases h1 : l1.length ≤ 2147483647
  · by_cases h2 : l2.length ≤ 2147483647
    · have h1' : decide ((2147483647 : Int) < l1.length) = false := decide_eq_false (by omega)
      have h2' : decide ((2147483647 : Int) < l2.length) = false := decide_eq_false (by omega)
      have HS1 := Lib.hid (fun w => specUint_walk l1 w hl1)
      have HS2 := Lib.hid (fun w => specUint_walk l2 w hl2)
      by_cases ho : uintOk l1 = true ∧ uintOk l2 = true
      · obtain ⟨o1, o2⟩ := ho
        obtain ⟨r1, q1, v1, d1⟩ := uintOk_parts o1
        obtain ⟨r2, q2, v2, d2⟩ := uintOk_parts o2
        have hmo : ∀ (w : World) (hp : EofIs w p) (hleaf : LeafIs w), _ := fun w hp hleaf => implUintMost_walk l1 l2 p w r1 r2 q1 q2 hp hleaf v1 v2
        have hle : ∀ (w : World) (hp : EofIs w p) (hleaf : LeafIs w), _ := fun w hp hleaf => implUintLeast_walk l1 l2 p w r1 r2 q1 q2 hp hleaf v1 v2
        rw [o1] at HS1
        rw [o2] at HS2
        obtain ⟨z1, hz1⟩ : ∃ z1, readZ l1 = z1 := ⟨_, rfl⟩
        obtain ⟨z2, hz2⟩ : ∃ z2, readZ l2 = z2 := ⟨_, rfl⟩
        rw [hz1] at HS1 d1 hmo hle
        rw [hz2] at HS2 d2 hmo hle
        obtain ⟨T1, hT1⟩ : ∃ T1, zText (maxZ z1 z2) = T1 := ⟨_, rfl⟩
        obtain ⟨T2, hT2⟩ : ∃ T2, zText (minZ z1 z2) = T2 := ⟨_, rfl⟩
        rw [hT1] at hmo
        rw [hT2] at hle
        have HT1 := Lib.hid hT1
        have HT2 := Lib.hid hT2
        have HMO := Lib.hid hmo
        have HLE := Lib.hid hle
        have HP := Lib.hid hp
        have HLF := Lib.hid hleaf
        have HD1 := Lib.hid d1
        have HD2 := Lib.hid d2
        clear hmo hle hp hleaf hT1 hT2 hz1 hz2 o1 o2 r1 r2 q1 q2 v1 v2 hl1 hl2 d1 d2
        go_enter Tryz.func10, Tryz.ntmps10
        go_wp2_with fail
        refine (HS1.out _).mono ?_
        rintro e w1 ⟨b1, A1, n1, c1, rfl, hn1, hb1⟩
        have hn1 := hn1 rfl
        have HN1 := Lib.hid hn1
        clear hn1
        go_wp2_with fail
        refine (HS2.out _).mono ?_
        rintro e w2 ⟨b2, A2, n2, c2, rfl, hn2, hb2⟩
        have hn2 := hn2 rfl
        have k5 := (hb2.block w1.heap.size (by rw [heap_size_alloc]; omega)).trans (heap_here w1 (.cells #[.bool b1, .slice A1 n1 c1] 29))
        have hbw := bt (bt hb1 (below_a1 w1 (.cells #[.bool b1, .slice A1 n1 c1] 29))) hb2
        have hlt := iter_lt k5
        have hN1 := HN1.out.below (bt (below_a1 w1 (.cells #[.bool b1, .slice A1 n1 c1] 29)) hb2)
        obtain ⟨wB, hwB⟩ : ∃ wB, w2.alloc (.cells #[.bool b2, .slice A2 n2 c2] 29) = wB := ⟨_, rfl⟩
        have k5B : wB.heap[w1.heap.size]? = some (.cells #[.bool b1, .slice A1 n1 c1] 29 (0, 0)) := by rw [← hwB]; exact heap_old k5
        have k7B : wB.heap[w2.heap.size]? = some (.cells #[.bool b2, .slice A2 n2 c2] 29 (0, 0)) := by rw [← hwB]; exact heap_here _ _
        have hbB : Below w.heap.size w wB := by rw [← hwB]; exact bt hbw (below_a1 _ _)
        have hN1B : IsNum wB (.agg #[.bool b1, .slice A1 n1 c1]) z1 := by rw [← hwB]; exact hN1.below (below_a1 _ _)
        have hN2B : IsNum wB (.agg #[.bool b2, .slice A2 n2 c2]) z2 := by rw [← hwB]; exact hn2.below (below_a1 _ _)
        have hszB : w.heap.size ≤ w1.heap.size := hb1.size
        have HWB := Lib.hid hwB
        have K5 := Lib.hid k5B
        have K7 := Lib.hid k7B
        have HBB := Lib.hid hbB
        have HN1 := Lib.hid hN1B
        have HN2 := Lib.hid hN2B
        clear k5 hbw hN1 hwB k5B k7B hbB hN1B hN2B hn2 hb1 hb2
        go_upto_region 7 with fail
        rw [HWB.out]
        go_cut [9, 10] (fun xv yv wx => TwoNums wB b1 A1 n1 c1 b2 A2 n2 c2 xv yv wx)
        case first =>
          have a0 := num_cell0 K5.out
          have a1 := num_cell1 K5.out
          have a2 := num_cell0 K7.out
          have a3 := num_cell1 K7.out
          have ltB5 := iter_lt K5.out
          have ltB7 := iter_lt K7.out
          have a4 : ∀ X, (wB.alloc X).cell? ⟨w1.heap.size, 0, none⟩ = some (.bool b1) := fun X => num_cell0 (heap_old K5.out)
          have a5 : ∀ X, (wB.alloc X).cell? ⟨w1.heap.size, 1, none⟩ = some (.slice A1 n1 c1) := fun X => num_cell1 (heap_old K5.out)
          have a6 : ∀ X, (wB.alloc X).cell? ⟨w2.heap.size, 0, none⟩ = some (.bool b2) := fun X => num_cell0 (heap_old K7.out)
          have a7 : ∀ X, (wB.alloc X).cell? ⟨w2.heap.size, 1, none⟩ = some (.slice A2 n2 c2) := fun X => num_cell1 (heap_old K7.out)
          have a8 : ∀ X Y, ((wB.alloc X).alloc Y).cell? ⟨w1.heap.size, 0, none⟩ = some (.bool b1) := fun X Y => num_cell0 (heap_old (heap_old K5.out))
          have a9 : ∀ X Y, ((wB.alloc X).alloc Y).cell? ⟨w1.heap.size, 1, none⟩ = some (.slice A1 n1 c1) := fun X Y => num_cell1 (heap_old (heap_old K5.out))
          have a10 : ∀ X Y, ((wB.alloc X).alloc Y).cell? ⟨w2.heap.size, 0, none⟩ = some (.bool b2) := fun X Y => num_cell0 (heap_old (heap_old K7.out))
          have a11 : ∀ X Y, ((wB.alloc X).alloc Y).cell? ⟨w2.heap.size, 1, none⟩ = some (.slice A2 n2 c2) := fun X Y => num_cell1 (heap_old (heap_old K7.out))
          go_region
          all_goals
            go_wp2_with fail
            go_meet
            first | exact twoNums_xy _ _ _ _ _ _ _ _ _ | exact twoNums_yx _ _ _ _ _ _ _ _ _
        case rest =>
          obtain ⟨gx, gy, rfl, rfl, hne, hgx, hgy, kx, ky, hbx⟩ := hcut
          have k5 := (hbx.block w1.heap.size (iter_lt K5.out)).trans K5.out
          have k7 := (hbx.block w2.heap.size (iter_lt K7.out)).trans K7.out
          have c50 := num_cell0 k5
          have c51 := num_cell1 k5
          have c70 := num_cell0 k7
          have c71 := num_cell1 k7
          have KX := Lib.hid kx
          have KY := Lib.hid ky
          have HBX := Lib.hid hbx
          clear kx ky k5 k7
          by_cases hs : sgnC (z1 - z2) < 0
          · obtain ⟨sc, hsc⟩ : ∃ sc, sgnC (z1 - z2) = sc := ⟨_, rfl⟩
            have HSC := Lib.hid hsc
            rw [hsc] at hs
            go_wp2_with fail
            refine (cmp_walk _ _ z1 z2 _ (HN1.out.below hbx) (HN2.out.below hbx)).mono ?_
            rw [HSC.out]
            rintro e w4 ⟨rfl, hb4⟩
            have hb04 := bt hbx hb4
            have k5 := (hb04.block w1.heap.size (iter_lt K5.out)).trans K5.out
            have k7 := (hb04.block w2.heap.size (iter_lt K7.out)).trans K7.out
            have kx := (hb4.block _ (iter_lt KX.out)).trans KX.out
            have ky := (hb4.block _ (iter_lt KY.out)).trans KY.out
            have c50 := num_cell0 k5
            have c51 := num_cell1 k5
            have c70 := num_cell0 k7
            have c71 := num_cell1 k7
            have cx0 := num_cell0 kx
            have cx1 := num_cell1 kx
            have cy0 := num_cell0 ky
            have cy1 := num_cell1 ky
            have fx0 := one_free kx 0
            have fx1 := one_free kx 1
            have fy0 := one_free ky 0
            have fy1 := one_free ky 1
            have ne1 : gx ≠ w1.heap.size := by have := iter_lt K5.out; omega
            have ne2 : gx ≠ w2.heap.size := by have := iter_lt K7.out; omega
            have ne3 : gy ≠ w1.heap.size := by have := iter_lt K5.out; omega
            have ne4 : gy ≠ w2.heap.size := by have := iter_lt K7.out; omega
            have ne5 := ne1.symm
            have ne6 := ne2.symm
            have ne7 := ne3.symm
            have ne8 := ne4.symm
            have ne9 := hne.symm
            have lX : w.heap.size ≤ gx := Nat.le_trans HBB.out.size hgx
            have lY : w.heap.size ≤ gy := Nat.le_trans HBB.out.size hgy
            have lW : w.heap.size ≤ w4.heap.size := Nat.le_trans HBB.out.size hb04.size
            have SW := Lib.hid (swapped (k := w.heap.size) (b3 := b2) (A3 := A2) (n3 := n2) (c3 := c2) (b4 := b1) (A4 := A1) (n4 := n1) (c4 := c1) hne lX lY lW kx ky)
            have HB4 := Lib.hid (bt HBB.out hb04)
            have hN1' := HN1.out.below hb04
            have hN2' := HN2.out.below hb04
            have HN1' := Lib.hid hN1'
            have HN2' := Lib.hid hN2'
            clear hb4 hb04 hbx k5 k7 kx ky hsc hN1' hN2'
            go_wp2_with fail
            go_region
            all_goals
              obtain ⟨wT, hwT⟩ : ∃ wT, ((((w4.setCell ⟨gx, 0, none⟩ (.bool b2)).setCell ⟨gx, 1, none⟩ (.slice A2 n2 c2)).setCell ⟨gy, 0, none⟩ (.bool b1)).setCell ⟨gy, 1, none⟩ (.slice A1 n1 c1)).drew = wT := ⟨_, rfl⟩
              obtain ⟨k9, k10, hbT, hN⟩ := SW.out wT hwT
              rw [hwT]
              have hbT := HB4.out.trans hbT
              have HBT := Lib.hid hbT
              have K9 := Lib.hid k9
              have K10 := Lib.hid k10
              have hm1 : sc = -1 := by have := HSC.out; unfold sgnC at this; split at this <;> (try split at this) <;> omega
              have hmax : maxZ z1 z2 = z2 := by unfold maxZ; rw [HSC.out, if_pos hm1]
              have hmin : minZ z1 z2 = z1 := by unfold minZ; rw [HSC.out, if_neg (by omega)]
              have HN9 := Lib.hid (hN _ _ HN2'.out)
              have HN10 := Lib.hid (hN _ _ HN1'.out)
              have HT9 := Lib.hid (show numText (decide (z2 < 0)) (toD 10 z2.natAbs) = T1 by have h := HT1.out; rw [hmax] at h; exact h)
              have HT10 := Lib.hid (show numText (decide (z1 < 0)) (toD 10 z1.natAbs) = T2 by have h := HT2.out; rw [hmin] at h; exact h)
              have HD9 := HD2
              have HD10 := HD1
              clear hwT k9 k10 hbT hN hm1 hmax hmin c50 c51 c70 c71 cx0 cx1 cy0 cy1 fx0 fx1 fy0 fy1
              go_wp2_with fail
              refine (HMO.out wT (HP.out.below HBT.out) (HLF.out.below HBT.out)).mono ?_
              rintro e w5 ⟨rfl, hb5⟩
              go_wp2_with fail
              refine (HLE.out w5 (HP.out.below (bt HBT.out hb5)) (HLF.out.below (bt HBT.out hb5))).mono ?_
              rintro e w6 ⟨rfl, hb6⟩
              go_wp2_with fail
              refine (awake_walk _).mono ?_
              rintro e w7 ⟨rfl, hb7⟩
              have hb57 := bt (bt hb5 hb6) hb7
              have k9 := (hb57.block _ (iter_lt K9.out)).trans K9.out
              have c90 := num_cell0 k9
              have c91 := num_cell1 k9
              have HB57 := Lib.hid hb57
              clear k9 hb5 hb6 hb7 hb57
              go_wp2_with fail
              refine (text_walk _ _ _ _ (HN9.out.below HB57.out) (toD_lt (by decide) _) HD9.out).mono ?_
              rw [HT9.out]
              rintro e w8 ⟨rfl, hb8⟩
              have hb58 := bt HB57.out hb8
              have k10 := (hb58.block _ (iter_lt K10.out)).trans K10.out
              have c100 := num_cell0 k10
              have c101 := num_cell1 k10
              have HB58 := Lib.hid hb58
              clear k10 hb8 hb58 c90 c91
              go_wp2_with fail
              refine (text_walk _ _ _ _ (HN10.out.below HB58.out) (toD_lt (by decide) _) HD10.out).mono ?_
              rw [HT10.out]
              rintro e w10 ⟨rfl, hb10⟩
              have HB10 := Lib.hid hb10
              clear hb10
              go_wp2_with fail
              go_ret
              exact ⟨rfl, bt (bt HBT.out HB58.out) HB10.out⟩
          · obtain ⟨sc, hsc⟩ : ∃ sc, sgnC (z1 - z2) = sc := ⟨_, rfl⟩
            have HSC := Lib.hid hsc
            rw [hsc] at hs
            go_wp2_with fail
            refine (cmp_walk _ _ z1 z2 _ (HN1.out.below hbx) (HN2.out.below hbx)).mono ?_
            rw [HSC.out]
            rintro e wT ⟨rfl, hb4⟩
            have hbT := bt (bt HBB.out hbx) hb4
            have HBT := Lib.hid hbT
            have K9 := Lib.hid ((hb4.block _ (iter_lt KX.out)).trans KX.out)
            have K10 := Lib.hid ((hb4.block _ (iter_lt KY.out)).trans KY.out)
            have hmax : maxZ z1 z2 = z1 := by unfold maxZ; rw [HSC.out, if_neg (by omega)]
            have hmin : minZ z1 z2 = z2 := by unfold minZ; rw [HSC.out]; split; rfl; have := HSC.out; unfold sgnC at this; split at this <;> (try split at this) <;> omega
            have HN9 := Lib.hid ((HN1.out.below hbx).below hb4)
            have HN10 := Lib.hid ((HN2.out.below hbx).below hb4)
            have HT9 := Lib.hid (show numText (decide (z1 < 0)) (toD 10 z1.natAbs) = T1 by have h := HT1.out; rw [hmax] at h; exact h)
            have HT10 := Lib.hid (show numText (decide (z2 < 0)) (toD 10 z2.natAbs) = T2 by have h := HT2.out; rw [hmin] at h; exact h)
            have HD9 := HD1
            have HD10 := HD2
            clear hb4 hbT hbx hmax hmin hsc c50 c51 c70 c71
            go_wp2_with fail
            refine (HMO.out wT (HP.out.below HBT.out) (HLF.out.below HBT.out)).mono ?_
            rintro e w5 ⟨rfl, hb5⟩
            go_wp2_with fail
            refine (HLE.out w5 (HP.out.below (bt HBT.out hb5)) (HLF.out.below (bt HBT.out hb5))).mono ?_
            rintro e w6 ⟨rfl, hb6⟩
            go_wp2_with fail
            refine (awake_walk _).mono ?_
            rintro e w7 ⟨rfl, hb7⟩
            have hb57 := bt (bt hb5 hb6) hb7
            have k9 := (hb57.block _ (iter_lt K9.out)).trans K9.out
            have c90 := num_cell0 k9
            have c91 := num_cell1 k9
            have HB57 := Lib.hid hb57
            clear k9 hb5 hb6 hb7 hb57
            go_wp2_with fail
            refine (text_walk _ _ _ _ (HN9.out.below HB57.out) (toD_lt (by decide) _) HD9.out).mono ?_
            rw [HT9.out]
            rintro e w8 ⟨rfl, hb8⟩
            have hb58 := bt HB57.out hb8
            have k10 := (hb58.block _ (iter_lt K10.out)).trans K10.out
            have c100 := num_cell0 k10
            have c101 := num_cell1 k10
            have HB58 := Lib.hid hb58
            clear k10 hb8 hb58 c90 c91
            go_wp2_with fail
            refine (text_walk _ _ _ _ (HN10.out.below HB58.out) (toD_lt (by decide) _) HD10.out).mono ?_
            rw [HT10.out]
            rintro e w10 ⟨rfl, hb10⟩
            have HB10 := Lib.hid hb10
            clear hb10
            go_wp2_with fail
            go_ret
            exact ⟨rfl, bt (bt HBT.out HB58.out) HB10.out⟩
      · by_cases o1 : uintOk l1 = true
        · have o2 : uintOk l2 = false := by
            cases h : uintOk l2 with
            | false => rfl
            | true => exact absurd ⟨o1, h⟩ ho
          rw [o1] at HS1
          rw [o2] at HS2
          clear ho hp hleaf
          go_enter Tryz.func10, Tryz.ntmps10
          go_wp2_with fail
          refine (HS1.out _).mono ?_
          rintro e w1 ⟨b1, A1, n1, c1, rfl, hn1, hb1⟩
          clear hn1
          go_wp2_with fail
          refine (HS2.out _).mono ?_
          rintro e w2 ⟨b2, A2, n2, c2, rfl, hn2, hb2⟩
          clear hn2
          go_wp2_with fail
          refine (awake_walk _).mono ?_
          rintro e w3 ⟨rfl, hb3⟩
          go_wp2_with fail
          go_ret
          exact ⟨rfl, bt (bt (bt (bt hb1 (below_a1 _ _)) hb2) (below_a1 _ _)) hb3⟩
        · have o1 : uintOk l1 = false := by simpa using o1
          rw [o1] at HS1
          obtain ⟨o, ho2⟩ : ∃ o, uintOk l2 = o := ⟨_, rfl⟩
          rw [ho2] at HS2
          clear ho hp hleaf
          go_enter Tryz.func10, Tryz.ntmps10
          go_wp2_with fail
          refine (HS1.out _).mono ?_
          rintro e w1 ⟨b1, A1, n1, c1, rfl, hn1, hb1⟩
          clear hn1
          go_wp2_with fail
          refine (HS2.out _).mono ?_
          rintro e w2 ⟨b2, A2, n2, c2, rfl, hn2, hb2⟩
          clear hn2
          go_wp2_with fail
          refine (awake_walk _).mono ?_
          rintro e w3 ⟨rfl, hb3⟩
          go_wp2_with fail
          go_ret
          exact ⟨rfl, bt (bt (bt (bt hb1 (below_a1 _ _)) hb2) (below_a1 _ _)) hb3⟩
    · have h1' : decide ((2147483647 : Int) < l1.length) = false := decide_eq_false (by omega)
      have h2' : (2147483647 : Int) < l2.length := by omega
      go_enter Tryz.func10, Tryz.ntmps10
      go_wp2_with fail
      go_ret
      exact ⟨rfl, Below.refl _ _⟩
  · have h1' : (2147483647 : Int) < l1.length := by omega
    go_enter Tryz.func10, Tryz.ntmps10
    go_wp2_with fail
    go_ret
    exact ⟨rfl, Below.refl _ _⟩
end Go.Proofs.YthipbglnaalhmaaGreatDoor
