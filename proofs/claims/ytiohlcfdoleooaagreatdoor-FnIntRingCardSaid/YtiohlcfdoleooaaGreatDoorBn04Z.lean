/-
  (*big.Int).Text, String.
-/
import Derived.Test.YtiohlcfdoleooaaGreatDoorBn23Z
import Derived.StillTailTactics
import Derived.Lib.SlBytesConst
import Derived.Test.YtiohlcfdoleooaaGreatDoorSpecFitsZ
namespace Go.Proofs.YtiohlcfdoleooaaGreatDoor
open Go.RowKit

set_option maxRecDepth 100000 in
theorem itoaZero_walk (A : Option Addr) (c : Nat) (w : World) :
    Calls Tryz.prog 205 #[.slice A 0 c, .bool false, .int .i64 10] w (ItoaPost w [48]) := by
  have kc := fun (w : World) (C : Array Value) (n c : Nat) => Lib.run_convert_bytes_const (P := Tryz.prog) w 22 5 C n c Tryz.underlying22 Tryz.underlying5
  go_enter Tryz.func205, Tryz.ntmps205
  go_wp2_with fail
  go_ret
  refine ⟨w.heap.size, 0, 1, rfl, by decide, by decide, ?_, below_a1 _ _⟩
  right
  refine ⟨_, rfl, fun j u hu => ?_⟩
  match j, hu with
  | 0, hu => simp [Lib.byteCells] at hu; subst hu; rw [add_off]; have := heap_here w (.cells #[.int .u8 48] 5 (1, 2)); simp only [World.cell?, Nat.add_zero, this]; rfl
  | j + 1, hu => simp [Lib.byteCells] at hu

set_option maxRecDepth 100000 in
theorem conv_text_bytes {w : World} {g o c : Nat} {l : List UInt8} (h : Rd w (some ⟨g, o, none⟩) (Lib.byteCells l)) :
    (convert 22 9 (.slice (some ⟨g, o, none⟩) l.length c)).run Tryz.prog w = .ok (.string (S l)) w := by
  have := run_convert_bytes_arg (P := Tryz.prog) w 22 5 Tryz.underlying22 Tryz.underlying5 g o l.length c (l.map fun b => (b.toNat : Int)) (by simp) (fun i hi => ?_) 9 Tryz.underlying9
  · rw [this]
    congr 2
    unfold strOfNums S
    congr 2
    rw [List.map_map]
    conv => rhs; rw [← List.map_id l]
    apply List.map_congr_left
    intro b _
    simp
  · have hi2 : i < l.length := by simpa using hi
    rcases h with h | ⟨a, ha, h⟩
    · have := congrArg List.length h
      rw [Lib.byteCells_length] at this
      simp at this
      subst this
      simp at hi2
    · cases ha
      have := h i (.int .u8 ((l.map fun b => (b.toNat : Int)).getD i 0)) (by simp [Lib.byteCells, List.getElem?_eq_getElem hi2, List.getD_eq_getElem?_getD])
      rwa [add_off] at this

/-- The decimal text of a number. -/
def zText (z : Int) : List UInt8 := numText (decide (z < 0)) (toD 10 z.natAbs)

theorem itoa_walk (z : Int) (A : Option Addr) (c : Nat) (w : World) (hc : (wds z.natAbs).length ≤ c) (hm : c ≤ 9223372036854775807) (hl : natLen z.natAbs ≤ 320) (hr : Rd w A (nums .u64 (wds z.natAbs))) (hleaf : LeafIs w) :
    Calls Tryz.prog 205 #[.slice A (wds z.natAbs).length c, .bool (decide (z < 0)), .int .i64 10] w (ItoaPost w (zText z)) := by
  by_cases h0 : z.natAbs = 0
  · have e : z = 0 := by omega
    subst e
    have e1 : (wds (0 : Int).natAbs).length = 0 := by simp [wds_zero]
    have e2 : zText 0 = [48] := by simp [zText, numText, toD_zero]
    rw [e1, e2]
    exact itoaZero_walk A c w
  · unfold zText
    by_cases hn : z < 0
    · rw [decide_eq_true hn]
      exact itoaNeg_walk z.natAbs A c w hc hm hl h0 hr hleaf
    · rw [decide_eq_false hn]
      exact itoaPos_walk z.natAbs A c w hc hm hl h0 hr hleaf

set_option maxRecDepth 100000 in
set_option maxHeartbeats 1000000 in
theorem intText_walk (g : Nat) (z : Int) (w : World) (hz : IntAt w g z) (hl : natLen z.natAbs ≤ 320) (hleaf : LeafIs w) :
    Calls Tryz.prog 183 #[.pointer (some ⟨g, 0, none⟩), .int .i64 10] w fun e w' => e = .returned (.string (S (zText z))) ∧ Below w.heap.size w w' := by
  obtain ⟨A, c, hk, h2, h3, h4⟩ := hz
  have c0 := num_cell0 hk
  have c1 := num_cell1 hk
  have HI := Lib.hid (itoa_walk z A c w.drew h2 h3 hl h4.rd hleaf)
  clear h4 hk
  go_enter Tryz.func183, Tryz.ntmps183
  go_wp2_with fail
  go_still_tail 9, (by kernel_rfl)
  change wpList _ _ _ _ _ w.drew
  go_wp2_with fail
  refine HI.out.mono ?_
  rintro e w1 ⟨g1, o1, c1', rfl, hc1, hc2, hrd, hb0⟩
  have hb : Below w.heap.size w w1 := ((Below.refl _ w).drew).trans hb0
  clear hb0
  have hcv := conv_text_bytes (c := c1') hrd
  clear hrd
  go_wp2_with fail
  go_ret
  exact ⟨rfl, hb⟩

set_option maxRecDepth 100000 in
set_option maxHeartbeats 1000000 in
theorem intString_walk (g : Nat) (z : Int) (w : World) (hz : IntAt w g z) (hl : natLen z.natAbs ≤ 320) (hleaf : LeafIs w) :
    Calls Tryz.prog 140 #[.pointer (some ⟨g, 0, none⟩)] w fun e w' => e = .returned (.string (S (zText z))) ∧ Below w.heap.size w w' := by
  have HI := Lib.hid (intText_walk g z w hz hl hleaf)
  clear hz
  go_enter Tryz.func140, Tryz.ntmps140
  go_wp2_with fail
  refine HI.out.mono ?_
  rintro e w1 ⟨rfl, hb⟩
  go_wp2_with fail
  go_ret
  exact ⟨rfl, hb⟩
end Go.Proofs.YtiohlcfdoleooaaGreatDoor

/-
  laws.told, laws.asked: true where the answer is the reference's.
-/
namespace Go.Proofs.YtiohlcfdoleooaaGreatDoor
open Go.RowKit

set_option maxRecDepth 100000 in
set_option maxHeartbeats 1000000 in
theorem told_walk (t : List UInt8) (ok : Bool) (x : Int) (v : Value) (is : Bool) (w : World) (hv : IsNum w v x) (hl : (toD 10 x.natAbs).length ≤ 1000000) (hok : ok = (is && decide (x.natAbs < 2 ^ 256))) (ht : ok = true → t = zText x) :
    Calls Tryz.prog 37 #[.string (S t), .bool ok, v, .bool is] w fun e w' => e = .returned (.bool true) ∧ Below w.heap.size w w' := by
  obtain ⟨A, c, rfl, hc, hcm, hr⟩ := hv.open
  have HV := Lib.hid hv
  have HL := Lib.hid hl
  clear hv hr hl
  obtain ⟨b, hb⟩ : ∃ b, decide (x < 0) = b := ⟨_, rfl⟩
  obtain ⟨ds, hds⟩ : ∃ ds, toD 10 x.natAbs = ds := ⟨_, rfl⟩
  rw [hb, hds] at HV
  rw [hds] at HL
  have htx : numText b ds = zText x := by rw [← hb, ← hds]; rfl
  rw [hb, hds]
  have HN : Hid (∀ d ∈ ds, d < 10) := Lib.hid (by rw [← hds]; exact toD_lt (by decide) _)
  have HS : Hid (∀ w', IsNum w' (.agg #[.bool b, .slice A ds.length c]) x → NumIs w' (.agg #[.bool b, .slice A ds.length c]) b ds) := Lib.hid (fun w' h => by unfold IsNum at h; rw [hb, hds] at h; exact h)
  clear hb hds hc
  cases is with
  | false =>
    obtain rfl : ok = false := hok
    clear ht htx
    go_enter Tryz.func37, Tryz.ntmps37
    go_wp2_with fail
    go_ret
    exact ⟨rfl, below_a1 _ _⟩
  | true =>
    cases hR : decide (x.natAbs < 2 ^ 256) with
    | false =>
      rw [hR] at hok
      obtain rfl : ok = false := hok
      have HR := Lib.hid hR
      clear ht htx hR
      go_enter Tryz.func37, Tryz.ntmps37
      go_wp2_with fail
      refine (fits_walk _ x _ (HV.out.below (below_a1 _ _))).mono ?_
      rw [HR.out]
      rintro e w1 ⟨rfl, hb1⟩
      go_wp2_with fail
      go_ret
      exact ⟨rfl, bt (below_a1 _ _) hb1⟩
    | true =>
      rw [hR] at hok
      obtain rfl : ok = true := hok
      obtain rfl := ht rfl
      have HR := Lib.hid hR
      rw [← htx]
      obtain ⟨T, hT⟩ : ∃ T, numText b ds = T := ⟨_, rfl⟩
      rw [hT]
      have HT := Lib.hid hT
      clear ht htx hR hT
      go_enter Tryz.func37, Tryz.ntmps37
      go_wp2_with fail
      refine (fits_walk _ x _ (HV.out.below (below_a1 _ _))).mono ?_
      rw [HR.out]
      rintro e w1 ⟨rfl, hb1⟩
      have hk := (hb1.block w.heap.size (by rw [heap_size_alloc]; omega)).trans (heap_here w (.cells #[.bool b, .slice A ds.length c] 24))
      have c0 := num_cell0 hk
      have c1 := num_cell1 hk
      have HB := Lib.hid (bt (below_a1 w (.cells #[.bool b, .slice A ds.length c] 24)) hb1)
      clear hk hb1
      go_wp2_with fail
      refine (text_walk _ b ds _ (HS.out _ (HV.out.below HB.out)) HN.out HL.out).mono ?_
      rw [HT.out]
      rintro e w2 ⟨rfl, hb2⟩
      go_wp2_with fail
      go_ret
      exact ⟨rfl, bt HB.out hb2⟩

set_option maxRecDepth 100000 in
set_option maxHeartbeats 1000000 in
theorem asked_walk (t : List UInt8) (ok : Bool) (x : Int) (v : Value) (w : World) (hv : IsNum w v x) (hl : (toD 10 x.natAbs).length ≤ 1000000) (hok : ok = ((!decide (x < 0)) && decide (x.natAbs < 2 ^ 256))) (ht : ok = true → t = zText x) :
    Calls Tryz.prog 25 #[.string (S t), .bool ok, v, .bool true] w fun e w' => e = .returned (.bool true) ∧ Below w.heap.size w w' := by
  have HTO := Lib.hid (fun (is : Bool) (w' : World) (h1 : IsNum w' v x) (h2 : ok = (is && decide (x.natAbs < 2 ^ 256))) => told_walk t ok x v is w' h1 hl h2 ht)
  obtain ⟨A, c, rfl, hc, hcm, hr⟩ := hv.open
  have HV := Lib.hid hv
  clear hv hr hl ht hc
  cases hb : decide (x < 0) with
  | false =>
    rw [hb] at hok HTO HV
    have HOK := Lib.hid hok
    clear hok hb
    go_enter Tryz.func25, Tryz.ntmps25
    go_wp2_with fail
    refine (HTO.out true _ (HV.out.below (below_a1 _ _)) HOK.out).mono ?_
    rintro e w1 ⟨rfl, hb1⟩
    go_wp2_with fail
    go_ret
    exact ⟨rfl, bt (below_a1 _ _) hb1⟩
  | true =>
    rw [hb] at hok HTO HV
    have HOK := Lib.hid hok
    clear hok hb
    go_enter Tryz.func25, Tryz.ntmps25
    go_wp2_with fail
    refine (HTO.out false _ (HV.out.below (below_a1 _ _)) HOK.out).mono ?_
    rintro e w1 ⟨rfl, hb1⟩
    go_wp2_with fail
    go_ret
    exact ⟨rfl, bt (below_a1 _ _) hb1⟩
end Go.Proofs.YtiohlcfdoleooaaGreatDoor
