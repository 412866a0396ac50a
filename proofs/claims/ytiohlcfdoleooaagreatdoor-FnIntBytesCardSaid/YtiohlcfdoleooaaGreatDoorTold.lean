/-
  laws.told, laws.asked: true where the answer is the reference's.
-/
import Derived.Test.YtiohlcfdoleooaaGreatDoorSpecFits
import Derived.Test.YtiohlcfdoleooaaGreatDoorIntStr
namespace Go.Proofs.YtiohlcfdoleooaaGreatDoor
open Go.RowKit

set_option maxRecDepth 100000 in
set_option maxHeartbeats 1000000 in
theorem told_walk (t : List UInt8) (ok : Bool) (x : Int) (v : Value) (is : Bool) (w : World) (hv : IsNum w v x) (hl : (toD 10 x.natAbs).length ≤ 1000000) (hok : ok = (is && decide (x.natAbs < 2 ^ 256))) (ht : ok = true → t = zText x) :
    Calls Tryz.prog 37 #[.string (S t), .bool ok, v, .bool is] w fun e w' => e = .returned (.bool true) ∧ Below w.heap.size w w' := by
  obtain ⟨A, c, rfl, hc, hcm, hr⟩ := hv.open
  have HV := Lib.hid hv
  have HL := Lib.hid hl
  clear hv hr hl
  obtain ⟨b, hb⟩ : ∃ b, decide (x < 0) = b := ⟨_, rfl⟩
  obtain ⟨ds, hds⟩ : ∃ ds, toD 10 x.natAbs = ds := ⟨_, rfl⟩
  rw [hb, hds] at HV
  rw [hds] at HL
  have htx : numText b ds = zText x := by rw [← hb, ← hds]; rfl
  rw [hb, hds]
  have HN : Hid (∀ d ∈ ds, d < 10) := Lib.hid (by rw [← hds]; exact toD_lt (by decide) _)
  have HS : Hid (∀ w', IsNum w' (.agg #[.bool b, .slice A ds.length c]) x → NumIs w' (.agg #[.bool b, .slice A ds.length c]) b ds) := Lib.hid (fun w' h => by unfold IsNum at h; rw [hb, hds] at h; exact h)
  clear hb hds hc
  cases is with
  | false =>
    obtain rfl : ok = false := hok
    clear ht htx
    go_enter Tryz.func37, Tryz.ntmps37
    go_wp2_with fail
    go_ret
    exact ⟨rfl, below_a1 _ _⟩
  | true =>
    cases hR : decide (x.natAbs < 2 ^ 256) with
    | false =>
      rw [hR] at hok
      obtain rfl : ok = false := hok
      have HR := Lib.hid hR
      clear ht htx hR
      go_enter Tryz.func37, Tryz.ntmps37
      go_wp2_with fail
      refine (fits_walk _ x _ (HV.out.below (below_a1 _ _))).mono ?_
      rw [HR.out]
      rintro e w1 ⟨rfl, hb1⟩
      go_wp2_with fail
      go_ret
      exact ⟨rfl, bt (below_a1 _ _) hb1⟩
    | true =>
      rw [hR] at hok
      obtain rfl : ok = true := hok
      obtain rfl := ht rfl
      have HR := Lib.hid hR
      rw [← htx]
      obtain ⟨T, hT⟩ : ∃ T, numText b ds = T := ⟨_, rfl⟩
      rw [hT]
      have HT := Lib.hid hT
      clear ht htx hR hT
      go_enter Tryz.func37, Tryz.ntmps37
      go_wp2_with fail
      refine (fits_walk _ x _ (HV.out.below (below_a1 _ _))).mono ?_
      rw [HR.out]
      rintro e w1 ⟨rfl, hb1⟩
      have hk := (hb1.block w.heap.size (by rw [heap_size_alloc]; omega)).trans (heap_here w (.cells #[.bool b, .slice A ds.length c] 24))
      have c0 := num_cell0 hk
      have c1 := num_cell1 hk
      have HB := Lib.hid (bt (below_a1 w (.cells #[.bool b, .slice A ds.length c] 24)) hb1)
      clear hk hb1
      go_wp2_with fail
      refine (text_walk _ b ds _ (HS.out _ (HV.out.below HB.out)) HN.out HL.out).mono ?_
      rw [HT.out]
      rintro e w2 ⟨rfl, hb2⟩
      go_wp2_with fail
      go_ret
      exact ⟨rfl, bt HB.out hb2⟩

set_option maxRecDepth 100000 in
set_option maxHeartbeats 1000000 in
theorem asked_walk (t : List UInt8) (ok : Bool) (x : Int) (v : Value) (w : World) (hv : IsNum w v x) (hl : (toD 10 x.natAbs).length ≤ 1000000) (hok : ok = ((!decide (x < 0)) && decide (x.natAbs < 2 ^ 256))) (ht : ok = true → t = zText x) :
    Calls Tryz.prog 25 #[.string (S t), .bool ok, v, .bool true] w fun e w' => e = .returned (.bool true) ∧ Below w.heap.size w w' := by
  have HTO := Lib.hid (fun (is : Bool) (w' : World) (h1 : IsNum w' v x) (h2 : ok = (is && decide (x.natAbs < 2 ^ 256))) => told_walk t ok x v is w' h1 hl h2 ht)
  obtain ⟨A, c, rfl, hc, hcm, hr⟩ := hv.open
  have HV := Lib.hid hv
  clear hv hr hl ht hc
  cases hb : decide (x < 0) with
  | false =>
    rw [hb] at hok HTO HV
    have HOK := Lib.hid hok
    clear hok hb
    go_enter Tryz.func25, Tryz.ntmps25
    go_wp2_with fail
    refine (HTO.out true _ (HV.out.below (below_a1 _ _)) HOK.out).mono ?_
    rintro e w1 ⟨rfl, hb1⟩
    go_wp2_with fail
    go_ret
    exact ⟨rfl, bt (below_a1 _ _) hb1⟩
  | true =>
    rw [hb] at hok HTO HV
    have HOK := Lib.hid hok
    clear hok hb
    go_enter Tryz.func25, Tryz.ntmps25
    go_wp2_with fail
    refine (HTO.out false _ (HV.out.below (below_a1 _ _)) HOK.out).mono ?_
    rintro e w1 ⟨rfl, hb1⟩
    go_wp2_with fail
    go_ret
    exact ⟨rfl, bt (below_a1 _ _) hb1⟩
end Go.Proofs.YtiohlcfdoleooaaGreatDoor
