/-
  math/big's addVV, subVV: words added and subtracted.
-/
import Derived.Test.YtiohlcfdoleooaaGreatDoorNat5
import Derived.Test.YtiohlcfdoleooaaGreatDoorDiv2
import Derived.Deep.QuietTactic
import Derived.BigQuiet
namespace Go.Proofs.YtiohlcfdoleooaaGreatDoor
open Go.RowKit

theorem avv_step {outs xs ys : List Nat} {k c x y q s : Nat} (hk : outs.length = k) (hl : k < xs.length) (hm : k < ys.length) (hx : xs[k] = x) (hy : ys[k] = y) (hqs : s + 18446744073709551616 * q = x + y + c)
    (h : valD 18446744073709551616 outs + 18446744073709551616 ^ k * c = valD 18446744073709551616 (xs.take k) + valD 18446744073709551616 (ys.take k)) :
    valD 18446744073709551616 (outs ++ [s]) + 18446744073709551616 ^ (k + 1) * q = valD 18446744073709551616 (xs.take (k + 1)) + valD 18446744073709551616 (ys.take (k + 1)) := by
  rw [valD_take_succ hl, valD_take_succ hm, valD_append, hk, hx, hy, Nat.pow_succ]
  generalize 18446744073709551616 ^ k = P at *
  generalize valD 18446744073709551616 outs = V at *
  generalize valD 18446744073709551616 (xs.take k) = X at *
  generalize valD 18446744073709551616 (ys.take k) = Y at *
  have e0 : valD 18446744073709551616 [s] = s := by simp [valD]
  rw [e0]
  have e2 : P * s + P * 18446744073709551616 * q = P * x + P * y + P * c := by rw [Nat.mul_assoc, ← Nat.mul_add, hqs, Nat.mul_add, Nat.mul_add]
  omega
theorem svv_step {outs xs ys : List Nat} {k c x y q s : Nat} (hk : outs.length = k) (hl : k < xs.length) (hm : k < ys.length) (hx : xs[k] = x) (hy : ys[k] = y) (hqs : s + y + c = x + 18446744073709551616 * q)
    (h : valD 18446744073709551616 outs + valD 18446744073709551616 (ys.take k) = valD 18446744073709551616 (xs.take k) + 18446744073709551616 ^ k * c) :
    valD 18446744073709551616 (outs ++ [s]) + valD 18446744073709551616 (ys.take (k + 1)) = valD 18446744073709551616 (xs.take (k + 1)) + 18446744073709551616 ^ (k + 1) * q := by
  rw [valD_take_succ hl, valD_take_succ hm, valD_append, hk, hx, hy, Nat.pow_succ]
  generalize 18446744073709551616 ^ k = P at *
  generalize valD 18446744073709551616 outs = V at *
  generalize valD 18446744073709551616 (xs.take k) = X at *
  generalize valD 18446744073709551616 (ys.take k) = Y at *
  have e0 : valD 18446744073709551616 [s] = s := by simp [valD]
  rw [e0]
  have e2 : P * s + P * y + P * c = P * x + P * 18446744073709551616 * q := by rw [Nat.mul_assoc P 18446744073709551616, ← Nat.mul_add, ← Nat.mul_add, ← Nat.mul_add, hqs]
  omega

/-- The loops of addVV and subVV. -/
def VvRel (w : World) (g o : Nat) (zs xs ys : List Nat) (L : Nat → Nat → Nat → Nat → Prop) (cv iv : Value) (wr : World) : Prop :=
  ∃ (c : Nat) (outs : List Nat), iv = .int .i64 (outs.length : Int) ∧ cv = .int .u64 c ∧ c ≤ 1 ∧ outs.length ≤ xs.length ∧ (∀ d ∈ outs, d < 18446744073709551616) ∧
    Row wr g .u64 150 (over zs o outs) ∧ Ext (fun b => b = g) w wr ∧ wr.heap.size = w.heap.size ∧
    L (valD 18446744073709551616 outs) (18446744073709551616 ^ outs.length * c) (valD 18446744073709551616 (xs.take outs.length)) (valD 18446744073709551616 (ys.take outs.length))
def VvPost (w : World) (g o : Nat) (zs xs ys : List Nat) (L : Nat → Nat → Nat → Nat → Prop) (e : Ending) (w' : World) : Prop :=
  ∃ (c : Nat) (outs : List Nat), e = .returned (.int .u64 c) ∧ c ≤ 1 ∧ outs.length = xs.length ∧ (∀ d ∈ outs, d < 18446744073709551616) ∧
    Row w' g .u64 150 (over zs o outs) ∧ Ext (fun b => b = g) w w' ∧ w'.heap.size = w.heap.size ∧
    L (valD 18446744073709551616 outs) (18446744073709551616 ^ xs.length * c) (valD 18446744073709551616 xs) (valD 18446744073709551616 ys)
def AddL (v c x y : Nat) : Prop := v + c = x + y
def SubL (v c x y : Nat) : Prop := v + y = x + c

set_option maxRecDepth 100000 in
set_option maxHeartbeats 2000000 in
theorem addVV_g_walk (g o : Nat) (zs xs ys : List Nat) (X Y : Option Addr) (cz cx cy : Nat) (w : World) (hrow : Row w g .u64 150 zs) (hsx : Src w g o zs X xs) (hsy : Src w g o zs Y ys) (hxy : ys.length = xs.length) (hz : o + xs.length ≤ zs.length)
    (hxw : ∀ d ∈ xs, d < 18446744073709551616) (hyw : ∀ d ∈ ys, d < 18446744073709551616) (hl : xs.length ≤ 1000000) (_ho : o ≤ 1000000) :
    Calls Tryz.prog 218 #[.slice (some ⟨g, o, none⟩) xs.length cz, .slice X xs.length cx, .slice Y xs.length cy] w (VvPost w g o zs xs ys AddL) := by
  have HS := Lib.hid hsx
  have HT := Lib.hid hsy
  have HR := Lib.hid hrow
  have HX := Lib.hid hxw
  have HY := Lib.hid hyw
  have HXY := Lib.hid hxy
  clear hsx hsy hrow hxw hyw hxy
  go_enter Tryz.func218, Tryz.ntmps218
  go_wp2_with fail
  go_loopw [6, 25] (fun cv iv wr => VvRel w g o zs xs ys AddL cv iv wr) (fun _ iv _ => idxOf xs.length iv)
  case atStart => exact ⟨0, [], rfl, rfl, by decide, Nat.zero_le _, by simp, by rw [over_nil]; exact HR.out, Ext.refl _ _, rfl, by simp [valD, AddL]⟩
  case round =>
    obtain ⟨c, outs, rfl, rfl, hc, hol, how, hrow, hx, hsz, hval⟩ := hrel
    have HOW := Lib.hid how
    have HROW := Lib.hid hrow
    have HV := Lib.hid hval
    clear how hval
    by_cases hlt : outs.length < xs.length
    · obtain ⟨k, hk⟩ : ∃ k, outs.length = k := ⟨_, rfl⟩
      obtain ⟨a, rfl, ha⟩ := HS.out.cell hz hrow hx hlt
      obtain ⟨b, rfl, hb⟩ := HT.out.cell (by rw [HXY.out]; exact hz) hrow hx (by rw [HXY.out]; exact hlt)
      obtain ⟨x, hxk⟩ : ∃ x, xs[outs.length] = x := ⟨_, rfl⟩
      obtain ⟨y, hyk⟩ : ∃ y, ys[outs.length]'(by rw [HXY.out]; exact hlt) = y := ⟨_, rfl⟩
      have hxw : x < 18446744073709551616 := by rw [← hxk]; exact HX.out _ (List.getElem_mem _)
      have hyw : y < 18446744073709551616 := by rw [← hyk]; exact HY.out _ (List.getElem_mem _)
      rw [hxk] at ha
      rw [hyk] at hb
      have hkl : k < xs.length := by omega
      have hkl' : (k : Int) < xs.length := by omega
      have hk0 : (0 : Int) ≤ (k : Int) := by omega
      have fR := hrow.free (o + k)
      have hcR := hrow.cell (j := o + k) (by rw [over_length (by omega)]; omega)
      obtain ⟨old, hold⟩ : ∃ old, (over zs o outs)[o + k]'(by rw [over_length (by omega)]; omega) = old := ⟨_, rfl⟩
      rw [hold] at hcR
      rw [hk] at ha hb ⊢
      clear hrow
      have hW := bitsAdd_walk x y c
      obtain ⟨q, hq⟩ : ∃ q, (x + y + c) / 18446744073709551616 = q := ⟨_, rfl⟩
      obtain ⟨s, hs⟩ : ∃ s, (x + y + c) % 18446744073709551616 = s := ⟨_, rfl⟩
      have hqw : q ≤ 1 := by omega
      have hsw : s < 18446744073709551616 := by rw [← hs]; exact Nat.mod_lt _ (by decide)
      have hqs : s + 18446744073709551616 * q = x + y + c := by omega
      rw [hq, hs] at hW
      have HW := Lib.hid hW
      clear hW
      go_wp2_with fail
      go_quiet ((go_at_call 219; exact Calls.quiet_of_same ((HW.out _ hxw hyw hc).mono fun _ _ h => ⟨h.1, h.2.symm⟩)))
      go_wp2_with fail
      have hset := over_set (zs := zs) (outs := outs) (o := o) (v := s) (by omega)
      rw [hk] at hset
      have hst : ∀ nd, Row ((wr.drewN nd).setCell ⟨g, o + k, none⟩ (.int .u64 (s : Int))) g .u64 150 (over zs o (outs ++ [s])) := by intro nd; rw [← hset]; exact (HROW.out.drew nd).set _ _
      have hv := HV.out
      rw [hk] at hv
      refine ⟨⟨q, outs ++ [s], by rw [List.length_append, hk]; go_num, rfl, hqw, by simp; omega, ?_, hst _, (hx.drewN _).setCell (p := ⟨g, o + k, none⟩) (fun _ => rfl) _, by simpa [World.setCell, World.drewN] using hsz, ?_⟩, by simp [idxOf]; omega⟩
      · intro d hd
        rcases List.mem_append.1 hd with h | h
        · exact HOW.out d h
        · simp at h; omega
      · rw [List.length_append, hk]
        exact avv_step hk hkl (by rw [HXY.out]; exact hkl) (by rw [← hxk]; simp only [hk]) (by rw [← hyk]; simp only [hk]) hqs hv
    · have hol2 : outs.length = xs.length := by omega
      have hlt' : ¬ (outs.length : Int) < xs.length := by omega
      have hv := HV.out
      rw [hol2, List.take_of_length_le (Nat.le_refl _), List.take_of_length_le (by rw [HXY.out]; exact Nat.le_refl _)] at hv
      have HV2 := Lib.hid hv
      have HOL := Lib.hid hol2
      clear hv hol2 HV
      go_wp2_with fail
      go_ret
      exact ⟨c, outs, rfl, hc, HOL.out, HOW.out, HROW.out, hx, hsz, HV2.out⟩

set_option maxRecDepth 100000 in
set_option maxHeartbeats 1000000 in
theorem addVV_walk (g o : Nat) (zs xs ys : List Nat) (X Y : Option Addr) (cz cx cy : Nat) (w : World) (hrow : Row w g .u64 150 zs) (hsx : Src w g o zs X xs) (hsy : Src w g o zs Y ys) (hxy : ys.length = xs.length) (hz : o + xs.length ≤ zs.length)
    (hxw : ∀ d ∈ xs, d < 18446744073709551616) (hyw : ∀ d ∈ ys, d < 18446744073709551616) (hl : xs.length ≤ 1000000) (ho : o ≤ 1000000) :
    Calls Tryz.prog 200 #[.slice (some ⟨g, o, none⟩) xs.length cz, .slice X xs.length cx, .slice Y xs.length cy] w (VvPost w g o zs xs ys AddL) := by
  have HG := Lib.hid (addVV_g_walk g o zs xs ys X Y cz cx cy w hrow hsx hsy hxy hz hxw hyw hl ho)
  clear hrow hsx hsy hxy hxw hyw
  go_enter Tryz.func200, Tryz.ntmps200
  go_wp2_with fail
  refine HG.out.mono ?_
  rintro e w1 ⟨c, outs, rfl, hp⟩
  go_wp2_with fail
  go_ret
  exact ⟨c, outs, rfl, hp⟩

set_option maxRecDepth 100000 in
set_option maxHeartbeats 2000000 in
theorem subVV_g_walk (g o : Nat) (zs xs ys : List Nat) (X Y : Option Addr) (cz cx cy : Nat) (w : World) (hrow : Row w g .u64 150 zs) (hsx : Src w g o zs X xs) (hsy : Src w g o zs Y ys) (hxy : ys.length = xs.length) (hz : o + xs.length ≤ zs.length)
    (hxw : ∀ d ∈ xs, d < 18446744073709551616) (hyw : ∀ d ∈ ys, d < 18446744073709551616) (hl : xs.length ≤ 1000000) (_ho : o ≤ 1000000) :
    Calls Tryz.prog 220 #[.slice (some ⟨g, o, none⟩) xs.length cz, .slice X xs.length cx, .slice Y xs.length cy] w (VvPost w g o zs xs ys SubL) := by
  have HS := Lib.hid hsx
  have HT := Lib.hid hsy
  have HR := Lib.hid hrow
  have HX := Lib.hid hxw
  have HY := Lib.hid hyw
  have HXY := Lib.hid hxy
  clear hsx hsy hrow hxw hyw hxy
  go_enter Tryz.func220, Tryz.ntmps220
  go_wp2_with fail
  go_loopw [6, 25] (fun cv iv wr => VvRel w g o zs xs ys SubL cv iv wr) (fun _ iv _ => idxOf xs.length iv)
  case atStart => exact ⟨0, [], rfl, rfl, by decide, Nat.zero_le _, by simp, by rw [over_nil]; exact HR.out, Ext.refl _ _, rfl, by simp [valD, SubL]⟩
  case round =>
    obtain ⟨c, outs, rfl, rfl, hc, hol, how, hrow, hx, hsz, hval⟩ := hrel
    have HOW := Lib.hid how
    have HROW := Lib.hid hrow
    have HV := Lib.hid hval
    clear how hval
    by_cases hlt : outs.length < xs.length
    · obtain ⟨k, hk⟩ : ∃ k, outs.length = k := ⟨_, rfl⟩
      obtain ⟨a, rfl, ha⟩ := HS.out.cell hz hrow hx hlt
      obtain ⟨b, rfl, hb⟩ := HT.out.cell (by rw [HXY.out]; exact hz) hrow hx (by rw [HXY.out]; exact hlt)
      obtain ⟨x, hxk⟩ : ∃ x, xs[outs.length] = x := ⟨_, rfl⟩
      obtain ⟨y, hyk⟩ : ∃ y, ys[outs.length]'(by rw [HXY.out]; exact hlt) = y := ⟨_, rfl⟩
      have hxw : x < 18446744073709551616 := by rw [← hxk]; exact HX.out _ (List.getElem_mem _)
      have hyw : y < 18446744073709551616 := by rw [← hyk]; exact HY.out _ (List.getElem_mem _)
      rw [hxk] at ha
      rw [hyk] at hb
      have hkl : k < xs.length := by omega
      have hkl' : (k : Int) < xs.length := by omega
      have hk0 : (0 : Int) ≤ (k : Int) := by omega
      have fR := hrow.free (o + k)
      have hcR := hrow.cell (j := o + k) (by rw [over_length (by omega)]; omega)
      obtain ⟨old, hold⟩ : ∃ old, (over zs o outs)[o + k]'(by rw [over_length (by omega)]; omega) = old := ⟨_, rfl⟩
      rw [hold] at hcR
      rw [hk] at ha hb ⊢
      clear hrow
      have hW := bitsSub_walk x y c
      obtain ⟨q, hq⟩ : ∃ q, borrow x y c = q := ⟨_, rfl⟩
      obtain ⟨s, hs⟩ : ∃ s, (x + 18446744073709551616 - y - c) % 18446744073709551616 = s := ⟨_, rfl⟩
      have hqw : q ≤ 1 := by rw [← hq]; unfold borrow; split <;> omega
      have hsw : s < 18446744073709551616 := by rw [← hs]; exact Nat.mod_lt _ (by decide)
      have hqs : s + y + c = x + 18446744073709551616 * q := by unfold borrow at hq; split at hq <;> omega
      rw [hq, hs] at hW
      have HW := Lib.hid hW
      clear hW
      go_wp2_with fail
      go_quiet ((go_at_call 221; exact Calls.quiet_of_same ((HW.out _ hxw hyw hc).mono fun _ _ h => ⟨h.1, h.2.symm⟩)))
      go_wp2_with fail
      have hset := over_set (zs := zs) (outs := outs) (o := o) (v := s) (by omega)
      rw [hk] at hset
      have hst : ∀ nd, Row ((wr.drewN nd).setCell ⟨g, o + k, none⟩ (.int .u64 (s : Int))) g .u64 150 (over zs o (outs ++ [s])) := by intro nd; rw [← hset]; exact (HROW.out.drew nd).set _ _
      have hv := HV.out
      rw [hk] at hv
      refine ⟨⟨q, outs ++ [s], by rw [List.length_append, hk]; go_num, rfl, hqw, by simp; omega, ?_, hst _, (hx.drewN _).setCell (p := ⟨g, o + k, none⟩) (fun _ => rfl) _, by simpa [World.setCell, World.drewN] using hsz, ?_⟩, by simp [idxOf]; omega⟩
      · intro d hd
        rcases List.mem_append.1 hd with h | h
        · exact HOW.out d h
        · simp at h; omega
      · rw [List.length_append, hk]
        exact svv_step hk hkl (by rw [HXY.out]; exact hkl) (by rw [← hxk]; simp only [hk]) (by rw [← hyk]; simp only [hk]) hqs hv
    · have hol2 : outs.length = xs.length := by omega
      have hlt' : ¬ (outs.length : Int) < xs.length := by omega
      have hv := HV.out
      rw [hol2, List.take_of_length_le (Nat.le_refl _), List.take_of_length_le (by rw [HXY.out]; exact Nat.le_refl _)] at hv
      have HV2 := Lib.hid hv
      have HOL := Lib.hid hol2
      clear hv hol2 HV
      go_wp2_with fail
      go_ret
      exact ⟨c, outs, rfl, hc, HOL.out, HOW.out, HROW.out, hx, hsz, HV2.out⟩

set_option maxRecDepth 100000 in
set_option maxHeartbeats 1000000 in
theorem subVV_walk (g o : Nat) (zs xs ys : List Nat) (X Y : Option Addr) (cz cx cy : Nat) (w : World) (hrow : Row w g .u64 150 zs) (hsx : Src w g o zs X xs) (hsy : Src w g o zs Y ys) (hxy : ys.length = xs.length) (hz : o + xs.length ≤ zs.length)
    (hxw : ∀ d ∈ xs, d < 18446744073709551616) (hyw : ∀ d ∈ ys, d < 18446744073709551616) (hl : xs.length ≤ 1000000) (ho : o ≤ 1000000) :
    Calls Tryz.prog 203 #[.slice (some ⟨g, o, none⟩) xs.length cz, .slice X xs.length cx, .slice Y xs.length cy] w (VvPost w g o zs xs ys SubL) := by
  have HG := Lib.hid (subVV_g_walk g o zs xs ys X Y cz cx cy w hrow hsx hsy hxy hz hxw hyw hl ho)
  clear hrow hsx hsy hxy hxw hyw
  go_enter Tryz.func203, Tryz.ntmps203
  go_wp2_with fail
  refine HG.out.mono ?_
  rintro e w1 ⟨c, outs, rfl, hp⟩
  go_wp2_with fail
  go_ret
  exact ⟨c, outs, rfl, hp⟩

end Go.Proofs.YtiohlcfdoleooaaGreatDoor
