/-
  math/big's addVV, subVV: words added and subtracted.
-/
import Derived.Test.YtapfolgiafnllaaGreatDoorNat5Z
import Derived.Test.YtapfolgiafnllaaGreatDoorDiv2Z
import Derived.Deep.QuietTactic
import Derived.BigQuiet
namespace Go.Proofs.YtapfolgiafnllaaGreatDoor
open Go.RowKit

theorem avv_step {outs xs ys : List Nat} {k c x y q s : Nat} (hk : outs.length = k) (hl : k < xs.length) (hm : k < ys.length) (hx : xs[k] = x) (hy : ys[k] = y) (hqs : s + 18446744073709551616 * q = x + y + c)
    (h : valD 18446744073709551616 outs + 18446744073709551616 ^ k * c = valD 18446744073709551616 (xs.take k) + valD 18446744073709551616 (ys.take k)) :
    valD 18446744073709551616 (outs ++ [s]) + 18446744073709551616 ^ (k + 1) * q = valD 18446744073709551616 (xs.take (k + 1)) + valD 18446744073709551616 (ys.take (k + 1)) := by
  rw [valD_take_succ hl, valD_take_succ hm, valD_append, hk, hx, hy, Nat.pow_succ]
  generalize 18446744073709551616 ^ k = P at *
  generalize valD 18446744073709551616 outs = V at *
  generalize valD 18446744073709551616 (xs.take k) = X at *
  generalize valD 18446744073709551616 (ys.take k) = Y at *
  have e0 : valD 18446744073709551616 [s] = s := by simp [valD]
  rw [e0]
  have e2 : P * s + P * 18446744073709551616 * q = P * x + P * y + P * c := by rw [Nat.mul_assoc, ← Nat.mul_add, hqs, Nat.mul_add, Nat.mul_add]
  omega
theorem svv_step {outs xs ys : List Nat} {k c x y q s : Nat} (hk : outs.length = k) (hl : k < xs.length) (hm : k < ys.length) (hx : xs[k] = x) (hy : ys[k] = y) (hqs : s + y + c = x + 18446744073709551616 * q)
    (h : valD 18446744073709551616 outs + valD 18446744073709551616 (ys.take k) = valD 18446744073709551616 (xs.take k) + 18446744073709551616 ^ k * c) :
    valD 18446744073709551616 (outs ++ [s]) + valD 18446744073709551616 (ys.take (k + 1)) = valD 18446744073709551616 (xs.take (k + 1)) + 18446744073709551616 ^ (k + 1) * q := by
  rw [valD_take_succ hl, valD_take_succ hm, valD_append, hk, hx, hy, Nat.pow_succ]
  generalize 18446744073709551616 ^ k = P at *
  generalize valD 18446744073709551616 outs = V at *
  generalize valD 18446744073709551616 (xs.take k) = X at *
  generalize valD 18446744073709551616 (ys.take k) = Y at *
  have e0 : valD 18446744073709551616 [s] = s := by simp [valD]
  rw [e0]
  have e2 : P * s + P * y + P * c = P * x + P * 18446744073709551616 * q := by rw [Nat.mul_assoc P 18446744073709551616, ← Nat.mul_add, ← Nat.mul_add, ← Nat.mul_add, hqs]
  omega

/-- The loops of addVV and subVV. -/
def VvRel (w : World) (g o : Nat) (zs xs ys : List Nat) (L : Nat → Nat → Nat → Nat → Prop) (cv iv : Value) (wr : World) : Prop :=
  ∃ (c : Nat) (outs : List Nat), iv = .int .i64 (outs.length : Int) ∧ cv = .int .u64 c ∧ c ≤ 1 ∧ outs.length ≤ xs.length ∧ (∀ d ∈ outs, d < 18446744073709551616) ∧
    Row wr g .u64 106 (over zs o outs) ∧ Ext (fun b => b = g) w wr ∧ wr.heap.size = w.heap.size ∧
    L (valD 18446744073709551616 outs) (18446744073709551616 ^ outs.length * c) (valD 18446744073709551616 (xs.take outs.length)) (valD 18446744073709551616 (ys.take outs.length))
def VvPost (w : World) (g o : Nat) (zs xs ys : List Nat) (L : Nat → Nat → Nat → Nat → Prop) (e : Ending) (w' : World) : Prop :=
  ∃ (c : Nat) (outs : List Nat), e = .returned (.int .u64 c) ∧ c ≤ 1 ∧ outs.length = xs.length ∧ (∀ d ∈ outs, d < 18446744073709551616) ∧
    Row w' g .u64 106 (over zs o outs) ∧ Ext (fun b => b = g) w w' ∧ w'.heap.size = w.heap.size ∧
    L (valD 18446744073709551616 outs) (18446744073709551616 ^ xs.length * c) (valD 18446744073709551616 xs) (valD 18446744073709551616 ys)
def AddL (v c x y : Nat) : Prop := v + c = x + y
def SubL (v c x y : Nat) : Prop := v + y = x + c

set_option maxRecDepth 100000 in
set_option maxHeartbeats 2000000 in
theorem addVV_g_walk (g o : Nat) (zs xs ys : List Nat) (X Y : Option Addr) (cz cx cy : Nat) (w : World) (hrow : Row w g .u64 106 zs) (hsx : Src w g o zs X xs) (hsy : Src w g o zs Y ys) (hxy : ys.length = xs.length) (hz : o + xs.length ≤ zs.length)
    (hxw : ∀ d ∈ xs, d < 18446744073709551616) (hyw : ∀ d ∈ ys, d < 18446744073709551616) (hl : xs.length ≤ 1000000) (_ho : o ≤ 1000000) :
    Calls Tryz.prog 172 #[.slice (some ⟨g, o, none⟩) xs.length cz, .slice X xs.length cx, .slice Y xs.length cy] w (VvPost w g o zs xs ys AddL) := by
  have HS := Lib.hid hsx
  have HT := Lib.hid hsy
  have HR := Lib.hid hrow
  have HX := Lib.hid hxw
  have HY := Lib.hid hyw
  have HXY := Lib.hid hxy
  clear hsx hsy hrow hxw hyw hxy
  go_enter Tryz.func172, Tryz.ntmps172
  go_wp2_with fail
  go_loopw [6, 25] (fun cv iv wr => VvRel w g o zs xs ys AddL cv iv wr) (fun _ iv _ => idxOf xs.length iv)
  case atStart => exact ⟨0, [], rfl, rfl, by decide, Nat.zero_le _, by simp, by rw [over_nil]; exact HR.out, Ext.refl _ _, rfl, by simp [valD, AddL]⟩
  case round =>
    obtain ⟨c, outs, rfl, rfl, hc, hol, how, hrow, hx, hsz, hval⟩ := hrel
    have HOW := Lib.hid how
    have HROW := Lib.hid hrow
    have HV := Lib.hid hval
    clear how hval
    by_cases hlt : outs.length < xs.length
    · obtain ⟨k, hk⟩ : ∃ k, outs.length = k := ⟨_, rfl⟩
      obtain ⟨a, rfl, ha⟩ := HS.out.cell hz hrow hx hlt
      obtain ⟨b, rfl, hb⟩ := HT.out.cell (by rw [HXY.out]; exact hz) hrow hx (by rw [HXY.out]; exact hlt)
      obtain ⟨x, hxk⟩ : ∃ x, xs[outs.length] = x := ⟨_, rfl⟩
      obtain ⟨y, hyk⟩ : ∃ y, ys[outs.length]'(by rw [HXY.out]; exact hlt) = y := ⟨_, rfl⟩
      have hxw : x < 18446744073709551616 := by rw [← hxk]; exact HX.out _ (List.getElem_mem _)
      have hyw : y < 18446744073709551616 := by rw [← hyk]; exact HY.out _ (List.getElem_mem _)
      rw [hxk] at ha
      rw [hyk] at hb
      have hkl : k < xs.length := by omega
      have hkl' : (k : Int) < xs.length := by omega
      have hk0 : (0 : Int) ≤ (k : Int) := by omega
      have fR := hrow.free (o + k)
      have hcR := hrow.cell (j := o + k) (by rw [over_length (by omega)]; omega)
      obtain ⟨old, hold⟩ : ∃ old, (over zs o outs)[o + k]'(by rw [over_length (by omega)]; omega) = old := ⟨_, rfl⟩
      rw [hold] at hcR
      rw [hk] at ha hb ⊢
      clear hrow
      have hW := bitsAdd_walk x y c
      obtain ⟨q, hq⟩ : ∃ q, (x + y + c) / 18446744073709551616 = q := ⟨_, rfl⟩
      obtain ⟨s, hs⟩ : ∃ s, (x + y + c) % 18446744073709551616 = s := ⟨_, rfl⟩
      have hqw : q ≤ 1 := by omega
      have hsw : s < 18446744073709551616 := by rw [← hs]; exact Nat.mod_lt _ (by decide)
      have hqs : s + 18446744073709551616 * q = x + y + c := by omega
      rw [hq, hs] at hW
      have HW := Lib.hid hW
      clear hW
      go_wp2_with fail
      go_quiet ((go_at_call 173; exact Calls.quiet_of_same ((HW.out _ hxw hyw hc).mono fun _ _ h => ⟨h.1, h.2.symm⟩)))
      go_wp2_with fail
      have hset := over_set (zs := zs) (outs := outs) (o := o) (v := s) (by omega)
      rw [hk] at hset
      have hst : ∀ nd, Row ((wr.drewN nd).setCell ⟨g, o + k, none⟩ (.int .u64 (s : Int))) g .u64 106 (over zs o (outs ++ [s])) := by intro nd; rw [← hset]; exact (HROW.out.drew nd).set _ _
      have hv := HV.out
      rw [hk] at hv
      refine ⟨⟨q, outs ++ [s], by rw [List.length_append, hk]; go_num, rfl, hqw, by simp; omega, ?_, hst _, (hx.drewN _).setCell (p := ⟨g, o + k, none⟩) (fun _ => rfl) _, by simpa [World.setCell, World.drewN] using hsz, ?_⟩, by simp [idxOf]; omega⟩
      · intro d hd
        rcases List.mem_append.1 hd with h | h
        · exact HOW.out d h
        · simp at h; omega
      · rw [List.length_append, hk]
        exact avv_step hk hkl (by rw [HXY.out]; exact hkl) (by rw [← hxk]; simp only [hk]) (by rw [← hyk]; simp only [hk]) hqs hv
    · have hol2 : outs.length = xs.length := by omega
      have hlt' : ¬ (outs.length : Int) < xs.length := by omega
      have hv := HV.out
      rw [hol2, List.take_of_length_le (Nat.le_refl _), List.take_of_length_le (by rw [HXY.out]; exact Nat.le_refl _)] at hv
      have HV2 := Lib.hid hv
      have HOL := Lib.hid hol2
      clear hv hol2 HV
      go_wp2_with fail
      go_ret
      exact ⟨c, outs, rfl, hc, HOL.out, HOW.out, HROW.out, hx, hsz, HV2.out⟩

set_option maxRecDepth 100000 in
set_option maxHeartbeats 1000000 in
theorem addVV_walk (g o : Nat) (zs xs ys : List Nat) (X Y : Option Addr) (cz cx cy : Nat) (w : World) (hrow : Row w g .u64 106 zs) (hsx : Src w g o zs X xs) (hsy : Src w g o zs Y ys) (hxy : ys.length = xs.length) (hz : o + xs.length ≤ zs.length)
    (hxw : ∀ d ∈ xs, d < 18446744073709551616) (hyw : ∀ d ∈ ys, d < 18446744073709551616) (hl : xs.length ≤ 1000000) (ho : o ≤ 1000000) :
    Calls Tryz.prog 137 #[.slice (some ⟨g, o, none⟩) xs.length cz, .slice X xs.length cx, .slice Y xs.length cy] w (VvPost w g o zs xs ys AddL) := by
  have HG := Lib.hid (addVV_g_walk g o zs xs ys X Y cz cx cy w hrow hsx hsy hxy hz hxw hyw hl ho)
  clear hrow hsx hsy hxy hxw hyw
  go_enter Tryz.func137, Tryz.ntmps137
  go_wp2_with fail
  refine HG.out.mono ?_
  rintro e w1 ⟨c, outs, rfl, hp⟩
  go_wp2_with fail
  go_ret
  exact ⟨c, outs, rfl, hp⟩

set_option maxRecDepth 100000 in
set_option maxHeartbeats 2000000 in
theorem subVV_g_walk (g o : Nat) (zs xs ys : List Nat) (X Y : Option Addr) (cz cx cy : Nat) (w : World) (hrow : Row w g .u64 106 zs) (hsx : Src w g o zs X xs) (hsy : Src w g o zs Y ys) (hxy : ys.length = xs.length) (hz : o + xs.length ≤ zs.length)
    (hxw : ∀ d ∈ xs, d < 18446744073709551616) (hyw : ∀ d ∈ ys, d < 18446744073709551616) (hl : xs.length ≤ 1000000) (_ho : o ≤ 1000000) :
    Calls Tryz.prog 174 #[.slice (some ⟨g, o, none⟩) xs.length cz, .slice X xs.length cx, .slice Y xs.length cy] w (VvPost w g o zs xs ys SubL) := by
  have HS := Lib.hid hsx
  have HT := Lib.hid hsy
  have HR := Lib.hid hrow
  have HX := Lib.hid hxw
  have HY := Lib.hid hyw
  have HXY := Lib.hid hxy
  clear hsx hsy hrow hxw hyw hxy
  go_enter Tryz.func174, Tryz.ntmps174
  go_wp2_with fail
  go_loopw [6, 25] (fun cv iv wr => VvRel w g o zs xs ys SubL cv iv wr) (fun _ iv _ => idxOf xs.length iv)
  case atStart => exact ⟨0, [], rfl, rfl, by decide, Nat.zero_le _, by simp, by rw [over_nil]; exact HR.out, Ext.refl _ _, rfl, by simp [valD, SubL]⟩
  case round =>
    obtain ⟨c, outs, rfl, rfl, hc, hol, how, hrow, hx, hsz, hval⟩ := hrel
    have HOW := Lib.hid how
    have HROW := Lib.hid hrow
    have HV := Lib.hid hval
    clear how hval
    by_cases hlt : outs.length < xs.length
    · obtain ⟨k, hk⟩ : ∃ k, outs.length = k := ⟨_, rfl⟩
      obtain ⟨a, rfl, ha⟩ := HS.out.cell hz hrow hx hlt
      obtain ⟨b, rfl, hb⟩ := HT.out.cell (by rw [HXY.out]; exact hz) hrow hx (by rw [HXY.out]; exact hlt)
      obtain ⟨x, hxk⟩ : ∃ x, xs[outs.length] = x := ⟨_, rfl⟩
      obtain ⟨y, hyk⟩ : ∃ y, ys[outs.length]'(by rw [HXY.out]; exact hlt) = y := ⟨_, rfl⟩
      have hxw : x < 18446744073709551616 := by rw [← hxk]; exact HX.out _ (List.getElem_mem _)
      have hyw : y < 18446744073709551616 := by rw [← hyk]; exact HY.out _ (List.getElem_mem _)
      rw [hxk] at ha
      rw [hyk] at hb
      have hkl : k < xs.length := by omega
      have hkl' : (k : Int) < xs.length := by omega
      have hk0 : (0 : Int) ≤ (k : Int) := by omega
      have fR := hrow.free (o + k)
      have hcR := hrow.cell (j := o + k) (by rw [over_length (by omega)]; omega)
      obtain ⟨old, hold⟩ : ∃ old, (over zs o outs)[o + k]'(by rw [over_length (by omega)]; omega) = old := ⟨_, rfl⟩
      rw [hold] at hcR
      rw [hk] at ha hb ⊢
      clear hrow
      have hW := bitsSub_walk x y c
      obtain ⟨q, hq⟩ : ∃ q, borrow x y c = q := ⟨_, rfl⟩
      obtain ⟨s, hs⟩ : ∃ s, (x + 18446744073709551616 - y - c) % 18446744073709551616 = s := ⟨_, rfl⟩
      have hqw : q ≤ 1 := by rw [← hq]; unfold borrow; split <;> omega
      have hsw : s < 18446744073709551616 := by rw [← hs]; exact Nat.mod_lt _ (by decide)
      have hqs : s + y + c = x + 18446744073709551616 * q := by unfold borrow at hq; split at hq <;> omega
      rw [hq, hs] at hW
      have HW := Lib.hid hW
      clear hW
      go_wp2_with fail
      go_quiet ((go_at_call 175; exact Calls.quiet_of_same ((HW.out _ hxw hyw hc).mono fun _ _ h => ⟨h.1, h.2.symm⟩)))
      go_wp2_with fail
      have hset := over_set (zs := zs) (outs := outs) (o := o) (v := s) (by omega)
      rw [hk] at hset
      have hst : ∀ nd, Row ((wr.drewN nd).setCell ⟨g, o + k, none⟩ (.int .u64 (s : Int))) g .u64 106 (over zs o (outs ++ [s])) := by intro nd; rw [← hset]; exact (HROW.out.drew nd).set _ _
      have hv := HV.out
      rw [hk] at hv
      refine ⟨⟨q, outs ++ [s], by rw [List.length_append, hk]; go_num, rfl, hqw, by simp; omega, ?_, hst _, (hx.drewN _).setCell (p := ⟨g, o + k, none⟩) (fun _ => rfl) _, by simpa [World.setCell, World.drewN] using hsz, ?_⟩, by simp [idxOf]; omega⟩
      · intro d hd
        rcases List.mem_append.1 hd with h | h
        · exact HOW.out d h
        · simp at h; omega
      · rw [List.length_append, hk]
        exact svv_step hk hkl (by rw [HXY.out]; exact hkl) (by rw [← hxk]; simp only [hk]) (by rw [← hyk]; simp only [hk]) hqs hv
    · have hol2 : outs.length = xs.length := by omega
      have hlt' : ¬ (outs.length : Int) < xs.length := by omega
      have hv := HV.out
      rw [hol2, List.take_of_length_le (Nat.le_refl _), List.take_of_length_le (by rw [HXY.out]; exact Nat.le_refl _)] at hv
      have HV2 := Lib.hid hv
      have HOL := Lib.hid hol2
      clear hv hol2 HV
      go_wp2_with fail
      go_ret
      exact ⟨c, outs, rfl, hc, HOL.out, HOW.out, HROW.out, hx, hsz, HV2.out⟩

set_option maxRecDepth 100000 in
set_option maxHeartbeats 1000000 in
theorem subVV_walk (g o : Nat) (zs xs ys : List Nat) (X Y : Option Addr) (cz cx cy : Nat) (w : World) (hrow : Row w g .u64 106 zs) (hsx : Src w g o zs X xs) (hsy : Src w g o zs Y ys) (hxy : ys.length = xs.length) (hz : o + xs.length ≤ zs.length)
    (hxw : ∀ d ∈ xs, d < 18446744073709551616) (hyw : ∀ d ∈ ys, d < 18446744073709551616) (hl : xs.length ≤ 1000000) (ho : o ≤ 1000000) :
    Calls Tryz.prog 140 #[.slice (some ⟨g, o, none⟩) xs.length cz, .slice X xs.length cx, .slice Y xs.length cy] w (VvPost w g o zs xs ys SubL) := by
  have HG := Lib.hid (subVV_g_walk g o zs xs ys X Y cz cx cy w hrow hsx hsy hxy hz hxw hyw hl ho)
  clear hrow hsx hsy hxy hxw hyw
  go_enter Tryz.func140, Tryz.ntmps140
  go_wp2_with fail
  refine HG.out.mono ?_
  rintro e w1 ⟨c, outs, rfl, hp⟩
  go_wp2_with fail
  go_ret
  exact ⟨c, outs, rfl, hp⟩

end Go.Proofs.YtapfolgiafnllaaGreatDoor

/-
  math/big's addMulVVWW.
-/
namespace Go.Proofs.YtapfolgiafnllaaGreatDoor
open Go.RowKit

theorem amv_step {outs xs ys : List Nat} {k c x y m a q s : Nat} (hk : outs.length = k) (hl : k < xs.length) (hm : k < ys.length) (hx : xs[k] = x) (hy : ys[k] = y) (hqs : s + 18446744073709551616 * q = y * m + x + c)
    (h : valD 18446744073709551616 outs + 18446744073709551616 ^ k * c = valD 18446744073709551616 (xs.take k) + valD 18446744073709551616 (ys.take k) * m + a) :
    valD 18446744073709551616 (outs ++ [s]) + 18446744073709551616 ^ (k + 1) * q = valD 18446744073709551616 (xs.take (k + 1)) + valD 18446744073709551616 (ys.take (k + 1)) * m + a := by
  rw [valD_take_succ hl, valD_take_succ hm, valD_append, hk, hx, hy, Nat.pow_succ]
  generalize 18446744073709551616 ^ k = P at *
  generalize valD 18446744073709551616 outs = V at *
  generalize valD 18446744073709551616 (xs.take k) = U at *
  generalize valD 18446744073709551616 (ys.take k) = T at *
  simp only [valD, Nat.mul_zero, Nat.add_zero]
  have e2 : P * s + P * 18446744073709551616 * q = P * (y * m) + P * x + P * c := by rw [← Nat.mul_add P (y * m) x, ← Nat.mul_add, ← hqs, Nat.mul_add, Nat.mul_assoc]
  have e3 : (T + P * y) * m = T * m + P * (y * m) := by rw [Nat.add_mul, Nat.mul_assoc]
  omega
def AmvRel (w : World) (g o : Nat) (zs xs ys : List Nat) (m a : Nat) (cv iv : Value) (wr : World) : Prop :=
  ∃ (c : Nat) (outs : List Nat), iv = .int .i64 (outs.length : Int) ∧ cv = .int .u64 c ∧ c < 18446744073709551616 ∧ outs.length ≤ xs.length ∧ (∀ d ∈ outs, d < 18446744073709551616) ∧
    Row wr g .u64 106 (over zs o outs) ∧ Ext (fun b => b = g) w wr ∧ wr.heap.size = w.heap.size ∧
    valD 18446744073709551616 outs + 18446744073709551616 ^ outs.length * c = valD 18446744073709551616 (xs.take outs.length) + valD 18446744073709551616 (ys.take outs.length) * m + a
def AmvPost (w : World) (g o : Nat) (zs xs ys : List Nat) (m a : Nat) (e : Ending) (w' : World) : Prop :=
  ∃ (c : Nat) (outs : List Nat), e = .returned (.int .u64 c) ∧ c < 18446744073709551616 ∧ outs.length = xs.length ∧ (∀ d ∈ outs, d < 18446744073709551616) ∧
    Row w' g .u64 106 (over zs o outs) ∧ Ext (fun b => b = g) w w' ∧ w'.heap.size = w.heap.size ∧
    valD 18446744073709551616 outs + 18446744073709551616 ^ xs.length * c = valD 18446744073709551616 xs + valD 18446744073709551616 ys * m + a

set_option maxRecDepth 100000 in
set_option maxHeartbeats 2000000 in
theorem addMulVVWW_g_walk (g o : Nat) (zs xs ys : List Nat) (X Y : Option Addr) (cz cx cy m a : Nat) (w : World) (hrow : Row w g .u64 106 zs) (hsx : Src w g o zs X xs) (hsy : Src w g o zs Y ys) (hxy : ys.length = xs.length) (hz : o + xs.length ≤ zs.length)
    (hxw : ∀ d ∈ xs, d < 18446744073709551616) (hyw : ∀ d ∈ ys, d < 18446744073709551616) (hm : m < 18446744073709551616) (ha : a < 18446744073709551616) (hl : xs.length ≤ 1000000) (_ho : o ≤ 1000000) :
    Calls Tryz.prog 228 #[.slice (some ⟨g, o, none⟩) xs.length cz, .slice X xs.length cx, .slice Y xs.length cy, .int .u64 m, .int .u64 a] w (AmvPost w g o zs xs ys m a) := by
  have HS := Lib.hid hsx
  have HT := Lib.hid hsy
  have HR := Lib.hid hrow
  have HX := Lib.hid hxw
  have HY := Lib.hid hyw
  have HXY := Lib.hid hxy
  clear hsx hsy hrow hxw hyw hxy
  go_enter Tryz.func228, Tryz.ntmps228
  go_wp2_with fail
  go_loopw [10, 32] (fun cv iv wr => AmvRel w g o zs xs ys m a cv iv wr) (fun _ iv _ => idxOf xs.length iv)
  case atStart => exact ⟨a, [], rfl, rfl, ha, Nat.zero_le _, by simp, by rw [over_nil]; exact HR.out, Ext.refl _ _, rfl, by simp [valD]⟩
  case round =>
    obtain ⟨c, outs, rfl, rfl, hc, hol, how, hrow, hx, hsz, hval⟩ := hrel
    have HOW := Lib.hid how
    have HROW := Lib.hid hrow
    have HV := Lib.hid hval
    clear how hval
    by_cases hlt : outs.length < xs.length
    · obtain ⟨k, hk⟩ : ∃ k, outs.length = k := ⟨_, rfl⟩
      obtain ⟨a1, rfl, ha1⟩ := HS.out.cell hz hrow hx hlt
      obtain ⟨b1, rfl, hb1⟩ := HT.out.cell (by rw [HXY.out]; exact hz) hrow hx (by rw [HXY.out]; exact hlt)
      obtain ⟨x, hxk⟩ : ∃ x, xs[outs.length] = x := ⟨_, rfl⟩
      obtain ⟨y, hyk⟩ : ∃ y, ys[outs.length]'(by rw [HXY.out]; exact hlt) = y := ⟨_, rfl⟩
      have hxw : x < 18446744073709551616 := by rw [← hxk]; exact HX.out _ (List.getElem_mem _)
      have hyw : y < 18446744073709551616 := by rw [← hyk]; exact HY.out _ (List.getElem_mem _)
      rw [hxk] at ha1
      rw [hyk] at hb1
      have hkl : k < xs.length := by omega
      have hkl' : (k : Int) < xs.length := by omega
      have hk0 : (0 : Int) ≤ (k : Int) := by omega
      have fR := hrow.free (o + k)
      have hcR := hrow.cell (j := o + k) (by rw [over_length (by omega)]; omega)
      obtain ⟨old, hold⟩ : ∃ old, (over zs o outs)[o + k]'(by rw [over_length (by omega)]; omega) = old := ⟨_, rfl⟩
      rw [hold] at hcR
      rw [hk] at ha1 hb1 ⊢
      clear hrow
      have hym : y * m ≤ 18446744073709551615 * 18446744073709551615 := Nat.mul_le_mul (by omega) (by omega)
      have hW := fun w => mulAddWWW_walk y m x w hyw hm hxw
      obtain ⟨P, hP⟩ : ∃ P, y * m = P := ⟨_, rfl⟩
      simp only [hP] at hW hym
      obtain ⟨z1, hz1⟩ : ∃ z1, (P + x) / 18446744073709551616 = z1 := ⟨_, rfl⟩
      obtain ⟨z0, hz0⟩ : ∃ z0, (P + x) % 18446744073709551616 = z0 := ⟨_, rfl⟩
      simp only [hz1, hz0] at hW
      have hz0w : z0 < 18446744073709551616 := by rw [← hz0]; exact Nat.mod_lt _ (by decide)
      have hB := fun w => bitsAdd_walk z0 c 0 w hz0w hc (by decide)
      obtain ⟨s, hs⟩ : ∃ s, (z0 + c + 0) % 18446744073709551616 = s := ⟨_, rfl⟩
      obtain ⟨cc, hcc⟩ : ∃ cc, (z0 + c + 0) / 18446744073709551616 = cc := ⟨_, rfl⟩
      simp only [hs, hcc] at hB
      have hsw : s < 18446744073709551616 := by rw [← hs]; exact Nat.mod_lt _ (by decide)
      have hqw : cc + z1 < 18446744073709551616 := by omega
      have hqs : s + 18446744073709551616 * (cc + z1) = y * m + x + c := by rw [hP]; omega
      have HQS := Lib.hid hqs
      have HQW := Lib.hid hqw
      have hqi : (cc : Int) + z1 ≤ 18446744073709551615 := by omega
      have hqn : (cc : Int) + z1 = ((cc + z1 : Nat) : Int) := by omega
      have HQN := Lib.hid hqn
      have HW := Lib.hid hW
      have HB := Lib.hid hB
      clear hW hB hqs hP hz1 hz0 hs hcc hym hqn hqw
      go_wp2_with fail
      go_quiet ((go_at_call 241; exact Calls.quiet_of_same ((HW.out _).mono fun _ _ h => ⟨h.1, h.2.symm⟩)))
      go_wp2_with fail
      refine (HB.out _).mono ?_
      rintro e w2 ⟨rfl, rfl⟩
      go_wp2_with fail
      have hset := over_set (zs := zs) (outs := outs) (o := o) (v := s) (by omega)
      rw [hk] at hset
      have hst : ∀ nd, Row ((wr.drewN nd).setCell ⟨g, o + k, none⟩ (.int .u64 (s : Int))) g .u64 106 (over zs o (outs ++ [s])) := by intro nd; rw [← hset]; exact (HROW.out.drew nd).set _ _
      have hv := HV.out
      rw [hk] at hv
      refine ⟨⟨cc + z1, outs ++ [s], by rw [List.length_append, hk]; go_num, by rw [HQN.out], HQW.out, by simp; omega, ?_, hst _, (hx.drewN _).setCell (p := ⟨g, o + k, none⟩) (fun _ => rfl) _, by simpa [World.setCell, World.drewN] using hsz, ?_⟩, by simp [idxOf]; omega⟩
      · intro d hd
        rcases List.mem_append.1 hd with h | h
        · exact HOW.out d h
        · simp at h; omega
      · rw [List.length_append, hk]
        exact amv_step hk hkl (by rw [HXY.out]; exact hkl) (by rw [← hxk]; simp only [hk]) (by rw [← hyk]; simp only [hk]) HQS.out hv
    · have hol2 : outs.length = xs.length := by omega
      have hlt' : ¬ (outs.length : Int) < xs.length := by omega
      have hv := HV.out
      rw [hol2, List.take_of_length_le (Nat.le_refl _), List.take_of_length_le (by rw [HXY.out]; exact Nat.le_refl _)] at hv
      have HV2 := Lib.hid hv
      have HOL := Lib.hid hol2
      clear hv hol2 HV
      go_wp2_with fail
      go_ret
      exact ⟨c, outs, rfl, hc, HOL.out, HOW.out, HROW.out, hx, hsz, HV2.out⟩

set_option maxRecDepth 100000 in
set_option maxHeartbeats 1000000 in
theorem addMulVVWW_walk (g o : Nat) (zs xs ys : List Nat) (X Y : Option Addr) (cz cx cy m a : Nat) (w : World) (hrow : Row w g .u64 106 zs) (hsx : Src w g o zs X xs) (hsy : Src w g o zs Y ys) (hxy : ys.length = xs.length) (hz : o + xs.length ≤ zs.length)
    (hxw : ∀ d ∈ xs, d < 18446744073709551616) (hyw : ∀ d ∈ ys, d < 18446744073709551616) (hm : m < 18446744073709551616) (ha : a < 18446744073709551616) (hl : xs.length ≤ 1000000) (ho : o ≤ 1000000) :
    Calls Tryz.prog 198 #[.slice (some ⟨g, o, none⟩) xs.length cz, .slice X xs.length cx, .slice Y xs.length cy, .int .u64 m, .int .u64 a] w (AmvPost w g o zs xs ys m a) := by
  have HG := Lib.hid (addMulVVWW_g_walk g o zs xs ys X Y cz cx cy m a w hrow hsx hsy hxy hz hxw hyw hm ha hl ho)
  clear hrow hsx hsy hxy hxw hyw
  go_enter Tryz.func198, Tryz.ntmps198
  go_wp2_with fail
  refine HG.out.mono ?_
  rintro e w1 ⟨c, outs, rfl, hp⟩
  go_wp2_with fail
  go_ret
  exact ⟨c, outs, rfl, hp⟩
end Go.Proofs.YtapfolgiafnllaaGreatDoor

/-
  nat.cmp.
-/
namespace Go.Proofs.YtapfolgiafnllaaGreatDoor
open Go.RowKit

def NcRel (xs ys : List Nat) (w : World) (iv : Value) (wr : World) : Prop := ∃ k nd : Nat, iv = .int .i64 k ∧ k < xs.length ∧ xs.drop (k + 1) = ys.drop (k + 1) ∧ wr = w.drewN nd
set_option maxRecDepth 100000 in
set_option maxHeartbeats 4000000 in
theorem natCmp_walk (N M : Nat) (A B : Option Addr) (c d : Nat) (w : World) (hc : (wds N).length ≤ c) (hd : (wds M).length ≤ d) (hcm : c ≤ 9223372036854775807) (_hdm : d ≤ 9223372036854775807)
    (hr : Rd w A (nums .u64 (wds N))) (hs : Rd w B (nums .u64 (wds M))) :
    Calls Tryz.prog 113 #[.slice A (wds N).length c, .slice B (wds M).length d] w fun e w' => e = .returned (.int .i64 (sgnC ((N : Int) - M))) ∧ Drawn w w' := by
  have hln : (wds N).length < (wds M).length → N < M := toD_len_lt (by decide)
  have hlm : (wds M).length < (wds N).length → M < N := toD_len_lt (by decide)
  have hvn := wds_val N
  have hvm := wds_val M
  have hdn := wds_lt N
  have hdm2 := wds_lt M
  have hinj : wds N = wds M → N = M := toD_inj (by decide)
  obtain ⟨xs, hxs⟩ : ∃ xs, wds N = xs := ⟨_, rfl⟩
  obtain ⟨ys, hys⟩ : ∃ ys, wds M = ys := ⟨_, rfl⟩
  rw [hxs] at hr hc hln hlm hvn hdn hinj ⊢
  rw [hys] at hs hd hln hlm hvm hdm2 hinj ⊢
  clear hxs hys
  have HR := Lib.hid hr
  have HS := Lib.hid hs
  have HVN := Lib.hid hvn
  have HVM := Lib.hid hvm
  have HIJ := Lib.hid hinj
  have HDN := Lib.hid hdn
  have HDM := Lib.hid hdm2
  clear hr hs hvn hvm hinj hdn hdm2
  obtain ⟨R, hR⟩ : ∃ R, sgnC ((N : Int) - M) = R := ⟨_, rfl⟩
  rw [hR]
  have HRR := Lib.hid hR
  clear hR
  by_cases hl : xs.length = ys.length
  · by_cases h0 : xs.length = 0
    · have he : xs = ys := by rw [List.length_eq_zero_iff.1 h0, List.length_eq_zero_iff.1 (hl.symm.trans h0)]
      have hnm := HIJ.out he
      have hs0 : R = 0 := by rw [← HRR.out]; subst hnm; unfold sgnC; simp
      subst hs0
      obtain rfl : xs = [] := List.length_eq_zero_iff.1 h0
      obtain rfl : ys = [] := he.symm
      clear hl h0 he hnm
      go_enter Tryz.func113, Tryz.ntmps113
      go_wp2_with fail
      go_ret
      exact ⟨rfl, Drawn.refl _⟩
    · have hlb : ((xs.length : Int) != ys.length) = false := by rw [hl]; simp
      have h0b : ((xs.length : Int) == 0) = false := beq_eq_false_iff_ne.2 (by omega)
      have HL := Lib.hid hl
      clear hl
      have e0 : (xs.length : Int) - 1 = ((xs.length - 1 : Nat) : Int) := by omega
      obtain ⟨l1, hl1⟩ : ∃ l1, xs.length - 1 = l1 := ⟨_, rfl⟩
      rw [hl1] at e0
      have HL1 := Lib.hid hl1
      clear hl1
      go_enter Tryz.func113, Tryz.ntmps113
      go_wp2_with fail
      clear e0
      go_loopw [7] (fun iv wr => NcRel xs ys w iv wr) (fun iv _ => natOf iv)
      case atStart => exact ⟨l1, 0, rfl, by have := HL1.out; omega, by rw [List.drop_of_length_le (by have := HL1.out; omega), List.drop_of_length_le (by have := HL1.out; have := HL.out; omega)], rfl⟩
      case round =>
        obtain ⟨k, nd, rfl, hk, hdrop, rfl⟩ := hrel
        have HDR := Lib.hid hdrop
        clear hdrop
        have hk2 : k < ys.length := by have := HL.out; omega
        obtain ⟨a, rfl, ha⟩ := rd_cell HR.out hk
        obtain ⟨b, rfl, hb⟩ := rd_cell HS.out hk2
        obtain ⟨x, hx⟩ : ∃ x, xs[k] = x := ⟨_, rfl⟩
        obtain ⟨y, hy⟩ : ∃ y, ys[k] = y := ⟨_, rfl⟩
        rw [hx] at ha
        rw [hy] at hb
        have hlt1 : (k : Int) < xs.length := by omega
        have hlt2 : (k : Int) < ys.length := by omega
        have hk0 : (0 : Int) ≤ (k : Int) := by omega
        have hsd := cmp_split hk hx
        have hse := cmp_split hk2 hy
        have HSD := Lib.hid hsd
        have HSE := Lib.hid hse
        clear hsd hse
        by_cases hxy : x = y
        · have hb1 : ((x : Int) == y) = true := by rw [hxy]; simp
          have hstep : xs.drop k = ys.drop k := by
            rw [List.drop_eq_getElem_cons hk, List.drop_eq_getElem_cons hk2, hx, hy, hxy, HDR.out]
          have HST := Lib.hid hstep
          by_cases hk00 : 0 < k
          · have hk1 : (0 : Int) < (k : Int) := by omega
            clear hstep hxy hx hy
            go_wp2_with fail
            go_quiet (fail)
            go_wp2_with fail
            exact ⟨⟨k - 1, _, by congr 1; omega, by omega, by rw [show k - 1 + 1 = k from by omega]; exact HST.out, by first | rfl | rw [World.drewN_drewN]⟩, by simp [natOf]; omega⟩
          · obtain rfl : k = 0 := by omega
            have he : xs = ys := by have := HST.out; simpa using this
            have hnm := HIJ.out he
            have hs0 : R = 0 := by rw [← HRR.out]; subst hnm; unfold sgnC; simp
            have hb2 : decide (x < y) = false := decide_eq_false (by omega)
            have hb3 : decide (y < x) = false := decide_eq_false (by omega)
            subst hs0
            rw [Addr.add_zero'] at ha hb
            clear hstep hxy he hnm hx hy
            go_wp2_with fail
            go_quiet (fail)
            go_wp2_with fail
            go_quiet (fail)
            go_wp2_with fail
            go_quiet (fail)
            go_wp2_with fail
            go_ret
            exact ⟨rfl, _, by rw [World.drewN_drewN, World.drewN_drewN, World.drewN_drewN]⟩
        · have hb1 : ((x : Int) == y) = false := beq_eq_false_iff_ne.2 (by omega)
          by_cases hlt : x < y
          · have hb2 : decide (x < y) = true := decide_eq_true hlt
            have hb3 : decide (y < x) = false := decide_eq_false (by omega)
            have hnm : N < M := by
              have := valD_cmp (b := 18446744073709551616) (by decide) (xs := xs.take k) (ys := ys.take k) (t := xs.drop (k + 1)) (x := x) (y := y) (fun d hd => HDN.out d (List.mem_of_mem_take hd)) (by have := HL.out; simp; omega) hlt
              rw [← HSD.out, HDR.out, ← HSE.out, HVN.out, HVM.out] at this
              exact this
            have hs0 : R = -1 := by rw [← HRR.out]; unfold sgnC; rw [if_pos (by omega)]
            subst hs0
            clear hnm hxy hx hy
            by_cases hk00 : 0 < k
            · have hk1 : (0 : Int) < (k : Int) := by omega
              go_wp2_with fail
              go_quiet (fail)
              go_wp2_with fail
              go_quiet (fail)
              go_wp2_with fail
              go_ret
              exact ⟨rfl, _, by rw [World.drewN_drewN, World.drewN_drewN]⟩
            · obtain rfl : k = 0 := by omega
              rw [Addr.add_zero'] at ha hb
              go_wp2_with fail
              go_quiet (fail)
              go_wp2_with fail
              go_quiet (fail)
              go_wp2_with fail
              go_ret
              exact ⟨rfl, _, by rw [World.drewN_drewN, World.drewN_drewN]⟩
          · have hb2 : decide (x < y) = false := decide_eq_false hlt
            have hb3 : decide (y < x) = true := decide_eq_true (by omega)
            have hnm : M < N := by
              have := valD_cmp (b := 18446744073709551616) (by decide) (xs := ys.take k) (ys := xs.take k) (t := ys.drop (k + 1)) (x := y) (y := x) (fun d hd => HDM.out d (List.mem_of_mem_take hd)) (by have := HL.out; simp; omega) (by omega)
              rw [← HSE.out, ← HDR.out, ← HSD.out, HVN.out, HVM.out] at this
              exact this
            have hs0 : R = 1 := by rw [← HRR.out]; unfold sgnC; rw [if_neg (by omega), if_neg (by omega)]
            subst hs0
            clear hnm hxy hx hy
            by_cases hk00 : 0 < k
            · have hk1 : (0 : Int) < (k : Int) := by omega
              go_wp2_with fail
              go_quiet (fail)
              go_wp2_with fail
              go_quiet (fail)
              go_wp2_with fail
              go_quiet (fail)
              go_wp2_with fail
              go_ret
              exact ⟨rfl, _, by rw [World.drewN_drewN, World.drewN_drewN, World.drewN_drewN]⟩
            · obtain rfl : k = 0 := by omega
              rw [Addr.add_zero'] at ha hb
              go_wp2_with fail
              go_quiet (fail)
              go_wp2_with fail
              go_quiet (fail)
              go_wp2_with fail
              go_quiet (fail)
              go_wp2_with fail
              go_ret
              exact ⟨rfl, _, by rw [World.drewN_drewN, World.drewN_drewN, World.drewN_drewN]⟩
  · have hlb : ((xs.length : Int) != ys.length) = true := by rw [bne_iff_ne]; omega
    by_cases hlt : xs.length < ys.length
    · have hb2 : decide ((xs.length : Int) < ys.length) = true := decide_eq_true (by omega)
      have hs0 : R = -1 := by rw [← HRR.out]; have := hln hlt; unfold sgnC; rw [if_pos (by omega)]
      subst hs0
      go_enter Tryz.func113, Tryz.ntmps113
      go_wp2_with fail
      go_ret
      exact ⟨rfl, Drawn.refl _⟩
    · have hb2 : decide ((xs.length : Int) < ys.length) = false := decide_eq_false (by omega)
      have hb3 : decide ((ys.length : Int) < xs.length) = true := decide_eq_true (by omega)
      have hs0 : R = 1 := by rw [← HRR.out]; have := hlm (by omega); unfold sgnC; rw [if_neg (by omega), if_neg (by omega)]
      subst hs0
      go_enter Tryz.func113, Tryz.ntmps113
      go_wp2_with fail
      go_ret
      exact ⟨rfl, Drawn.refl _⟩
end Go.Proofs.YtapfolgiafnllaaGreatDoor
