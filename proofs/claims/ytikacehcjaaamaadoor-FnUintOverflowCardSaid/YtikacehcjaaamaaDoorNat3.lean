/-
  math/big's mulAddVWW.
-/
import Derived.Test.YtikacehcjaaamaaDoorNat2
import Derived.StillTailTactics
namespace Go.Proofs.YtikacehcjaaamaaDoor
open Go.RowKit

/-- The words xs are read at X: where block g's words from o on lie, or in another block. -/
def Src (w : World) (g o : Nat) (zs : List Nat) (X : Option Addr) (xs : List Nat) : Prop :=
  (X = some ⟨g, o, none⟩ ∧ ∃ r, zs.drop o = xs ++ r) ∨ (Rd w X (nums .u64 xs) ∧ ∀ a, X = some a → a.block ≠ g)
theorem add_none (g o j : Nat) : (⟨g, o, none⟩ : Addr).add j = ⟨g, o + j, none⟩ := add_off g o j

/-- A block's words, the first k from o on being new. -/
def over (zs : List Nat) (o : Nat) (outs : List Nat) : List Nat := zs.take o ++ outs ++ zs.drop (o + outs.length)
theorem over_nil (zs : List Nat) (o : Nat) : over zs o [] = zs := by simp [over]
theorem over_length {zs outs : List Nat} {o : Nat} (h : o + outs.length ≤ zs.length) : (over zs o outs).length = zs.length := by
  simp [over]; omega
theorem over_set {zs outs : List Nat} {o v : Nat} (h : o + outs.length < zs.length) : (over zs o outs).set (o + outs.length) v = over zs o (outs ++ [v]) := by
  have h1 : (zs.take o ++ outs).length = o + outs.length := by simp; omega
  unfold over
  rw [List.set_append_right _ _ (by rw [h1]; exact Nat.le_refl _), h1, Nat.sub_self, List.drop_eq_getElem_cons h, List.set_cons_zero]
  simp [Nat.add_assoc]
theorem over_get {zs outs : List Nat} {o j : Nat} (hj : outs.length ≤ j) (h : o + j < zs.length) (h2 : o + j < (over zs o outs).length) : (over zs o outs)[o + j] = zs[o + j] := by
  have h1 : (zs.take o ++ outs).length = o + outs.length := by simp; omega
  apply Option.some.inj
  rw [← List.getElem?_eq_getElem, ← List.getElem?_eq_getElem]
  unfold over
  rw [List.getElem?_append_right (by rw [h1]; omega), h1, List.getElem?_drop]
  congr 1
  omega
/-- A word of the source, read where k words have been written. -/
theorem Src.cell {w wr : World} {g o : Nat} {zs : List Nat} {T : TypeId} {X : Option Addr} {xs outs : List Nat} (h : Src w g o zs X xs) (hz : o + xs.length ≤ zs.length) (hrow : Row wr g .u64 T (over zs o outs)) (hx : Ext (fun b => b = g) w wr)
    (hk : outs.length < xs.length) : ∃ a, X = some a ∧ wr.cell? (a.add outs.length) = some (.int .u64 (xs[outs.length] : Int)) := by
  rcases h with ⟨rfl, r, hr⟩ | ⟨hr, hne⟩
  · refine ⟨_, rfl, ?_⟩
    rw [add_none]
    have hol := over_length (zs := zs) (outs := outs) (o := o) (by omega)
    rw [hrow.cell (j := o + outs.length) (by omega), over_get (Nat.le_refl _) (by omega)]
    congr 3
    have e : zs[o + outs.length]'(by omega) = (zs.drop o)[outs.length]'(by simp; omega) := by simp
    rw [e]
    simp only [hr]
    rw [List.getElem_append_left hk]
  · obtain ⟨a, rfl, ha⟩ := rd_cell hr hk
    refine ⟨a, rfl, ?_⟩
    have hb := hne a rfl
    have : (a.add outs.length).block = a.block := add_block a outs.length
    rw [World.cell?_of_block (w := w) (hx.block (a.add outs.length).block (World.block_lt_of_cell? w _ ha) (by rw [this]; exact hb))]
    exact ha

/-- The loop of mulAddVWW. -/
def MavRel (w : World) (g o : Nat) (zs xs : List Nat) (y r : Nat) (cv iv : Value) (wr : World) : Prop :=
  ∃ (c : Nat) (outs : List Nat), iv = .int .i64 (outs.length : Int) ∧ cv = .int .u64 c ∧ c < 18446744073709551616 ∧ outs.length ≤ xs.length ∧ (∀ d ∈ outs, d < 18446744073709551616) ∧
    Row wr g .u64 90 (over zs o outs) ∧ Ext (fun b => b = g) w wr ∧ wr.heap.size = w.heap.size ∧ valD 18446744073709551616 outs + 18446744073709551616 ^ outs.length * c = valD 18446744073709551616 (xs.take outs.length) * y + r
/-- What mulAddVWW leaves behind. -/
def MavPost (w : World) (g o : Nat) (zs xs : List Nat) (y r : Nat) (e : Ending) (w' : World) : Prop :=
  ∃ (c : Nat) (outs : List Nat), e = .returned (.int .u64 c) ∧ c < 18446744073709551616 ∧ outs.length = xs.length ∧ (∀ d ∈ outs, d < 18446744073709551616) ∧
    Row w' g .u64 90 (over zs o outs) ∧ Ext (fun b => b = g) w w' ∧ w'.heap.size = w.heap.size ∧ valD 18446744073709551616 outs + 18446744073709551616 ^ xs.length * c = valD 18446744073709551616 xs * y + r

theorem mav_step {outs xs : List Nat} {k c x y r q s : Nat} (hk : outs.length = k) (hl : k < xs.length) (hx : xs[k] = x) (hq : (x * y + c) / 18446744073709551616 = q) (hs : (x * y + c) % 18446744073709551616 = s)
    (h : valD 18446744073709551616 outs + 18446744073709551616 ^ k * c = valD 18446744073709551616 (xs.take k) * y + r) :
    valD 18446744073709551616 (outs ++ [s]) + 18446744073709551616 ^ (k + 1) * q = valD 18446744073709551616 (xs.take (k + 1)) * y + r := by
  rw [valD_take_succ hl, valD_append, hk, hx, Nat.pow_succ]
  generalize 18446744073709551616 ^ k = P at *
  generalize valD 18446744073709551616 outs = V at *
  generalize valD 18446744073709551616 (xs.take k) = U at *
  simp only [valD, Nat.mul_zero, Nat.add_zero]
  have e : s + 18446744073709551616 * q = x * y + c := by rw [← hq, ← hs]; exact Nat.mod_add_div _ _
  have e2 : P * s + P * 18446744073709551616 * q = P * (x * y) + P * c := by rw [← Nat.mul_add P (x * y) c, ← e, Nat.mul_add, Nat.mul_assoc]
  have e3 : (U + P * x) * y = U * y + P * (x * y) := by rw [Nat.add_mul, Nat.mul_assoc]
  omega

set_option maxRecDepth 100000 in
set_option maxHeartbeats 1000000 in
theorem mulAddVWW_g_walk (g o : Nat) (zs xs : List Nat) (X : Option Addr) (cz cx y r : Nat) (w : World) (hrow : Row w g .u64 90 zs) (hsrc : Src w g o zs X xs) (hz : o + xs.length ≤ zs.length)
    (hxw : ∀ d ∈ xs, d < 18446744073709551616) (hy : y < 18446744073709551616) (hr : r < 18446744073709551616) (hl : xs.length ≤ 1000000) (ho : o ≤ 1000000) :
    Calls Tryd.prog 72 #[.slice (some ⟨g, o, none⟩) xs.length cz, .slice X xs.length cx, .int .u64 y, .int .u64 r] w (MavPost w g o zs xs y r) := by
  have HS := Lib.hid hsrc
  have HR := Lib.hid hrow
  have HX := Lib.hid hxw
  clear hsrc hrow hxw
  go_enter Tryd.func72, Tryd.ntmps72
  go_wp2_with fail
  go_loopw [8, 19] (fun cv iv wr => MavRel w g o zs xs y r cv iv wr) (fun _ iv _ => idxOf xs.length iv)
  case atStart => exact ⟨r, [], rfl, rfl, hr, Nat.zero_le _, by simp, by rw [over_nil]; exact HR.out, Ext.refl _ _, rfl, by simp [valD]⟩
  case round =>
    obtain ⟨c, outs, rfl, rfl, hc, hol, how, hrow, hx, hsz, hval⟩ := hrel
    have HOW := Lib.hid how
    have HROW := Lib.hid hrow
    have HV := Lib.hid hval
    clear how hval
    by_cases hlt : outs.length < xs.length
    · obtain ⟨k, hk⟩ : ∃ k, outs.length = k := ⟨_, rfl⟩
      obtain ⟨a, rfl, ha⟩ := HS.out.cell hz hrow hx hlt
      obtain ⟨x, hxk⟩ : ∃ x, xs[outs.length] = x := ⟨_, rfl⟩
      have hxw : x < 18446744073709551616 := by rw [← hxk]; exact HX.out _ (List.getElem_mem _)
      rw [hxk] at ha
      have hkl : k < xs.length := by omega
      have hkl' : (k : Int) < xs.length := by omega
      have hk0 : (0 : Int) ≤ (k : Int) := by omega
      have fR := hrow.free (o + k)
      have hcR := hrow.cell (j := o + k) (by rw [over_length (by omega)]; omega)
      obtain ⟨old, hold⟩ : ∃ old, (over zs o outs)[o + k]'(by rw [over_length (by omega)]; omega) = old := ⟨_, rfl⟩
      rw [hold] at hcR
      rw [hk] at ha ⊢
      clear hrow
      have hxy : x * y ≤ 18446744073709551615 * 18446744073709551615 := Nat.mul_le_mul (by omega) (by omega)
      have hW := mulAddWWW_walk x y c wr hxw hy hc
      obtain ⟨q, hq⟩ : ∃ q, (x * y + c) / 18446744073709551616 = q := ⟨_, rfl⟩
      obtain ⟨s, hs⟩ : ∃ s, (x * y + c) % 18446744073709551616 = s := ⟨_, rfl⟩
      have hqw : q < 18446744073709551616 := by omega
      have hsw : s < 18446744073709551616 := by rw [← hs]; exact Nat.mod_lt _ (by decide)
      rw [hq, hs] at hW
      have HW := Lib.hid hW
      clear hW hxy
      go_wp2_with fail
      refine HW.out.mono ?_
      rintro e w2 ⟨rfl, rfl⟩
      go_wp2_with fail
      have hset := over_set (zs := zs) (outs := outs) (o := o) (v := s) (by omega)
      rw [hk] at hset
      have hst : Row (wr.setCell ⟨g, o + k, none⟩ (.int .u64 (s : Int))) g .u64 90 (over zs o (outs ++ [s])) := by rw [← hset]; exact HROW.out.set _ _
      have hv := HV.out
      rw [hk] at hv
      refine ⟨⟨q, outs ++ [s], by rw [List.length_append, hk]; go_num, rfl, hqw, by simp; omega, ?_, hst, hx.setCell (p := ⟨g, o + k, none⟩) (fun _ => rfl) _, by simpa [World.setCell] using hsz, ?_⟩, by simp [idxOf]; omega⟩
      · intro d hd
        rcases List.mem_append.1 hd with h | h
        · exact HOW.out d h
        · simp at h; omega
      · rw [List.length_append, hk]
        exact mav_step hk hkl (by rw [← hxk]; simp only [hk]) hq hs hv
    · have hol2 : outs.length = xs.length := by omega
      have hlt' : ¬ (outs.length : Int) < xs.length := by omega
      have hv := HV.out
      rw [hol2, List.take_of_length_le (Nat.le_refl _)] at hv
      have HV2 := Lib.hid hv
      have HOL := Lib.hid hol2
      clear hv hol2 HV
      go_wp2_with fail
      go_ret
      exact ⟨c, outs, rfl, hc, HOL.out, HOW.out, HROW.out, hx, hsz, HV2.out⟩

set_option maxRecDepth 100000 in
set_option maxHeartbeats 1000000 in
theorem mulAddVWW_walk (g o : Nat) (zs xs : List Nat) (X : Option Addr) (cz cx y r : Nat) (w : World) (hrow : Row w g .u64 90 zs) (hsrc : Src w g o zs X xs) (hz : o + xs.length ≤ zs.length)
    (hxw : ∀ d ∈ xs, d < 18446744073709551616) (hy : y < 18446744073709551616) (hr : r < 18446744073709551616) (hl : xs.length ≤ 1000000) (ho : o ≤ 1000000) :
    Calls Tryd.prog 67 #[.slice (some ⟨g, o, none⟩) xs.length cz, .slice X xs.length cx, .int .u64 y, .int .u64 r] w (MavPost w g o zs xs y r) := by
  go_enter Tryd.func67, Tryd.ntmps67
  go_wp2_with fail
  refine (mulAddVWW_g_walk g o zs xs X cz cx y r w hrow hsrc hz hxw hy hr hl ho).mono ?_
  rintro e w1 ⟨c, outs, rfl, hp⟩
  go_wp2_with fail
  go_ret
  exact ⟨c, outs, rfl, hp⟩
end Go.Proofs.YtikacehcjaaamaaDoor
