/-
  nat.cmp.
-/
import Derived.Test.YtiohlcfdoleooaaGreatDoorDiv2
import Derived.Test.YtiohlcfdoleooaaGreatDoorNat5
namespace Go.Proofs.YtiohlcfdoleooaaGreatDoor
open Go.RowKit

def NcRel (xs ys : List Nat) (w : World) (iv : Value) (wr : World) : Prop := ∃ k nd : Nat, iv = .int .i64 k ∧ k < xs.length ∧ xs.drop (k + 1) = ys.drop (k + 1) ∧ wr = w.drewN nd
set_option maxRecDepth 100000 in
set_option maxHeartbeats 4000000 in
theorem natCmp_walk (N M : Nat) (A B : Option Addr) (c d : Nat) (w : World) (hc : (wds N).length ≤ c) (hd : (wds M).length ≤ d) (hcm : c ≤ 9223372036854775807) (_hdm : d ≤ 9223372036854775807)
    (hr : Rd w A (nums .u64 (wds N))) (hs : Rd w B (nums .u64 (wds M))) :
    Calls Tryz.prog 181 #[.slice A (wds N).length c, .slice B (wds M).length d] w fun e w' => e = .returned (.int .i64 (sgnC ((N : Int) - M))) ∧ Drawn w w' := by
  have hln : (wds N).length < (wds M).length → N < M := toD_len_lt (by decide)
  have hlm : (wds M).length < (wds N).length → M < N := toD_len_lt (by decide)
  have hvn := wds_val N
  have hvm := wds_val M
  have hdn := wds_lt N
  have hdm2 := wds_lt M
  have hinj : wds N = wds M → N = M := toD_inj (by decide)
  obtain ⟨xs, hxs⟩ : ∃ xs, wds N = xs := ⟨_, rfl⟩
  obtain ⟨ys, hys⟩ : ∃ ys, wds M = ys := ⟨_, rfl⟩
  rw [hxs] at hr hc hln hlm hvn hdn hinj ⊢
  rw [hys] at hs hd hln hlm hvm hdm2 hinj ⊢
  clear hxs hys
  have HR := Lib.hid hr
  have HS := Lib.hid hs
  have HVN := Lib.hid hvn
  have HVM := Lib.hid hvm
  have HIJ := Lib.hid hinj
  have HDN := Lib.hid hdn
  have HDM := Lib.hid hdm2
  clear hr hs hvn hvm hinj hdn hdm2
  obtain ⟨R, hR⟩ : ∃ R, sgnC ((N : Int) - M) = R := ⟨_, rfl⟩
  rw [hR]
  have HRR := Lib.hid hR
  clear hR
  by_cases hl : xs.length = ys.length
  · by_cases h0 : xs.length = 0
    · have he : xs = ys := by rw [List.length_eq_zero_iff.1 h0, List.length_eq_zero_iff.1 (hl.symm.trans h0)]
      have hnm := HIJ.out he
      have hs0 : R = 0 := by rw [← HRR.out]; subst hnm; unfold sgnC; simp
      subst hs0
      obtain rfl : xs = [] := List.length_eq_zero_iff.1 h0
      obtain rfl : ys = [] := he.symm
      clear hl h0 he hnm
      go_enter Tryz.func181, Tryz.ntmps181
      go_wp2_with fail
      go_ret
      exact ⟨rfl, Drawn.refl _⟩
    · have hlb : ((xs.length : Int) != ys.length) = false := by rw [hl]; simp
      have h0b : ((xs.length : Int) == 0) = false := beq_eq_false_iff_ne.2 (by omega)
      have HL := Lib.hid hl
      clear hl
      have e0 : (xs.length : Int) - 1 = ((xs.length - 1 : Nat) : Int) := by omega
      obtain ⟨l1, hl1⟩ : ∃ l1, xs.length - 1 = l1 := ⟨_, rfl⟩
      rw [hl1] at e0
      have HL1 := Lib.hid hl1
      clear hl1
      go_enter Tryz.func181, Tryz.ntmps181
      go_wp2_with fail
      clear e0
      go_loopw [7] (fun iv wr => NcRel xs ys w iv wr) (fun iv _ => natOf iv)
      case atStart => exact ⟨l1, 0, rfl, by have := HL1.out; omega, by rw [List.drop_of_length_le (by have := HL1.out; omega), List.drop_of_length_le (by have := HL1.out; have := HL.out; omega)], rfl⟩
      case round =>
        obtain ⟨k, nd, rfl, hk, hdrop, rfl⟩ := hrel
        have HDR := Lib.hid hdrop
        clear hdrop
        have hk2 : k < ys.length := by have := HL.out; omega
        obtain ⟨a, rfl, ha⟩ := rd_cell HR.out hk
        obtain ⟨b, rfl, hb⟩ := rd_cell HS.out hk2
        obtain ⟨x, hx⟩ : ∃ x, xs[k] = x := ⟨_, rfl⟩
        obtain ⟨y, hy⟩ : ∃ y, ys[k] = y := ⟨_, rfl⟩
        rw [hx] at ha
        rw [hy] at hb
        have hlt1 : (k : Int) < xs.length := by omega
        have hlt2 : (k : Int) < ys.length := by omega
        have hk0 : (0 : Int) ≤ (k : Int) := by omega
        have hsd := cmp_split hk hx
        have hse := cmp_split hk2 hy
        have HSD := Lib.hid hsd
        have HSE := Lib.hid hse
        clear hsd hse
        by_cases hxy : x = y
        · have hb1 : ((x : Int) == y) = true := by rw [hxy]; simp
          have hstep : xs.drop k = ys.drop k := by
            rw [List.drop_eq_getElem_cons hk, List.drop_eq_getElem_cons hk2, hx, hy, hxy, HDR.out]
          have HST := Lib.hid hstep
          by_cases hk00 : 0 < k
          · have hk1 : (0 : Int) < (k : Int) := by omega
            clear hstep hxy hx hy
            go_wp2_with fail
            go_quiet (fail)
            go_wp2_with fail
            exact ⟨⟨k - 1, _, by congr 1; omega, by omega, by rw [show k - 1 + 1 = k from by omega]; exact HST.out, by first | rfl | rw [World.drewN_drewN]⟩, by simp [natOf]; omega⟩
          · obtain rfl : k = 0 := by omega
            have he : xs = ys := by have := HST.out; simpa using this
            have hnm := HIJ.out he
            have hs0 : R = 0 := by rw [← HRR.out]; subst hnm; unfold sgnC; simp
            have hb2 : decide (x < y) = false := decide_eq_false (by omega)
            have hb3 : decide (y < x) = false := decide_eq_false (by omega)
            subst hs0
            rw [Addr.add_zero'] at ha hb
            clear hstep hxy he hnm hx hy
            go_wp2_with fail
            go_quiet (fail)
            go_wp2_with fail
            go_quiet (fail)
            go_wp2_with fail
            go_quiet (fail)
            go_wp2_with fail
            go_ret
            exact ⟨rfl, _, by rw [World.drewN_drewN, World.drewN_drewN, World.drewN_drewN]⟩
        · have hb1 : ((x : Int) == y) = false := beq_eq_false_iff_ne.2 (by omega)
          by_cases hlt : x < y
          · have hb2 : decide (x < y) = true := decide_eq_true hlt
            have hb3 : decide (y < x) = false := decide_eq_false (by omega)
            have hnm : N < M := by
              have := valD_cmp (b := 18446744073709551616) (by decide) (xs := xs.take k) (ys := ys.take k) (t := xs.drop (k + 1)) (x := x) (y := y) (fun d hd => HDN.out d (List.mem_of_mem_take hd)) (by have := HL.out; simp; omega) hlt
              rw [← HSD.out, HDR.out, ← HSE.out, HVN.out, HVM.out] at this
              exact this
            have hs0 : R = -1 := by rw [← HRR.out]; unfold sgnC; rw [if_pos (by omega)]
            subst hs0
            clear hnm hxy hx hy
            by_cases hk00 : 0 < k
            · have hk1 : (0 : Int) < (k : Int) := by omega
              go_wp2_with fail
              go_quiet (fail)
              go_wp2_with fail
              go_quiet (fail)
              go_wp2_with fail
              go_ret
              exact ⟨rfl, _, by rw [World.drewN_drewN, World.drewN_drewN]⟩
            · obtain rfl : k = 0 := by omega
              rw [Addr.add_zero'] at ha hb
              go_wp2_with fail
              go_quiet (fail)
              go_wp2_with fail
              go_quiet (fail)
              go_wp2_with fail
              go_ret
              exact ⟨rfl, _, by rw [World.drewN_drewN, World.drewN_drewN]⟩
          · have hb2 : decide (x < y) = false := decide_eq_false hlt
            have hb3 : decide (y < x) = true := decide_eq_true (by omega)
            have hnm : M < N := by
              have := valD_cmp (b := 18446744073709551616) (by decide) (xs := ys.take k) (ys := xs.take k) (t := ys.drop (k + 1)) (x := y) (y := x) (fun d hd => HDM.out d (List.mem_of_mem_take hd)) (by have := HL.out; simp; omega) (by omega)
              rw [← HSE.out, ← HDR.out, ← HSD.out, HVN.out, HVM.out] at this
              exact this
            have hs0 : R = 1 := by rw [← HRR.out]; unfold sgnC; rw [if_neg (by omega), if_neg (by omega)]
            subst hs0
            clear hnm hxy hx hy
            by_cases hk00 : 0 < k
            · have hk1 : (0 : Int) < (k : Int) := by omega
              go_wp2_with fail
              go_quiet (fail)
              go_wp2_with fail
              go_quiet (fail)
              go_wp2_with fail
              go_quiet (fail)
              go_wp2_with fail
              go_ret
              exact ⟨rfl, _, by rw [World.drewN_drewN, World.drewN_drewN, World.drewN_drewN]⟩
            · obtain rfl : k = 0 := by omega
              rw [Addr.add_zero'] at ha hb
              go_wp2_with fail
              go_quiet (fail)
              go_wp2_with fail
              go_quiet (fail)
              go_wp2_with fail
              go_quiet (fail)
              go_wp2_with fail
              go_ret
              exact ⟨rfl, _, by rw [World.drewN_drewN, World.drewN_drewN, World.drewN_drewN]⟩
  · have hlb : ((xs.length : Int) != ys.length) = true := by rw [bne_iff_ne]; omega
    by_cases hlt : xs.length < ys.length
    · have hb2 : decide ((xs.length : Int) < ys.length) = true := decide_eq_true (by omega)
      have hs0 : R = -1 := by rw [← HRR.out]; have := hln hlt; unfold sgnC; rw [if_pos (by omega)]
      subst hs0
      go_enter Tryz.func181, Tryz.ntmps181
      go_wp2_with fail
      go_ret
      exact ⟨rfl, Drawn.refl _⟩
    · have hb2 : decide ((xs.length : Int) < ys.length) = false := decide_eq_false (by omega)
      have hb3 : decide ((ys.length : Int) < xs.length) = true := decide_eq_true (by omega)
      have hs0 : R = 1 := by rw [← HRR.out]; have := hlm (by omega); unfold sgnC; rw [if_neg (by omega), if_neg (by omega)]
      subst hs0
      go_enter Tryz.func181, Tryz.ntmps181
      go_wp2_with fail
      go_ret
      exact ⟨rfl, Drawn.refl _⟩
end Go.Proofs.YtiohlcfdoleooaaGreatDoor
