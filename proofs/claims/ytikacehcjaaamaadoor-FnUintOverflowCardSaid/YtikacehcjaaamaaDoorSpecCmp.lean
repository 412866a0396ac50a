/-
  The reference's whole numbers as integers; compare.
-/
import Derived.Test.YtikacehcjaaamaaDoorDig
import Derived.Deep.QuietTactic
import Derived.BigQuiet
namespace Go.Proofs.YtikacehcjaaamaaDoor
open Go.RowKit

/-- The value is the number z. -/
def IsNum (w : World) (v : Value) (z : Int) : Prop := NumIs w v (decide (z < 0)) (toD 10 z.natAbs)
theorem IsNum.below {w w' : World} {v : Value} {z : Int} (h : IsNum w v z) (hb : Below w.heap.size w w') : IsNum w' v z := NumIs.below h hb
def sgnC (z : Int) : Int := if z < 0 then -1 else if z = 0 then 0 else 1
def readZ (l : List UInt8) : Int := if readSign l = true then -(valD 10 (digsOf (readBody l)) : Int) else (valD 10 (digsOf (readBody l)) : Int)

theorem allDig_digits {l : List UInt8} (h : allDig l = true) : ∀ d ∈ digsOf l, d < 10 := by
  intro d hd
  unfold digsOf at hd
  obtain ⟨c, hc, rfl⟩ := List.mem_map.1 hd
  have h1 := List.all_eq_true.1 h c (List.mem_reverse.1 hc)
  have h2 : c ≤ 57 := by
    revert h1
    simp only [dig_byte, Bool.and_eq_true, Bool.not_eq_true', decide_eq_false_iff_not, decide_eq_true_eq] <;> intro h1 <;> first | exact h1.2 | (rw [UInt8.le_iff_toNat_le]; have := h1.2; show c.toNat ≤ 57; omega)
  have h3 : c.toNat ≤ 57 := by rw [UInt8.le_iff_toNat_le] at h2; exact h2
  unfold digN
  omega
theorem read_num {l : List UInt8} (h : readOk l = true) : readSign l = decide (readZ l < 0) ∧ readDs l = toD 10 (readZ l).natAbs := by
  have hs : readSign l = readNeg l := by unfold readSign; rw [h]; rfl
  have hd : readDs l = digitsRes (readBody l) := by unfold readDs; rw [if_pos h]
  have h2 := h
  unfold readOk at h2
  rw [Bool.and_eq_true, Bool.and_eq_true] at h2
  obtain ⟨⟨h3, h4⟩, h5⟩ := h2
  unfold digitsOk at h3
  rw [Bool.and_eq_true] at h3
  obtain ⟨h6, h7⟩ := h3
  have hdig := allDig_digits h6
  have hN : readDs l = toD 10 (valD 10 (digsOf (readBody l))) := by
    rw [hd]
    unfold digitsRes
    rw [if_pos h6, trimN_toD (by decide) hdig]
  have habs : (readZ l).natAbs = valD 10 (digsOf (readBody l)) := by unfold readZ; split <;> simp
  refine ⟨?_, by rw [habs, hN]⟩
  cases hc : readSign l with
  | false =>
    unfold readZ
    rw [hc, if_neg (by decide)]
    exact (decide_eq_false (by omega)).symm
  | true =>
    have hn : readNeg l = true := by rw [← hs, hc]
    have hne : valD 10 (digsOf (readBody l)) ≠ 0 := by
      intro h0
      have hall := (valD_zero_iff (by decide)).1 h0
      cases hb : readBody l with
      | nil => rw [hb] at h7; simp at h7
      | cons c t =>
        have hc48 : c = 48 := by
          have : digN c ∈ digsOf (readBody l) := by rw [hb]; unfold digsOf; exact List.mem_map.2 ⟨c, by simp, rfl⟩
          have h1 := hall _ this
          have h8 := hdig _ this
          unfold digN at h1
          rw [hb] at h6
          have h9 := List.all_eq_true.1 h6 c (by simp)
          have h10 : 48 ≤ c.toNat := by
            revert h9
            simp only [dig_byte, Bool.and_eq_true, Bool.not_eq_true', decide_eq_false_iff_not, decide_eq_true_eq] <;> intro h9 <;> first | omega | (have := h9.1; rw [UInt8.le_iff_toNat_le] at this; exact this)
          exact UInt8.toNat_inj.1 (show c.toNat = 48 by omega)
        subst hc48
        rw [hb] at h4 h5
        by_cases ht : t = []
        · subst ht
          rw [hn] at h5
          simp at h5
        · have : 0 < t.length := by cases t with | nil => exact absurd rfl ht | cons a b => simp
          simp at h4
          exact ht h4
    unfold readZ
    rw [hc, if_pos rfl]
    exact (decide_eq_true (by omega)).symm

theorem u8s_cell {w : World} {A : Option Addr} {ds : List Nat} (hr : Rd w A (u8s ds)) {k : Nat} (hk : k < ds.length) : ∃ a, A = some a ∧ w.cell? (a.add k) = some (.int .u8 (ds[k] : Int)) := by
  rcases hr with h | ⟨a, rfl, h⟩
  · have := congrArg List.length h
    simp [u8s] at this
    subst this
    simp at hk
  · exact ⟨a, rfl, h k _ (by simp [u8s, List.getElem?_eq_getElem hk])⟩

def CmpRel (ds es : List Nat) (w : World) (i : Value) (wr : World) : Prop := ∃ k : Nat, i = .int .i64 ((k : Int) - 1) ∧ k ≤ ds.length ∧ ds.drop k = es.drop k ∧ Below w.heap.size w wr
def idx1 : Value → Nat | .int _ n => (n + 1).toNat | _ => 0

theorem cmp_split {ds : List Nat} {k x : Nat} (h : k < ds.length) (hx : ds[k] = x) : ds = ds.take k ++ x :: ds.drop (k + 1) := by
  rw [← hx, ← List.drop_eq_getElem_cons h, List.take_append_drop]

set_option maxRecDepth 100000 in
set_option maxHeartbeats 1000000 in
theorem compare_walk (n m : Nat) (A B : Option Addr) (c d : Nat) (w : World) (hc : (toD 10 n).length ≤ c) (hd : (toD 10 m).length ≤ d) (hcm : c ≤ 9223372036854775807) (hdm : d ≤ 9223372036854775807)
    (hr : Rd w A (u8s (toD 10 n))) (hs : Rd w B (u8s (toD 10 m))) :
    Calls Tryd.prog 30 #[.slice A (toD 10 n).length c, .slice B (toD 10 m).length d] w fun e w' => e = .returned (.int .i64 (sgnC ((n : Int) - m))) ∧ Below w.heap.size w w' := by
  have hln : (toD 10 n).length < (toD 10 m).length → n < m := toD_len_lt (by decide)
  have hlm : (toD 10 m).length < (toD 10 n).length → m < n := toD_len_lt (by decide)
  have hvn := valD_toD (b := 10) (by decide) n
  have hvm := valD_toD (b := 10) (by decide) m
  have hdn := toD_lt (b := 10) (by decide) n
  have hdm2 := toD_lt (b := 10) (by decide) m
  have hinj : toD 10 n = toD 10 m → n = m := toD_inj (by decide)
  obtain ⟨ds, hds⟩ : ∃ ds, toD 10 n = ds := ⟨_, rfl⟩
  obtain ⟨es, hes⟩ : ∃ es, toD 10 m = es := ⟨_, rfl⟩
  rw [hds] at hr hc hln hlm hvn hdn hinj ⊢
  rw [hes] at hs hd hln hlm hvm hdm2 hinj ⊢
  clear hds hes
  have HR := Lib.hid hr
  have HS := Lib.hid hs
  have HVN := Lib.hid hvn
  have HVM := Lib.hid hvm
  have HIJ := Lib.hid hinj
  have HDN := Lib.hid hdn
  have HDM := Lib.hid hdm2
  clear hr hs hvn hvm hinj hdn hdm2
  obtain ⟨R, hR⟩ : ∃ R, sgnC ((n : Int) - m) = R := ⟨_, rfl⟩
  rw [hR]
  have HRR := Lib.hid hR
  clear hR
  by_cases hl : ds.length = es.length
  · have hlb : ((ds.length : Int) != es.length) = false := by rw [hl]; simp
    have HL := Lib.hid hl
    clear hl
    go_enter Tryd.func30, Tryd.ntmps30
    go_wp2_with fail
    go_loopw [5] (fun i wr => CmpRel ds es w i wr) (fun i _ => idx1 i)
    case atStart => exact ⟨ds.length, rfl, Nat.le_refl _, by rw [List.drop_of_length_le (Nat.le_refl _), List.drop_of_length_le (by have := HL.out; omega)], Below.refl _ _⟩
    case round =>
      obtain ⟨k, rfl, hk, hdrop, hbw⟩ := hrel
      have HDR := Lib.hid hdrop
      clear hdrop
      match k, hk, HDR with
      | 0, hk, HDR =>
        have he : ds = es := by have := HDR.out; simpa using this
        have hnm := HIJ.out he
        have hs0 : R = 0 := by rw [← HRR.out]; subst hnm; unfold sgnC; simp
        subst hs0
        go_wp2_with fail
        go_ret
        exact ⟨rfl, hbw⟩
      | k + 1, hk, HDR =>
        have hk1 : k < ds.length := by omega
        have hk2 : k < es.length := by have := HL.out; omega
        have e0 : ((k + 1 : Nat) : Int) - 1 = (k : Int) := by omega
        rw [e0]
        obtain ⟨a, rfl, ha⟩ := u8s_cell (HR.out.below hbw) hk1
        obtain ⟨b, rfl, hb⟩ := u8s_cell (HS.out.below hbw) hk2
        obtain ⟨x, hx⟩ : ∃ x, ds[k] = x := ⟨_, rfl⟩
        obtain ⟨y, hy⟩ : ∃ y, es[k] = y := ⟨_, rfl⟩
        rw [hx] at ha
        rw [hy] at hb
        have hlt1 : (k : Int) < ds.length := by omega
        have hlt2 : (k : Int) < es.length := by omega
        have hk0 : (0 : Int) ≤ (k : Int) := by omega
        have hsd := cmp_split hk1 hx
        have hse := cmp_split hk2 hy
        have HSD := Lib.hid hsd
        have HSE := Lib.hid hse
        clear hsd hse
        by_cases hxy : x = y
        · have hb1 : ((x : Int) != y) = false := by rw [hxy]; simp
          have hstep : ds.drop k = es.drop k := by
            rw [List.drop_eq_getElem_cons hk1, List.drop_eq_getElem_cons hk2, hx, hy, hxy, HDR.out]
          have HST := Lib.hid hstep
          clear hstep hxy
          go_wp2_with fail
          go_quiet (fail)
          go_wp2_with fail
          refine ⟨⟨k, by go_num, by omega, HST.out, below_drewN hbw _⟩, by simp [idx1]⟩
        · have hb1 : ((x : Int) != y) = true := by rw [bne_iff_ne]; omega
          by_cases hlt : x < y
          · have hb2 : decide (x < y) = true := decide_eq_true hlt
            have hnm : n < m := by
              have := valD_cmp (b := 10) (by decide) (xs := ds.take k) (ys := es.take k) (t := ds.drop (k + 1)) (x := x) (y := y) (fun d hd => HDN.out d (List.mem_of_mem_take hd)) (by have := HL.out; simp; omega) hlt
              rw [← HSD.out, HDR.out, ← HSE.out, HVN.out, HVM.out] at this
              exact this
            have hs0 : R = -1 := by rw [← HRR.out]; unfold sgnC; rw [if_pos (by omega)]
            subst hs0
            clear hnm hxy
            go_wp2_with fail
            go_quiet (fail)
            go_wp2_with fail
            go_quiet (fail)
            go_wp2_with fail
            go_ret
            exact ⟨rfl, below_drewN (below_drewN hbw _) _⟩
          · have hb2 : decide (x < y) = false := decide_eq_false hlt
            have hnm : m < n := by
              have := valD_cmp (b := 10) (by decide) (xs := es.take k) (ys := ds.take k) (t := es.drop (k + 1)) (x := y) (y := x) (fun d hd => HDM.out d (List.mem_of_mem_take hd)) (by have := HL.out; simp; omega) (by omega)
              rw [← HSE.out, ← HDR.out, ← HSD.out, HVN.out, HVM.out] at this
              exact this
            have hs0 : R = 1 := by rw [← HRR.out]; unfold sgnC; rw [if_neg (by omega), if_neg (by omega)]
            subst hs0
            clear hnm hxy
            go_wp2_with fail
            go_quiet (fail)
            go_wp2_with fail
            go_quiet (fail)
            go_wp2_with fail
            go_ret
            exact ⟨rfl, below_drewN (below_drewN hbw _) _⟩
  · have hlb : ((ds.length : Int) != es.length) = true := by rw [bne_iff_ne]; omega
    by_cases hlt : ds.length < es.length
    · have hb2 : decide ((ds.length : Int) < es.length) = true := decide_eq_true (by omega)
      have hs0 : R = -1 := by rw [← HRR.out]; have := hln hlt; unfold sgnC; rw [if_pos (by omega)]
      subst hs0
      go_enter Tryd.func30, Tryd.ntmps30
      go_wp2_with fail
      go_ret
      exact ⟨rfl, Below.refl _ _⟩
    · have hb2 : decide ((ds.length : Int) < es.length) = false := decide_eq_false (by omega)
      have hs0 : R = 1 := by rw [← HRR.out]; have := hlm (by omega); unfold sgnC; rw [if_neg (by omega), if_neg (by omega)]
      subst hs0
      go_enter Tryd.func30, Tryd.ntmps30
      go_wp2_with fail
      go_ret
      exact ⟨rfl, Below.refl _ _⟩
end Go.Proofs.YtikacehcjaaamaaDoor
