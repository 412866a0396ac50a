/-
  Digits of a number in a base: the plain laws.
  The reference's whole numbers as integers; compare.
  The reference's Cmp, Abs.
-/
import Derived.Test.YtapfolgiafnllaaGreatDoorSpecTextZ
import Derived.Deep.QuietTactic
import Derived.BigQuiet
namespace Go.Proofs.YtapfolgiafnllaaGreatDoor

/-- Digits in base b, the lowest one first, none for 0. -/
def toD (b n : Nat) : List Nat := if _h : n = 0 ∨ b < 2 then [] else n % b :: toD b (n / b)
termination_by n
decreasing_by exact Nat.div_lt_self (by omega) (by omega)
def valD (b : Nat) : List Nat → Nat
  | [] => 0
  | d :: r => d + b * valD b r
theorem toD_zero (b : Nat) : toD b 0 = [] := by unfold toD; simp
theorem toD_pos {b n : Nat} (hb : 2 ≤ b) (h : n ≠ 0) : toD b n = n % b :: toD b (n / b) := by
  conv => lhs; unfold toD
  rw [dif_neg (by omega)]
theorem dec10_toD : ∀ (k n : Nat), n ≤ k → dec10 n = toD 10 n
  | 0, n, h => by
    obtain rfl : n = 0 := by omega
    rw [dec10_zero, toD_zero]
  | k + 1, n, h => by
    by_cases h0 : n = 0
    · subst h0; rw [dec10_zero, toD_zero]
    · rw [dec10_pos h0, toD_pos (by decide) h0, dec10_toD k (n / 10) (by omega)]
theorem dec10_eq (n : Nat) : dec10 n = toD 10 n := dec10_toD n n (Nat.le_refl _)
theorem valD_toD_le {b : Nat} (hb : 2 ≤ b) : ∀ (k n : Nat), n ≤ k → valD b (toD b n) = n
  | 0, n, h => by
    obtain rfl : n = 0 := by omega
    rw [toD_zero]; rfl
  | k + 1, n, h => by
    by_cases h0 : n = 0
    · subst h0; rw [toD_zero]; rfl
    · rw [toD_pos hb h0]
      have : n / b < n := Nat.div_lt_self (by omega) (by omega)
      show n % b + b * valD b (toD b (n / b)) = n
      rw [valD_toD_le hb k (n / b) (by omega)]
      exact Nat.mod_add_div n b
theorem valD_toD {b : Nat} (hb : 2 ≤ b) (n : Nat) : valD b (toD b n) = n := valD_toD_le hb n n (Nat.le_refl _)
theorem toD_lt_le {b : Nat} (hb : 2 ≤ b) : ∀ (k n : Nat), n ≤ k → ∀ d ∈ toD b n, d < b
  | 0, n, h => by
    obtain rfl : n = 0 := by omega
    rw [toD_zero]; simp
  | k + 1, n, h => by
    by_cases h0 : n = 0
    · subst h0; rw [toD_zero]; simp
    · rw [toD_pos hb h0]
      have : n / b < n := Nat.div_lt_self (by omega) (by omega)
      intro d hd
      rcases List.mem_cons.1 hd with rfl | hd
      · exact Nat.mod_lt _ (by omega)
      · exact toD_lt_le hb k (n / b) (by omega) d hd
theorem toD_lt {b : Nat} (hb : 2 ≤ b) (n : Nat) : ∀ d ∈ toD b n, d < b := toD_lt_le hb n n (Nat.le_refl _)
theorem valD_zero_iff {b : Nat} (hb : 2 ≤ b) {ds : List Nat} : valD b ds = 0 ↔ ∀ d ∈ ds, d = 0 := by
  induction ds with
  | nil => simp [valD]
  | cons d r ih =>
    simp only [valD, List.mem_cons, forall_eq_or_imp]
    rw [← ih]
    have : b * valD b r = 0 ↔ valD b r = 0 := by
      rw [Nat.mul_eq_zero]
      omega
    omega
theorem valD_append (b : Nat) (xs ys : List Nat) : valD b (xs ++ ys) = valD b xs + b ^ xs.length * valD b ys := by
  induction xs with
  | nil => simp [valD]
  | cons d r ih =>
    rw [List.cons_append]
    simp only [valD, List.length_cons, ih, Nat.pow_succ]
    rw [Nat.mul_add, ← Nat.mul_assoc, Nat.mul_comm (b ^ r.length) b, Nat.add_assoc]
theorem valD_lt {b : Nat} (_hb : 2 ≤ b) {ds : List Nat} (h : ∀ d ∈ ds, d < b) : valD b ds < b ^ ds.length := by
  induction ds with
  | nil => simp [valD]
  | cons d r ih =>
    have h1 := h d (by simp)
    have h2 := ih fun x hx => h x (List.mem_cons_of_mem _ hx)
    rw [List.length_cons, Nat.pow_succ]
    show d + b * valD b r < _
    calc d + b * valD b r < b + b * valD b r := by omega
      _ = b * (valD b r + 1) := by rw [Nat.mul_add, Nat.mul_one, Nat.add_comm]
      _ ≤ b * b ^ r.length := Nat.mul_le_mul_left _ h2
      _ = b ^ r.length * b := Nat.mul_comm _ _
/-- A list of digits without noughts at its end is the number's own. -/
theorem toD_valD {b : Nat} (hb : 2 ≤ b) : ∀ ds : List Nat, (∀ d ∈ ds, d < b) → (∀ h : ds ≠ [], ds.getLast h ≠ 0) → toD b (valD b ds) = ds
  | [], _, _ => by simp [valD, toD_zero]
  | d :: r, h, hl => by
    have hd := h d (by simp)
    have hv : valD b (d :: r) = d + b * valD b r := rfl
    by_cases h0 : valD b (d :: r) = 0
    · have := (valD_zero_iff hb).1 h0 _ (List.getLast_mem (l := d :: r) (by simp))
      exact absurd this (hl (by simp))
    · rw [toD_pos hb h0, hv]
      have h1 : (d + b * valD b r) % b = d := by rw [Nat.add_mul_mod_self_left, Nat.mod_eq_of_lt hd]
      have h2 : (d + b * valD b r) / b = valD b r := by
        rw [Nat.add_mul_div_left _ _ (by omega), Nat.div_eq_of_lt hd, Nat.zero_add]
      rw [h1, h2]
      by_cases hr : r = []
      · subst hr; simp [valD, toD_zero]
      · rw [toD_valD hb r (fun x hx => h x (List.mem_cons_of_mem _ hx)) fun hne => by
          have := hl (by simp)
          rwa [List.getLast_cons hne] at this]
theorem trimN_nil : trimN [] = [] := rfl
theorem trimN_last' (ds : List Nat) : ∀ h : trimN ds ≠ [], (trimN ds).getLast h ≠ 0 := by
  have key : ∀ (k : Nat) (ds : List Nat), ds.length = k → ∀ h : trimN ds ≠ [], (trimN ds).getLast h ≠ 0 := by
    intro k
    induction k with
    | zero =>
      intro ds hk
      have := List.length_eq_zero_iff.1 hk
      subst this
      intro h
      exact absurd rfl h
    | succ k ih =>
      intro ds hk
      obtain ⟨q, x, rfl⟩ : ∃ q x, ds = q ++ [x] := by
        have hne : ds ≠ [] := by intro e; subst e; simp at hk
        rw [← List.dropLast_concat_getLast hne]
        exact ⟨_, _, rfl⟩
      have hq : q.length = k := by simpa using hk
      by_cases hx : x = 0
      · have e : trimN (q ++ [x]) = trimN q := by rw [trimN_snoc, if_pos hx]
        intro h
        have := ih q hq (by rw [← e]; exact h)
        simpa [e] using this
      · have e : trimN (q ++ [x]) = q ++ [x] := by rw [trimN_snoc, if_neg hx]
        intro h
        simp [e, hx]
  exact key _ ds rfl
theorem trimN_val {b : Nat} (_hb : 2 ≤ b) (ds : List Nat) : valD b (trimN ds) = valD b ds := by
  have key : ∀ (k : Nat) (ds : List Nat), ds.length = k → valD b (trimN ds) = valD b ds := by
    intro k
    induction k with
    | zero =>
      intro ds hk
      have := List.length_eq_zero_iff.1 hk
      subst this
      rfl
    | succ k ih =>
      intro ds hk
      obtain ⟨q, x, rfl⟩ : ∃ q x, ds = q ++ [x] := by
        have hne : ds ≠ [] := by intro e; subst e; simp at hk
        rw [← List.dropLast_concat_getLast hne]
        exact ⟨_, _, rfl⟩
      have hq : q.length = k := by simpa using hk
      rw [trimN_snoc]
      by_cases hx : x = 0
      · rw [if_pos hx, ih q hq, valD_append, hx]
        simp [valD]
      · rw [if_neg hx]
  exact key _ ds rfl
theorem trimN_mem {ds : List Nat} {d : Nat} (h : d ∈ trimN ds) : d ∈ ds := by
  obtain ⟨r, hr⟩ := trimN_prefix ds
  rw [hr]
  exact List.mem_append_left _ h
theorem trimN_toD {b : Nat} (hb : 2 ≤ b) {ds : List Nat} (h : ∀ d ∈ ds, d < b) : trimN ds = toD b (valD b ds) := by
  have := toD_valD hb (trimN ds) (fun d hd => h d (trimN_mem hd)) (trimN_last' ds)
  rw [trimN_val hb] at this
  exact this.symm
theorem toD_length_le {b : Nat} (hb : 2 ≤ b) : ∀ (k n : Nat), n < b ^ k → (toD b n).length ≤ k
  | 0, n, h => by
    obtain rfl : n = 0 := by simpa using h
    rw [toD_zero]; simp
  | k + 1, n, h => by
    by_cases h0 : n = 0
    · subst h0; rw [toD_zero]; simp
    · rw [toD_pos hb h0, List.length_cons]
      have := toD_length_le hb k (n / b) (by rw [Nat.div_lt_iff_lt_mul (by omega)]; rw [Nat.pow_succ] at h; exact h)
      omega
theorem toD_lt_pow {b : Nat} (hb : 2 ≤ b) (n : Nat) : n < b ^ (toD b n).length := by
  have := valD_lt hb (toD_lt hb n)
  rwa [valD_toD hb] at this
theorem toD_nil_iff {b n : Nat} (hb : 2 ≤ b) : toD b n = [] ↔ n = 0 := by
  constructor
  · intro h
    have := valD_toD hb n
    rw [h] at this
    exact this.symm
  · intro h; subst h; exact toD_zero b
theorem toD_last {b : Nat} (hb : 2 ≤ b) (n : Nat) : ∀ h : toD b n ≠ [], (toD b n).getLast h ≠ 0 := by
  have h1 := trimN_toD hb (toD_lt hb n)
  rw [valD_toD hb] at h1
  intro h
  have := trimN_last' (toD b n) (by rw [h1]; exact h)
  simpa [h1] using this
theorem trimN_self {b : Nat} (hb : 2 ≤ b) (n : Nat) : trimN (toD b n) = toD b n := by
  have h1 := trimN_toD hb (toD_lt hb n)
  rwa [valD_toD hb] at h1
theorem toD_isEmpty {b n : Nat} (hb : 2 ≤ b) : (toD b n).isEmpty = decide (n = 0) := by
  by_cases h : n = 0
  · subst h; rw [toD_zero]; rfl
  · rw [decide_eq_false h]
    cases h2 : toD b n with
    | nil => exact absurd ((toD_nil_iff hb).1 h2) h
    | cons a c => rfl
/-- More digits: a greater number. -/
theorem toD_len_lt {b : Nat} (hb : 2 ≤ b) {n m : Nat} (h : (toD b n).length < (toD b m).length) : n < m := by
  refine Nat.lt_of_not_le fun hle => ?_
  have h1 := toD_length_le hb (toD b n).length m (Nat.lt_of_le_of_lt hle (toD_lt_pow hb n))
  omega
theorem toD_inj {b : Nat} (hb : 2 ≤ b) {n m : Nat} (h : toD b n = toD b m) : n = m := by
  have h1 := valD_toD hb n
  rw [h, valD_toD hb] at h1
  exact h1.symm
/-- Of two rows of equal length with equal tails the digit before decides. -/
theorem valD_cmp {b : Nat} (hb : 2 ≤ b) {xs ys t : List Nat} {x y : Nat} (hx : ∀ d ∈ xs, d < b) (hl : xs.length = ys.length) (h : x < y) :
    valD b (xs ++ x :: t) < valD b (ys ++ y :: t) := by
  have h1 := valD_lt hb hx
  rw [valD_append, valD_append]
  show _ + b ^ xs.length * (x + b * valD b t) < _ + b ^ ys.length * (y + b * valD b t)
  rw [← hl]
  have h2 : b ^ xs.length * (x + b * valD b t) + b ^ xs.length ≤ b ^ xs.length * (y + b * valD b t) := by
    have : b ^ xs.length * (x + b * valD b t) + b ^ xs.length = b ^ xs.length * (x + 1 + b * valD b t) := by
      rw [show x + 1 + b * valD b t = (x + b * valD b t) + 1 from by omega, Nat.mul_add _ _ 1, Nat.mul_one]
    rw [this]
    exact Nat.mul_le_mul_left _ (by omega)
  omega
end Go.Proofs.YtapfolgiafnllaaGreatDoor

namespace Go.Proofs.YtapfolgiafnllaaGreatDoor
open Go.RowKit

/-- The value is the number z. -/
def IsNum (w : World) (v : Value) (z : Int) : Prop := NumIs w v (decide (z < 0)) (toD 10 z.natAbs)
theorem IsNum.below {w w' : World} {v : Value} {z : Int} (h : IsNum w v z) (hb : Below w.heap.size w w') : IsNum w' v z := NumIs.below h hb
def sgnC (z : Int) : Int := if z < 0 then -1 else if z = 0 then 0 else 1
def readZ (l : List UInt8) : Int := if readSign l = true then -(valD 10 (digsOf (readBody l)) : Int) else (valD 10 (digsOf (readBody l)) : Int)

theorem allDig_digits {l : List UInt8} (h : allDig l = true) : ∀ d ∈ digsOf l, d < 10 := by
  intro d hd
  unfold digsOf at hd
  obtain ⟨c, hc, rfl⟩ := List.mem_map.1 hd
  have h1 := List.all_eq_true.1 h c (List.mem_reverse.1 hc)
  have h2 : c ≤ 57 := by
    revert h1
    simp only [dig_byte, Bool.and_eq_true, Bool.not_eq_true', decide_eq_false_iff_not] <;> intro h1 <;> first | exact h1.2 | (rw [UInt8.le_iff_toNat_le]; have := h1.2; show c.toNat ≤ 57; omega)
  have h3 : c.toNat ≤ 57 := by rw [UInt8.le_iff_toNat_le] at h2; exact h2
  unfold digN
  omega
theorem read_num {l : List UInt8} (h : readOk l = true) : readSign l = decide (readZ l < 0) ∧ readDs l = toD 10 (readZ l).natAbs := by
  have hs : readSign l = readNeg l := by unfold readSign; rw [h]; rfl
  have hd : readDs l = digitsRes (readBody l) := by unfold readDs; rw [if_pos h]
  have h2 := h
  unfold readOk at h2
  rw [Bool.and_eq_true, Bool.and_eq_true] at h2
  obtain ⟨⟨h3, h4⟩, h5⟩ := h2
  unfold digitsOk at h3
  rw [Bool.and_eq_true] at h3
  obtain ⟨h6, h7⟩ := h3
  have hdig := allDig_digits h6
  have hN : readDs l = toD 10 (valD 10 (digsOf (readBody l))) := by
    rw [hd]
    unfold digitsRes
    rw [if_pos h6, trimN_toD (by decide) hdig]
  have habs : (readZ l).natAbs = valD 10 (digsOf (readBody l)) := by unfold readZ; split <;> simp
  refine ⟨?_, by rw [habs, hN]⟩
  cases hc : readSign l with
  | false =>
    unfold readZ
    rw [hc, if_neg (by decide)]
    exact (decide_eq_false (by omega)).symm
  | true =>
    have hn : readNeg l = true := by rw [← hs, hc]
    have hne : valD 10 (digsOf (readBody l)) ≠ 0 := by
      intro h0
      have hall := (valD_zero_iff (by decide)).1 h0
      cases hb : readBody l with
      | nil => rw [hb] at h7; simp at h7
      | cons c t =>
        have hc48 : c = 48 := by
          have : digN c ∈ digsOf (readBody l) := by rw [hb]; unfold digsOf; exact List.mem_map.2 ⟨c, by simp, rfl⟩
          have h1 := hall _ this
          have h8 := hdig _ this
          unfold digN at h1
          rw [hb] at h6
          have h9 := List.all_eq_true.1 h6 c (by simp)
          have h10 : 48 ≤ c.toNat := by
            revert h9
            simp only [dig_byte, Bool.and_eq_true, Bool.not_eq_true', decide_eq_false_iff_not] <;> intro h9 <;> first | omega | (have := h9.1; rw [UInt8.le_iff_toNat_le] at this; exact this)
          exact UInt8.toNat_inj.1 (show c.toNat = 48 by omega)
        subst hc48
        rw [hb] at h4 h5
        by_cases ht : t = []
        · subst ht
          rw [hn] at h5
          simp at h5
        · have : 0 < t.length := by cases t with | nil => exact absurd rfl ht | cons a b => simp
          simp at h4
          exact ht h4
    unfold readZ
    rw [hc, if_pos rfl]
    exact (decide_eq_true (by omega)).symm

theorem u8s_cell {w : World} {A : Option Addr} {ds : List Nat} (hr : Rd w A (u8s ds)) {k : Nat} (hk : k < ds.length) : ∃ a, A = some a ∧ w.cell? (a.add k) = some (.int .u8 (ds[k] : Int)) := by
  rcases hr with h | ⟨a, rfl, h⟩
  · have := congrArg List.length h
    simp [u8s] at this
    subst this
    simp at hk
  · exact ⟨a, rfl, h k _ (by simp [u8s, List.getElem?_eq_getElem hk])⟩

def CmpRel (ds es : List Nat) (w : World) (i : Value) (wr : World) : Prop := ∃ k : Nat, i = .int .i64 ((k : Int) - 1) ∧ k ≤ ds.length ∧ ds.drop k = es.drop k ∧ Below w.heap.size w wr
def idx1 : Value → Nat | .int _ n => (n + 1).toNat | _ => 0

theorem cmp_split {ds : List Nat} {k x : Nat} (h : k < ds.length) (hx : ds[k] = x) : ds = ds.take k ++ x :: ds.drop (k + 1) := by
  rw [← hx, ← List.drop_eq_getElem_cons h, List.take_append_drop]

set_option maxRecDepth 100000 in
set_option maxHeartbeats 1000000 in
theorem compare_walk (n m : Nat) (A B : Option Addr) (c d : Nat) (w : World) (hc : (toD 10 n).length ≤ c) (hd : (toD 10 m).length ≤ d) (hcm : c ≤ 9223372036854775807) (hdm : d ≤ 9223372036854775807)
    (hr : Rd w A (u8s (toD 10 n))) (hs : Rd w B (u8s (toD 10 m))) :
    Calls Tryz.prog 52 #[.slice A (toD 10 n).length c, .slice B (toD 10 m).length d] w fun e w' => e = .returned (.int .i64 (sgnC ((n : Int) - m))) ∧ Below w.heap.size w w' := by
  have hln : (toD 10 n).length < (toD 10 m).length → n < m := toD_len_lt (by decide)
  have hlm : (toD 10 m).length < (toD 10 n).length → m < n := toD_len_lt (by decide)
  have hvn := valD_toD (b := 10) (by decide) n
  have hvm := valD_toD (b := 10) (by decide) m
  have hdn := toD_lt (b := 10) (by decide) n
  have hdm2 := toD_lt (b := 10) (by decide) m
  have hinj : toD 10 n = toD 10 m → n = m := toD_inj (by decide)
  obtain ⟨ds, hds⟩ : ∃ ds, toD 10 n = ds := ⟨_, rfl⟩
  obtain ⟨es, hes⟩ : ∃ es, toD 10 m = es := ⟨_, rfl⟩
  rw [hds] at hr hc hln hlm hvn hdn hinj ⊢
  rw [hes] at hs hd hln hlm hvm hdm2 hinj ⊢
  clear hds hes
  have HR := Lib.hid hr
  have HS := Lib.hid hs
  have HVN := Lib.hid hvn
  have HVM := Lib.hid hvm
  have HIJ := Lib.hid hinj
  have HDN := Lib.hid hdn
  have HDM := Lib.hid hdm2
  clear hr hs hvn hvm hinj hdn hdm2
  obtain ⟨R, hR⟩ : ∃ R, sgnC ((n : Int) - m) = R := ⟨_, rfl⟩
  rw [hR]
  have HRR := Lib.hid hR
  clear hR
  by_cases hl : ds.length = es.length
  · have hlb : ((ds.length : Int) != es.length) = false := by rw [hl]; simp
    have HL := Lib.hid hl
    clear hl
    go_enter Tryz.func52, Tryz.ntmps52
    go_wp2_with fail
    go_loopw [5] (fun i wr => CmpRel ds es w i wr) (fun i _ => idx1 i)
    case atStart => exact ⟨ds.length, rfl, Nat.le_refl _, by rw [List.drop_of_length_le (Nat.le_refl _), List.drop_of_length_le (by have := HL.out; omega)], Below.refl _ _⟩
    case round =>
      obtain ⟨k, rfl, hk, hdrop, hbw⟩ := hrel
      have HDR := Lib.hid hdrop
      clear hdrop
      match k, hk, HDR with
      | 0, hk, HDR =>
        have he : ds = es := by have := HDR.out; simpa using this
        have hnm := HIJ.out he
        have hs0 : R = 0 := by rw [← HRR.out]; subst hnm; unfold sgnC; simp
        subst hs0
        go_wp2_with fail
        go_ret
        exact ⟨rfl, hbw⟩
      | k + 1, hk, HDR =>
        have hk1 : k < ds.length := by omega
        have hk2 : k < es.length := by have := HL.out; omega
        have e0 : ((k + 1 : Nat) : Int) - 1 = (k : Int) := by omega
        rw [e0]
        obtain ⟨a, rfl, ha⟩ := u8s_cell (HR.out.below hbw) hk1
        obtain ⟨b, rfl, hb⟩ := u8s_cell (HS.out.below hbw) hk2
        obtain ⟨x, hx⟩ : ∃ x, ds[k] = x := ⟨_, rfl⟩
        obtain ⟨y, hy⟩ : ∃ y, es[k] = y := ⟨_, rfl⟩
        rw [hx] at ha
        rw [hy] at hb
        have hlt1 : (k : Int) < ds.length := by omega
        have hlt2 : (k : Int) < es.length := by omega
        have hk0 : (0 : Int) ≤ (k : Int) := by omega
        have hsd := cmp_split hk1 hx
        have hse := cmp_split hk2 hy
        have HSD := Lib.hid hsd
        have HSE := Lib.hid hse
        clear hsd hse
        by_cases hxy : x = y
        · have hb1 : ((x : Int) != y) = false := by rw [hxy]; simp
          have hstep : ds.drop k = es.drop k := by
            rw [List.drop_eq_getElem_cons hk1, List.drop_eq_getElem_cons hk2, hx, hy, hxy, HDR.out]
          have HST := Lib.hid hstep
          clear hstep hxy
          go_wp2_with fail
          go_quiet (fail)
          go_wp2_with fail
          refine ⟨⟨k, by go_num, by omega, HST.out, below_drewN hbw _⟩, by simp [idx1]⟩
        · have hb1 : ((x : Int) != y) = true := by rw [bne_iff_ne]; omega
          by_cases hlt : x < y
          · have hb2 : decide (x < y) = true := decide_eq_true hlt
            have hnm : n < m := by
              have := valD_cmp (b := 10) (by decide) (xs := ds.take k) (ys := es.take k) (t := ds.drop (k + 1)) (x := x) (y := y) (fun d hd => HDN.out d (List.mem_of_mem_take hd)) (by have := HL.out; simp; omega) hlt
              rw [← HSD.out, HDR.out, ← HSE.out, HVN.out, HVM.out] at this
              exact this
            have hs0 : R = -1 := by rw [← HRR.out]; unfold sgnC; rw [if_pos (by omega)]
            subst hs0
            clear hnm hxy
            go_wp2_with fail
            go_quiet (fail)
            go_wp2_with fail
            go_quiet (fail)
            go_wp2_with fail
            go_ret
            exact ⟨rfl, below_drewN (below_drewN hbw _) _⟩
          · have hb2 : decide (x < y) = false := decide_eq_false hlt
            have hnm : m < n := by
              have := valD_cmp (b := 10) (by decide) (xs := es.take k) (ys := ds.take k) (t := es.drop (k + 1)) (x := y) (y := x) (fun d hd => HDM.out d (List.mem_of_mem_take hd)) (by have := HL.out; simp; omega) (by omega)
              rw [← HSE.out, ← HDR.out, ← HSD.out, HVN.out, HVM.out] at this
              exact this
            have hs0 : R = 1 := by rw [← HRR.out]; unfold sgnC; rw [if_neg (by omega), if_neg (by omega)]
            subst hs0
            clear hnm hxy
            go_wp2_with fail
            go_quiet (fail)
            go_wp2_with fail
            go_quiet (fail)
            go_wp2_with fail
            go_ret
            exact ⟨rfl, below_drewN (below_drewN hbw _) _⟩
  · have hlb : ((ds.length : Int) != es.length) = true := by rw [bne_iff_ne]; omega
    by_cases hlt : ds.length < es.length
    · have hb2 : decide ((ds.length : Int) < es.length) = true := decide_eq_true (by omega)
      have hs0 : R = -1 := by rw [← HRR.out]; have := hln hlt; unfold sgnC; rw [if_pos (by omega)]
      subst hs0
      go_enter Tryz.func52, Tryz.ntmps52
      go_wp2_with fail
      go_ret
      exact ⟨rfl, Below.refl _ _⟩
    · have hb2 : decide ((ds.length : Int) < es.length) = false := decide_eq_false (by omega)
      have hs0 : R = 1 := by rw [← HRR.out]; have := hlm (by omega); unfold sgnC; rw [if_neg (by omega), if_neg (by omega)]
      subst hs0
      go_enter Tryz.func52, Tryz.ntmps52
      go_wp2_with fail
      go_ret
      exact ⟨rfl, Below.refl _ _⟩
end Go.Proofs.YtapfolgiafnllaaGreatDoor

namespace Go.Proofs.YtapfolgiafnllaaGreatDoor
open Go.RowKit

theorem IsNum.open {w : World} {v : Value} {z : Int} (h : IsNum w v z) :
    ∃ A c, v = .agg #[.bool (decide (z < 0)), .slice A (toD 10 z.natAbs).length c] ∧ (toD 10 z.natAbs).length ≤ c ∧ c ≤ 9223372036854775807 ∧ Rd w A (u8s (toD 10 z.natAbs)) := h

theorem below_a1 (w : World) (o : Obj) : Below w.heap.size w (w.alloc o) := (Below.refl _ _).alloc (Nat.le_refl _) _
theorem below_a2 (w : World) (o p : Obj) : Below w.heap.size w ((w.alloc o).alloc p) := bt (below_a1 w o) (below_a1 _ p)

set_option maxRecDepth 100000 in
set_option maxHeartbeats 1000000 in
theorem cmp_walk (v u : Value) (x y : Int) (w : World) (hv : IsNum w v x) (hu : IsNum w u y) :
    Calls Tryz.prog 55 #[v, u] w fun e w' => e = .returned (.int .i64 (sgnC (x - y))) ∧ Below w.heap.size w w' := by
  obtain ⟨A, c, rfl, hc, hcm, hr⟩ := hv.open
  obtain ⟨B, d, rfl, hd, hdm, hs⟩ := hu.open
  have HR := Lib.hid hr
  have HS := Lib.hid hs
  clear hr hs hv hu
  obtain ⟨R, hR⟩ : ∃ R, sgnC (x - y) = R := ⟨_, rfl⟩
  rw [hR]
  have HRR := Lib.hid hR
  clear hR
  by_cases hx : x < 0
  · have hxb : decide (x < 0) = true := decide_eq_true hx
    rw [hxb]
    by_cases hy : y < 0
    · have hyb : decide (y < 0) = true := decide_eq_true hy
      rw [hyb]
      clear hxb hyb
      go_enter Tryz.func55, Tryz.ntmps55
      go_wp2_with fail
      refine (compare_walk y.natAbs x.natAbs B A d c _ hd hc hdm hcm (HS.out.below (below_a2 _ _ _)) (HR.out.below (below_a2 _ _ _))).mono ?_
      have hs0 : sgnC ((y.natAbs : Int) - x.natAbs) = R := by rw [← HRR.out]; congr 1; omega
      rw [hs0]
      rintro e w1 ⟨rfl, hb1⟩
      go_wp2_with fail
      go_ret
      exact ⟨rfl, bt (below_a2 _ _ _) hb1⟩
    · have hyb : decide (y < 0) = false := decide_eq_false hy
      rw [hyb]
      have hs0 : R = -1 := by rw [← HRR.out]; unfold sgnC; rw [if_pos (by omega)]
      subst hs0
      go_enter Tryz.func55, Tryz.ntmps55
      go_wp2_with fail
      go_ret
      exact ⟨rfl, below_a2 _ _ _⟩
  · have hxb : decide (x < 0) = false := decide_eq_false hx
    rw [hxb]
    by_cases hy : y < 0
    · have hyb : decide (y < 0) = true := decide_eq_true hy
      rw [hyb]
      have hs0 : R = 1 := by rw [← HRR.out]; unfold sgnC; rw [if_neg (by omega), if_neg (by omega)]
      subst hs0
      go_enter Tryz.func55, Tryz.ntmps55
      go_wp2_with fail
      go_ret
      exact ⟨rfl, below_a2 _ _ _⟩
    · have hyb : decide (y < 0) = false := decide_eq_false hy
      rw [hyb]
      clear hxb hyb
      go_enter Tryz.func55, Tryz.ntmps55
      go_wp2_with fail
      refine (compare_walk x.natAbs y.natAbs A B c d _ hc hd hcm hdm (HR.out.below (below_a2 _ _ _)) (HS.out.below (below_a2 _ _ _))).mono ?_
      have hs0 : sgnC ((x.natAbs : Int) - y.natAbs) = R := by rw [← HRR.out]; congr 1; omega
      rw [hs0]
      rintro e w1 ⟨rfl, hb1⟩
      go_wp2_with fail
      go_ret
      exact ⟨rfl, bt (below_a2 _ _ _) hb1⟩

/-- What a function of the reference hands back: the number z. -/
def IsPost (w : World) (z : Int) (e : Ending) (w' : World) : Prop := ∃ v, e = .returned v ∧ IsNum w' v z ∧ Below w.heap.size w w'

set_option maxRecDepth 100000 in
set_option maxHeartbeats 1000000 in
theorem abs_walk (v : Value) (x : Int) (w : World) (hv : IsNum w v x) :
    Calls Tryz.prog 54 #[v] w (IsPost w (x.natAbs : Int)) := by
  obtain ⟨A, c, rfl, hc, hcm, hr⟩ := hv.open
  have HR := Lib.hid hr
  clear hr hv
  go_enter Tryz.func54, Tryz.ntmps54
  go_wp2_with fail
  have k1 := heap_here (w.alloc (Obj.cells #[Value.bool (decide (x < 0)), Value.slice A (toD 10 x.natAbs).length c] 25)) (Obj.cells #[Value.bool false, Value.slice A (toD 10 x.natAbs).length c] 25)
  rw [heap_size_alloc] at k1
  have d0 := num_cell0 k1
  have d1 := num_cell1 k1
  have hdec : decide ((x.natAbs : Int) < 0) = false := decide_eq_false (by omega)
  have hna : ((x.natAbs : Int)).natAbs = x.natAbs := by omega
  exact bodyPost_ret (v := .agg #[.bool false, .slice A (toD 10 x.natAbs).length c]) (by simp [results, Tryz.results54, go_sem, d0, d1]) rfl
    ⟨.agg #[.bool false, .slice A (toD 10 x.natAbs).length c], rfl, ⟨A, c, by rw [hdec, hna], by rw [hna]; exact hc, hcm, by rw [hna]; exact HR.out.below (below_a2 _ _ _)⟩, below_a2 _ _ _⟩

set_option maxRecDepth 100000 in
set_option maxHeartbeats 1000000 in
theorem of_walk (n : Int) (w : World) (hn : -9223372036854775808 ≤ n ∧ n ≤ 9223372036854775807) :
    Calls Tryz.prog 15 #[.int .i64 n] w (IsPost w n) := by
  have hn1 := hn.1
  have hn2 := hn.2
  by_cases h0 : n < 0
  · have e0 : -(n + 1) + 1 = (n.natAbs : Int) := by omega
    have hdec : decide (n < 0) = true := decide_eq_true h0
    have hne : n.natAbs ≠ 0 := by omega
    have E0 := Lib.hid e0
    clear e0
    go_enter Tryz.func15, Tryz.ntmps15
    go_wp2_with fail
    rw [E0.out]
    refine (ofUint_walk n.natAbs _ (by omega)).mono ?_
    rintro e w1 ⟨v1, rfl, ⟨A, c, rfl, hc, hcm, hr⟩, hb⟩
    rw [dec10_eq] at *
    have HR := Lib.hid hr
    have hk : w1.heap[w.heap.size]? = some (.cells #[.bool false, .slice none 0 0] 25 (0, 0)) := (hb.block _ (by rw [heap_size_alloc]; omega)).trans (heap_here _ _)
    clear hr
    have c0 : ∀ o, (w1.alloc o).cell? ⟨w.heap.size, 0, none⟩ = some (.bool false) := fun o => num_cell0 (heap_old hk)
    have c1 : ∀ o, (w1.alloc o).cell? ⟨w.heap.size, 1, none⟩ = some (.slice none 0 0) := fun o => num_cell1 (heap_old hk)
    have f0 : ∀ o, (w1.alloc o).frozen? ⟨w.heap.size, 0, none⟩ = false := fun o => one_free (heap_old hk) 0
    have f1 : ∀ o, (w1.alloc o).frozen? ⟨w.heap.size, 1, none⟩ = false := fun o => one_free (heap_old hk) 1
    have HK := Lib.hid hk
    clear hk
    go_wp2_with fail
    have k0 := cells_set (cells_set (heap_old (o := .cells #[.bool true, .slice A (toD 10 n.natAbs).length c] 25) HK.out) 0 (.bool true)) 1 (.slice A (toD 10 n.natAbs).length c)
    have d0 := num_cell0 k0
    have d1 := num_cell1 k0
    have hb0 : Below w.heap.size w w1 := bt (below_a1 _ _) hb
    exact bodyPost_ret (v := .agg #[.bool true, .slice A (toD 10 n.natAbs).length c]) (by simp [results, Tryz.results15, go_sem, d0, d1]) rfl
      ⟨.agg #[.bool true, .slice A (toD 10 n.natAbs).length c], rfl, ⟨A, c, by rw [hdec], hc, hcm, rd_set2 (heap_old HK.out) (HR.out.below (below_a1 _ _))⟩,
        ((hb0.alloc hb0.size _).setCell (p := ⟨w.heap.size, 0, none⟩) (Nat.le_refl _) _).setCell (p := ⟨w.heap.size, 1, none⟩) (Nat.le_refl _) _⟩
  · obtain ⟨m, rfl⟩ := Int.eq_ofNat_of_zero_le (show 0 ≤ n by omega)
    have hdec : decide ((m : Int) < 0) = false := decide_eq_false h0
    clear h0 hn hn1
    go_enter Tryz.func15, Tryz.ntmps15
    go_wp2_with fail
    refine (ofUint_walk m _ (by omega)).mono ?_
    rintro e w1 ⟨v1, rfl, ⟨A, c, rfl, hc, hcm, hr⟩, hb⟩
    rw [dec10_eq] at *
    have HR := Lib.hid hr
    have hk : w1.heap[w.heap.size]? = some (.cells #[.bool false, .slice none 0 0] 25 (0, 0)) := (hb.block _ (by rw [heap_size_alloc]; omega)).trans (heap_here _ _)
    clear hr
    have c0 := num_cell0 hk
    have c1 := num_cell1 hk
    have f0 := one_free hk 0
    have f1 := one_free hk 1
    have HK := Lib.hid hk
    clear hk
    go_wp2_with fail
    have k0 := cells_set (cells_set HK.out 0 (.bool false)) 1 (.slice A (toD 10 m).length c)
    have d0 := num_cell0 k0
    have d1 := num_cell1 k0
    have hb0 : Below w.heap.size w w1 := bt (below_a1 _ _) hb
    exact bodyPost_ret (v := .agg #[.bool false, .slice A (toD 10 m).length c]) (by simp [results, Tryz.results15, go_sem, d0, d1]) rfl
      ⟨.agg #[.bool false, .slice A (toD 10 m).length c], rfl, ⟨A, c, by rw [hdec]; rfl, hc, hcm, rd_set2 HK.out HR.out⟩,
        (hb0.setCell (p := ⟨w.heap.size, 0, none⟩) (Nat.le_refl _) _).setCell (p := ⟨w.heap.size, 1, none⟩) (Nat.le_refl _) _⟩
end Go.Proofs.YtapfolgiafnllaaGreatDoor
