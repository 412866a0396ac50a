/-
  Digits of a number in a base: the plain laws.
-/
import Derived.Test.YtikacehcjaaamaaDoorSpecText
namespace Go.Proofs.YtikacehcjaaamaaDoor

/-- Digits in base b, the lowest one first, none for 0. -/
def toD (b n : Nat) : List Nat := if h : n = 0 ∨ b < 2 then [] else n % b :: toD b (n / b)
termination_by n
decreasing_by exact Nat.div_lt_self (by omega) (by omega)
def valD (b : Nat) : List Nat → Nat
  | [] => 0
  | d :: r => d + b * valD b r
theorem toD_zero (b : Nat) : toD b 0 = [] := by unfold toD; simp
theorem toD_pos {b n : Nat} (hb : 2 ≤ b) (h : n ≠ 0) : toD b n = n % b :: toD b (n / b) := by
  conv => lhs; unfold toD
  rw [dif_neg (by omega)]
theorem dec10_toD : ∀ (k n : Nat), n ≤ k → dec10 n = toD 10 n
  | 0, n, h => by
    obtain rfl : n = 0 := by omega
    rw [dec10_zero, toD_zero]
  | k + 1, n, h => by
    by_cases h0 : n = 0
    · subst h0; rw [dec10_zero, toD_zero]
    · rw [dec10_pos h0, toD_pos (by decide) h0, dec10_toD k (n / 10) (by omega)]
theorem dec10_eq (n : Nat) : dec10 n = toD 10 n := dec10_toD n n (Nat.le_refl _)
theorem valD_toD_le {b : Nat} (hb : 2 ≤ b) : ∀ (k n : Nat), n ≤ k → valD b (toD b n) = n
  | 0, n, h => by
    obtain rfl : n = 0 := by omega
    rw [toD_zero]; rfl
  | k + 1, n, h => by
    by_cases h0 : n = 0
    · subst h0; rw [toD_zero]; rfl
    · rw [toD_pos hb h0]
      have : n / b < n := Nat.div_lt_self (by omega) (by omega)
      show n % b + b * valD b (toD b (n / b)) = n
      rw [valD_toD_le hb k (n / b) (by omega)]
      exact Nat.mod_add_div n b
theorem valD_toD {b : Nat} (hb : 2 ≤ b) (n : Nat) : valD b (toD b n) = n := valD_toD_le hb n n (Nat.le_refl _)
theorem toD_lt_le {b : Nat} (hb : 2 ≤ b) : ∀ (k n : Nat), n ≤ k → ∀ d ∈ toD b n, d < b
  | 0, n, h => by
    obtain rfl : n = 0 := by omega
    rw [toD_zero]; simp
  | k + 1, n, h => by
    by_cases h0 : n = 0
    · subst h0; rw [toD_zero]; simp
    · rw [toD_pos hb h0]
      have : n / b < n := Nat.div_lt_self (by omega) (by omega)
      intro d hd
      rcases List.mem_cons.1 hd with rfl | hd
      · exact Nat.mod_lt _ (by omega)
      · exact toD_lt_le hb k (n / b) (by omega) d hd
theorem toD_lt {b : Nat} (hb : 2 ≤ b) (n : Nat) : ∀ d ∈ toD b n, d < b := toD_lt_le hb n n (Nat.le_refl _)
theorem valD_zero_iff {b : Nat} (hb : 2 ≤ b) {ds : List Nat} : valD b ds = 0 ↔ ∀ d ∈ ds, d = 0 := by
  induction ds with
  | nil => simp [valD]
  | cons d r ih =>
    simp only [valD, List.mem_cons, forall_eq_or_imp]
    rw [← ih]
    have : b * valD b r = 0 ↔ valD b r = 0 := by
      rw [Nat.mul_eq_zero]
      omega
    omega
theorem valD_append (b : Nat) (xs ys : List Nat) : valD b (xs ++ ys) = valD b xs + b ^ xs.length * valD b ys := by
  induction xs with
  | nil => simp [valD]
  | cons d r ih =>
    rw [List.cons_append]
    simp only [valD, List.length_cons, ih, Nat.pow_succ]
    rw [Nat.mul_add, ← Nat.mul_assoc, Nat.mul_comm (b ^ r.length) b, Nat.add_assoc]
theorem valD_lt {b : Nat} (hb : 2 ≤ b) {ds : List Nat} (h : ∀ d ∈ ds, d < b) : valD b ds < b ^ ds.length := by
  induction ds with
  | nil => simp [valD]
  | cons d r ih =>
    have h1 := h d (by simp)
    have h2 := ih fun x hx => h x (List.mem_cons_of_mem _ hx)
    rw [List.length_cons, Nat.pow_succ]
    show d + b * valD b r < _
    calc d + b * valD b r < b + b * valD b r := by omega
      _ = b * (valD b r + 1) := by rw [Nat.mul_add, Nat.mul_one, Nat.add_comm]
      _ ≤ b * b ^ r.length := Nat.mul_le_mul_left _ h2
      _ = b ^ r.length * b := Nat.mul_comm _ _
/-- A list of digits without noughts at its end is the number's own. -/
theorem toD_valD {b : Nat} (hb : 2 ≤ b) : ∀ ds : List Nat, (∀ d ∈ ds, d < b) → (∀ h : ds ≠ [], ds.getLast h ≠ 0) → toD b (valD b ds) = ds
  | [], _, _ => by simp [valD, toD_zero]
  | d :: r, h, hl => by
    have hd := h d (by simp)
    have hv : valD b (d :: r) = d + b * valD b r := rfl
    by_cases h0 : valD b (d :: r) = 0
    · have := (valD_zero_iff hb).1 h0 _ (List.getLast_mem (l := d :: r) (by simp))
      exact absurd this (hl (by simp))
    · rw [toD_pos hb h0, hv]
      have h1 : (d + b * valD b r) % b = d := by rw [Nat.add_mul_mod_self_left, Nat.mod_eq_of_lt hd]
      have h2 : (d + b * valD b r) / b = valD b r := by
        rw [Nat.add_mul_div_left _ _ (by omega), Nat.div_eq_of_lt hd, Nat.zero_add]
      rw [h1, h2]
      by_cases hr : r = []
      · subst hr; simp [valD, toD_zero]
      · rw [toD_valD hb r (fun x hx => h x (List.mem_cons_of_mem _ hx)) fun hne => by
          have := hl (by simp)
          rwa [List.getLast_cons hne] at this]
theorem trimN_nil : trimN [] = [] := rfl
theorem trimN_last' (ds : List Nat) : ∀ h : trimN ds ≠ [], (trimN ds).getLast h ≠ 0 := by
  have key : ∀ (k : Nat) (ds : List Nat), ds.length = k → ∀ h : trimN ds ≠ [], (trimN ds).getLast h ≠ 0 := by
    intro k
    induction k with
    | zero =>
      intro ds hk
      have := List.length_eq_zero_iff.1 hk
      subst this
      intro h
      exact absurd rfl h
    | succ k ih =>
      intro ds hk
      obtain ⟨q, x, rfl⟩ : ∃ q x, ds = q ++ [x] := by
        have hne : ds ≠ [] := by intro e; subst e; simp at hk
        rw [← List.dropLast_concat_getLast hne]
        exact ⟨_, _, rfl⟩
      have hq : q.length = k := by simpa using hk
      by_cases hx : x = 0
      · have e : trimN (q ++ [x]) = trimN q := by rw [trimN_snoc, if_pos hx]
        intro h
        have := ih q hq (by rw [← e]; exact h)
        simpa [e] using this
      · have e : trimN (q ++ [x]) = q ++ [x] := by rw [trimN_snoc, if_neg hx]
        intro h
        simp [e, hx]
  exact key _ ds rfl
theorem trimN_val {b : Nat} (hb : 2 ≤ b) (ds : List Nat) : valD b (trimN ds) = valD b ds := by
  have key : ∀ (k : Nat) (ds : List Nat), ds.length = k → valD b (trimN ds) = valD b ds := by
    intro k
    induction k with
    | zero =>
      intro ds hk
      have := List.length_eq_zero_iff.1 hk
      subst this
      rfl
    | succ k ih =>
      intro ds hk
      obtain ⟨q, x, rfl⟩ : ∃ q x, ds = q ++ [x] := by
        have hne : ds ≠ [] := by intro e; subst e; simp at hk
        rw [← List.dropLast_concat_getLast hne]
        exact ⟨_, _, rfl⟩
      have hq : q.length = k := by simpa using hk
      rw [trimN_snoc]
      by_cases hx : x = 0
      · rw [if_pos hx, ih q hq, valD_append, hx]
        simp [valD]
      · rw [if_neg hx]
  exact key _ ds rfl
theorem trimN_mem {ds : List Nat} {d : Nat} (h : d ∈ trimN ds) : d ∈ ds := by
  obtain ⟨r, hr⟩ := trimN_prefix ds
  rw [hr]
  exact List.mem_append_left _ h
theorem trimN_toD {b : Nat} (hb : 2 ≤ b) {ds : List Nat} (h : ∀ d ∈ ds, d < b) : trimN ds = toD b (valD b ds) := by
  have := toD_valD hb (trimN ds) (fun d hd => h d (trimN_mem hd)) (trimN_last' ds)
  rw [trimN_val hb] at this
  exact this.symm
theorem toD_length_le {b : Nat} (hb : 2 ≤ b) : ∀ (k n : Nat), n < b ^ k → (toD b n).length ≤ k
  | 0, n, h => by
    obtain rfl : n = 0 := by simpa using h
    rw [toD_zero]; simp
  | k + 1, n, h => by
    by_cases h0 : n = 0
    · subst h0; rw [toD_zero]; simp
    · rw [toD_pos hb h0, List.length_cons]
      have := toD_length_le hb k (n / b) (by rw [Nat.div_lt_iff_lt_mul (by omega)]; rw [Nat.pow_succ] at h; exact h)
      omega
theorem toD_lt_pow {b : Nat} (hb : 2 ≤ b) (n : Nat) : n < b ^ (toD b n).length := by
  have := valD_lt hb (toD_lt hb n)
  rwa [valD_toD hb] at this
theorem toD_nil_iff {b n : Nat} (hb : 2 ≤ b) : toD b n = [] ↔ n = 0 := by
  constructor
  · intro h
    have := valD_toD hb n
    rw [h] at this
    exact this.symm
  · intro h; subst h; exact toD_zero b
theorem toD_last {b : Nat} (hb : 2 ≤ b) (n : Nat) : ∀ h : toD b n ≠ [], (toD b n).getLast h ≠ 0 := by
  have h1 := trimN_toD hb (toD_lt hb n)
  rw [valD_toD hb] at h1
  intro h
  have := trimN_last' (toD b n) (by rw [h1]; exact h)
  simpa [h1] using this
theorem trimN_self {b : Nat} (hb : 2 ≤ b) (n : Nat) : trimN (toD b n) = toD b n := by
  have h1 := trimN_toD hb (toD_lt hb n)
  rwa [valD_toD hb] at h1
theorem toD_isEmpty {b n : Nat} (hb : 2 ≤ b) : (toD b n).isEmpty = decide (n = 0) := by
  by_cases h : n = 0
  · subst h; rw [toD_zero]; rfl
  · rw [decide_eq_false h]
    cases h2 : toD b n with
    | nil => exact absurd ((toD_nil_iff hb).1 h2) h
    | cons a c => rfl
/-- More digits: a greater number. -/
theorem toD_len_lt {b : Nat} (hb : 2 ≤ b) {n m : Nat} (h : (toD b n).length < (toD b m).length) : n < m := by
  refine Nat.lt_of_not_le fun hle => ?_
  have h1 := toD_length_le hb (toD b n).length m (Nat.lt_of_le_of_lt hle (toD_lt_pow hb n))
  omega
theorem toD_inj {b : Nat} (hb : 2 ≤ b) {n m : Nat} (h : toD b n = toD b m) : n = m := by
  have h1 := valD_toD hb n
  rw [h, valD_toD hb] at h1
  exact h1.symm
/-- Of two rows of equal length with equal tails the digit before decides. -/
theorem valD_cmp {b : Nat} (hb : 2 ≤ b) {xs ys t : List Nat} {x y : Nat} (hx : ∀ d ∈ xs, d < b) (hl : xs.length = ys.length) (h : x < y) :
    valD b (xs ++ x :: t) < valD b (ys ++ y :: t) := by
  have h1 := valD_lt hb hx
  rw [valD_append, valD_append]
  show _ + b ^ xs.length * (x + b * valD b t) < _ + b ^ ys.length * (y + b * valD b t)
  rw [← hl]
  have h2 : b ^ xs.length * (x + b * valD b t) + b ^ xs.length ≤ b ^ xs.length * (y + b * valD b t) := by
    have : b ^ xs.length * (x + b * valD b t) + b ^ xs.length = b ^ xs.length * (x + 1 + b * valD b t) := by
      rw [show x + 1 + b * valD b t = (x + b * valD b t) + 1 from by omega, Nat.mul_add _ _ 1, Nat.mul_one]
    rw [this]
    exact Nat.mul_le_mul_left _ (by omega)
  omega
end Go.Proofs.YtikacehcjaaamaaDoor
