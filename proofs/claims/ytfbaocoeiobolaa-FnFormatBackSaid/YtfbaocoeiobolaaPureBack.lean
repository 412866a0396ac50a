/-
  Plain laws: the text of a number that Read takes; marks struck.
-/
import Derived.Test.YtfbaocoeiobolaaSpecText
import Derived.Test.YtfbaocoeiobolaaLawDec
namespace Go.Proofs.Ytfbaocoeiobolaa
open Go.RowKit

def plainL (l : List UInt8) : List UInt8 := l.filter (· != 39)
theorem plain_app (a b : List UInt8) : plainL (a ++ b) = plainL a ++ plainL b := by simp [plainL]
theorem plain_self {l : List UInt8} (h : ∀ x ∈ l, x ≠ 39) : plainL l = l := by
  unfold plainL
  rw [List.filter_eq_self]
  intro x hx
  simpa using h x hx
theorem dig_ne {l : List UInt8} (h : allDig l = true) : ∀ x ∈ l, x ≠ 39 ∧ x ≠ 46 ∧ x ≠ 45 := by
  intro x hx
  unfold allDig at h
  rw [List.all_eq_true] at h
  have h2 := h x hx
  rw [dig_byte] at h2
  simp only [Bool.and_eq_true, Bool.not_eq_true', decide_eq_false_iff_not] at h2
  refine ⟨?_, ?_, ?_⟩ <;> (intro e; subst e; revert h2; decide)
theorem plain_sepd : ∀ l : List UInt8, allDig l = true → plainL (sepd l) = l
  | [], _ => rfl
  | c :: t, h => by
    have hc := (dig_ne h c (by simp)).1
    have ht : allDig t = true := by simp [allDig] at h ⊢; exact h.2
    have hr := plain_sepd t ht
    unfold sepd
    have e1 : plainL (c :: sepd t) = c :: t := by
      show (c :: sepd t).filter (· != 39) = _
      rw [List.filter_cons_of_pos (by simpa using hc)]
      exact congrArg (c :: ·) hr
    split
    · show (39 :: c :: sepd t).filter (· != 39) = _
      rw [List.filter_cons_of_neg (by simp)]
      exact e1
    · exact e1
theorem plain_grouped (l : List UInt8) (h : allDig l = true) : plainL (grouped l) = l := by
  rw [← grpd_grouped]
  cases l with
  | nil => rfl
  | cons c t =>
    have hc := (dig_ne h c (by simp)).1
    have ht : allDig t = true := by simp [allDig] at h ⊢; exact h.2
    show (c :: sepd t).filter (· != 39) = _
    rw [List.filter_cons_of_pos (by simpa using hc)]
    exact congrArg (c :: ·) (plain_sepd t ht)

/-- What a text that Read takes is made of. -/
theorem read_shape {l : List UInt8} (h : readOk l = true) : ∃ c t, bodyOf l = c :: t ∧ readBody l = c :: t ∧ l = signOf l ++ c :: t ∧ allDig (c :: t) = true ∧ (t = [] ∨ c ≠ 48) ∧ readNeg l = !(signOf l).isEmpty ∧ (readNeg l = true → c :: t ≠ [48]) := by
  unfold readOk at h
  simp only [Bool.and_eq_true, Bool.not_eq_true', Bool.and_eq_false_iff] at h
  obtain ⟨⟨h1, h2⟩, h3⟩ := h
  unfold digitsOk at h1
  simp only [Bool.and_eq_true, Bool.not_eq_true', List.isEmpty_eq_false_iff] at h1
  obtain ⟨hd, hne⟩ := h1
  have hb : readBody l = bodyOf l ∧ readNeg l = !(signOf l).isEmpty ∧ l = signOf l ++ readBody l := by
    match l, hd, hne with
    | [], _, hne => exact absurd rfl hne
    | [a], hd, _ =>
      have ha : a ≠ 45 := (dig_ne hd a (by simp [readBody])).2.2
      simp [readBody, bodyOf, signOf, readNeg, ha]
    | a :: b :: t, _, _ =>
      by_cases ha : a = 45
      · subst ha
        simp [readBody, bodyOf, signOf, readNeg]
      · simp [readBody, bodyOf, signOf, readNeg, ha]
  obtain ⟨hb1, hb2, hb3⟩ := hb
  obtain ⟨c, t, hv⟩ : ∃ c t, readBody l = c :: t := by
    cases hv : readBody l with
    | nil => exact absurd hv hne
    | cons c t => exact ⟨c, t, rfl⟩
  rw [hv] at hd h2 h3 hb1 hb3
  refine ⟨c, t, hb1.symm, hv, hb3, hd, ?_, hb2, ?_⟩
  · rcases h2 with h2 | h2
    · left
      have h9 : ¬ 1 < t.length + 1 := of_decide_eq_false h2
      exact List.length_eq_zero_iff.1 (by omega)
    · right
      simpa using h2
  · intro hn
    rcases h3 with h3 | h3
    · rw [hn] at h3; exact absurd h3 (by decide)
    · exact beq_eq_false_iff_ne.1 h3
theorem cut_read {c : UInt8} {t : List UInt8} (h : t = [] ∨ c ≠ 48) : cutOf (c :: t) = c :: t := by
  unfold cutOf
  split
  · rename_i h1
    rcases h with h | h
    · subst h; simp at h1
    · rw [List.dropWhile_cons_of_neg (by simpa using h)]
  · rfl
theorem fmt_read {l : List UInt8} (h : readOk l = true) : ∃ g, fmtInt l = some g ∧ plainL g = l := by
  obtain ⟨c, t, h1, _, h3, h4, h5, _, _⟩ := read_shape h
  refine ⟨signOf l ++ grouped (c :: t), ?_, ?_⟩
  · unfold fmtInt
    have hl : l ≠ [] := by rw [h3]; simp
    rw [if_neg hl, h1, cut_read h5, h4]
    simp
  · rw [plain_app, plain_grouped _ h4]
    have : plainL (signOf l) = signOf l := by
      unfold signOf
      split <;> rfl
    rw [this, ← h3]
theorem nodot_read {l : List UInt8} (h : readOk l = true) : hasDot l = false := by
  obtain ⟨c, t, _, _, h3, h4, _, _, _⟩ := read_shape h
  unfold hasDot
  rw [List.any_eq_false]
  intro x hx
  rw [h3, List.mem_append] at hx
  rcases hx with hx | hx
  · have : x = 45 := by
      unfold signOf at hx
      split at hx
      · simpa using hx
      · simp at hx
    subst this
    decide
  · have := (dig_ne h4 x hx).2.1
    simpa using this
theorem digN_back {c : UInt8} (h : (48 ≤ c && c ≤ 57) = true) : UInt8.ofNat (48 + digN c) = c := by
  rw [dig_byte] at h
  simp only [Bool.and_eq_true, Bool.not_eq_true', decide_eq_false_iff_not] at h
  unfold digN
  have : 48 + (c.toNat - 48) = c.toNat := by omega
  rw [this]
  simp
theorem trimN_last {l : List Nat} (h : l ≠ []) (h2 : l.getLast h ≠ 0) : trimN l = l := by
  have e := List.dropLast_concat_getLast h
  rw [← e, trimN_snoc, if_neg h2]
theorem map_back {l : List UInt8} (h : allDig l = true) : (l.map digN).map (fun d => UInt8.ofNat (48 + d)) = l := by
  rw [List.map_map]
  conv => rhs; rw [← List.map_id l]
  apply List.map_congr_left
  intro x hx
  unfold allDig at h
  rw [List.all_eq_true] at h
  exact digN_back (h x hx)
theorem text_read {l : List UInt8} (h : readOk l = true) : numText (readSign l) (readDs l) = l := by
  obtain ⟨c, t, h1, h2, h3, h4, h5, h6, h7⟩ := read_shape h
  unfold readSign readDs
  rw [h, if_pos rfl, Bool.true_and, h2]
  unfold digitsRes
  rw [if_pos h4]
  by_cases h0 : c :: t = [48]
  · rw [h0]
    have hn : readNeg l = false := by
      cases hn : readNeg l with
      | false => rfl
      | true => exact absurd h0 (h7 hn)
    have hs : signOf l = [] := by rw [h6] at hn; simpa using hn
    have e : trimN (digsOf [48]) = [] := by decide
    rw [e, hn]
    rw [h3, hs, h0]
    rfl
  · have hc : c ≠ 48 := by
      rcases h5 with h5 | h5
      · intro e
        subst e
        rw [h5] at h0
        exact h0 rfl
      · exact h5
    have hds : digsOf (c :: t) = digsOf t ++ [digN c] := by simp [digsOf]
    have hcd : digN c ≠ 0 := by
      have hx : (48 ≤ c && c ≤ 57) = true := by
        unfold allDig at h4
        rw [List.all_eq_true] at h4
        exact h4 c (by simp)
      rw [dig_byte] at hx
      simp only [Bool.and_eq_true, Bool.not_eq_true', decide_eq_false_iff_not] at hx
      have : c.toNat ≠ 48 := fun e => hc (UInt8.toNat_inj.1 e)
      unfold digN
      omega
    have htr : trimN (digsOf (c :: t)) = digsOf (c :: t) := by rw [hds, trimN_snoc, if_neg hcd]
    rw [htr]
    unfold numText
    rw [if_neg (by rw [hds]; simp)]
    have hm : (digsOf (c :: t)).reverse.map (fun d => UInt8.ofNat (48 + d)) = c :: t := by
      unfold digsOf
      rw [← List.map_reverse, List.reverse_reverse]
      exact map_back h4
    rw [hm]
    have hs : signText (readNeg l) = signOf l := by
      rw [h6]
      unfold signText signOf
      split <;> simp
    rw [hs, ← h3]
theorem read_digits {l : List UInt8} : ∀ d ∈ readDs l, d < 10 := by
  intro d hd
  unfold readDs at hd
  split at hd
  · unfold digitsRes at hd
    split at hd
    · rename_i hok hall
      obtain ⟨r, hr⟩ := trimN_prefix (digsOf (readBody l))
      have : d ∈ digsOf (readBody l) := by rw [hr]; exact List.mem_append_left _ hd
      unfold digsOf at this
      rw [List.mem_map] at this
      obtain ⟨x, hx, rfl⟩ := this
      unfold allDig at hall
      rw [List.all_eq_true] at hall
      have hx2 := hall x (by simpa using hx)
      rw [dig_byte] at hx2
      simp only [Bool.and_eq_true, Bool.not_eq_true', decide_eq_false_iff_not] at hx2
      unfold digN
      omega
    · simp at hd
  · simp at hd
theorem read_len (l : List UInt8) : (readDs l).length ≤ l.length := by
  unfold readDs
  split
  · unfold digitsRes
    split
    · have h1 := trimN_length (digsOf (readBody l))
      have h2 : (digsOf (readBody l)).length = (readBody l).length := by simp [digsOf]
      have h3 : (readBody l).length ≤ l.length := by unfold readBody; split <;> simp
      omega
    · simp
  · simp
theorem dec10_digits : ∀ (k n : Nat), n ≤ k → ∀ d ∈ dec10 n, d < 10
  | 0, n, h, d, hd => by
    have : n = 0 := by omega
    subst this
    rw [dec10_zero] at hd
    simp at hd
  | k + 1, n, h, d, hd => by
    by_cases h0 : n = 0
    · subst h0; rw [dec10_zero] at hd; simp at hd
    · rw [dec10_pos h0] at hd
      simp only [List.mem_cons] at hd
      rcases hd with rfl | hd
      · omega
      · exact dec10_digits k (n / 10) (by omega) d hd
theorem text_digits {ds : List Nat} (h : ∀ d ∈ ds, d < 10) : allDig (numText false ds) = true := by
  unfold numText
  split
  · decide
  · unfold signText allDig
    rw [List.all_eq_true]
    intro x hx
    simp only [Bool.false_eq_true, if_false, List.nil_append, List.mem_map, List.mem_reverse] at hx
    obtain ⟨d, hd, rfl⟩ := hx
    have := h d hd
    rw [dig_byte]
    have e : (UInt8.ofNat (48 + d)).toNat = 48 + d := by simp; omega
    rw [e]
    simp
    omega
theorem text_len (neg : Bool) (ds : List Nat) : (numText neg ds).length ≤ ds.length + 2 := by
  unfold numText signText
  split
  · simp
  · split <;> simp <;> omega

theorem rtrim_len (r : List UInt8) : (rtrim r).length ≤ r.length := by
  unfold rtrim
  rw [List.length_reverse]
  exact Nat.le_trans (List.dropWhile_sublist _).length_le (by simp)

/-- The decimal that the law makes. -/
theorem dec_read {l r : List UInt8} (h : readOk l = true) (hr : allDig r = true) : ∃ g, fmtDec (l ++ 46 :: r) = some g ∧ (plainL g = if rtrim r = [] then l else l ++ 46 :: rtrim r) ∧ g.length ≤ 2 * l.length + 2 + r.length := by
  have hlr := rtrim_len r
  obtain ⟨g, hg, hp⟩ := fmt_read h
  have hn := nodot_read h
  have hrd : hasDot r = false := by
    unfold hasDot
    rw [List.any_eq_false]
    intro x hx
    have := (dig_ne hr x hx).2.1
    simpa using this
  unfold fmtDec
  rw [if_pos (has_app l r), after_app hn, before_app hn, if_neg (by rw [hrd]; decide), hg]
  unfold fmtTail
  by_cases he : rtrim r = []
  · exact ⟨g, by simp [he], by rw [if_pos he, hp], by have := fmt_length _ _ hg; omega⟩
  · refine ⟨g ++ 46 :: rtrim r, by simp [he, rtrim_dig, hr], ?_, by have := fmt_length _ _ hg; simp; omega⟩
    rw [if_neg he, plain_app, hp]
    have hd : allDig (rtrim r) = true := by rw [rtrim_dig]; exact hr
    have : plainL (46 :: rtrim r) = 46 :: rtrim r := by
      show (46 :: rtrim r).filter (· != 39) = _
      rw [List.filter_cons_of_pos (by decide)]
      exact congrArg (46 :: ·) (plain_self fun x hx => (dig_ne hd x hx).1)
    rw [this]
end Go.Proofs.Ytfbaocoeiobolaa
