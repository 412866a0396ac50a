/-
  FormatDec: the plain law, and the walk of laws.FnFormatDec.
-/
import Derived.Test.YtfbaocoeiobolaaSpecDec
namespace Go.Proofs.Ytfbaocoeiobolaa
open Go.RowKit

theorem scan_plain : ∀ (l wh rs : List UInt8), hasDot l = false → scanFrom (wh, rs, 0) l = (wh ++ l, rs, 0)
  | [], wh, rs, _ => by simp [scanFrom]
  | c :: t, wh, rs, h => by
    have hc : ¬ c = 46 := by intro e; subst e; simp [hasDot] at h
    have ht : hasDot t = false := by simp [hasDot] at h ⊢; exact h.2
    show scanFrom (scanStep (wh, rs, 0) c) t = _
    unfold scanStep
    rw [if_neg hc, if_pos rfl]
    rw [scan_plain t _ _ ht]
    simp
theorem scan_behind : ∀ (l wh rs : List UInt8) (n : Nat), hasDot l = false → 0 < n → scanFrom (wh, rs, n) l = (wh, rs ++ l, n)
  | [], wh, rs, n, _, _ => by simp [scanFrom]
  | c :: t, wh, rs, n, h, hn => by
    have hc : ¬ c = 46 := by intro e; subst e; simp [hasDot] at h
    have ht : hasDot t = false := by simp [hasDot] at h ⊢; exact h.2
    show scanFrom (scanStep (wh, rs, n) c) t = _
    unfold scanStep
    rw [if_neg hc, if_neg (by show ¬ n = 0; omega)]
    rw [scan_behind t _ _ n ht hn]
    simp
theorem scan_more : ∀ (l wh rs : List UInt8) (n : Nat), n ≤ (scanFrom (wh, rs, n) l).2.2
  | [], _, _, _ => by simp [scanFrom]
  | c :: t, wh, rs, n => by
    show n ≤ (scanFrom (scanStep (wh, rs, n) c) t).2.2
    unfold scanStep
    split
    · have := scan_more t wh rs (n + 1)
      simp only
      omega
    · split
      · exact scan_more t _ _ n
      · exact scan_more t _ _ n
theorem scan_app (a b : List UInt8) (s : List UInt8 × List UInt8 × Nat) : scanFrom s (a ++ b) = scanFrom (scanFrom s a) b := by simp [scanFrom]
theorem scan_dot (a r : List UInt8) (h : hasDot a = false) : scanFrom ([], [], 0) (a ++ 46 :: r) = scanFrom (a, [], 1) r := by
  rw [scan_app, scan_plain a [] [] h]
  rfl
theorem before_nodot (l : List UInt8) : hasDot (before l) = false := by
  unfold hasDot before
  rw [List.any_eq_false]
  intro x hx
  have hall := List.all_takeWhile (p := fun (c : UInt8) => c != 46) (l := l)
  rw [List.all_eq_true] at hall
  have := hall x hx
  simpa using this
theorem scan_of (l : List UInt8) : (hasDot l = false ∧ scanFrom ([], [], 0) l = (l, [], 0)) ∨
    (hasDot l = true ∧ hasDot (after l) = false ∧ scanFrom ([], [], 0) l = (before l, after l, 1)) ∨
    (hasDot l = true ∧ hasDot (after l) = true ∧ 1 < (scanFrom ([], [], 0) l).2.2) := by
  cases h : hasDot l with
  | false => left; exact ⟨rfl, by rw [scan_plain l [] [] h]; rfl⟩
  | true =>
    right
    obtain ⟨r, h1, h2, _⟩ := split_dot h
    have hs : scanFrom ([], [], 0) l = scanFrom (before l, [], 1) (after l) := by
      conv => lhs; rw [h1]
      rw [scan_dot _ _ (before_nodot l), h2]
    cases h3 : hasDot (after l) with
    | false => left; exact ⟨rfl, rfl, by rw [hs, scan_behind _ _ _ _ h3 (by decide)]; rfl⟩
    | true =>
      right
      refine ⟨rfl, rfl, ?_⟩
      obtain ⟨r2, h4, h5, _⟩ := split_dot h3
      rw [hs, h4, scan_app, scan_behind _ _ _ _ (before_nodot _) (by decide)]
      have := scan_more r2 (before l) ([] ++ before (after l)) 2
      show 1 < (scanFrom (before l, [] ++ before (after l), 2) r2).2.2
      omega

theorem dig_snoc (l : List UInt8) (c : UInt8) : allDig (l ++ [c]) = (allDig l && (48 ≤ c && c ≤ 57)) := by simp [allDig]
theorem rtrim_dig (l : List UInt8) : allDig (rtrim l) = allDig l := by
  have key : ∀ (n : Nat) (l : List UInt8), l.length = n → allDig (rtrim l) = allDig l := by
    intro n
    induction n with
    | zero => intro l h; rw [List.length_eq_zero_iff.1 h]; rfl
    | succ n ih =>
      intro l h
      have hne : l ≠ [] := by intro e; subst e; simp at h
      obtain ⟨t, c, rfl⟩ : ∃ t c, l = t ++ [c] := by
        rw [← List.dropLast_concat_getLast hne]
        exact ⟨_, _, rfl⟩
      rw [rtrim_snoc]
      by_cases hc : c = 48
      · rw [if_pos hc, dig_snoc, ih t (by simpa using h), hc]
        simp
      · rw [if_neg hc]
  exact key _ l rfl

/-- The plain law. -/
theorem dec_agrees (l : List UInt8) (hs : (specDec l).2.2 = true) : fmtDec l = if (specDec l).2.1 = true then some (specDec l).1 else none := by
  have tail : ∀ (o rs : List UInt8), (specTail o rs).2.2 = true → fmtTail o rs = if (specTail o rs).2.1 = true then some (specTail o rs).1 else none := by
    intro o rs h
    unfold specTail at *
    unfold fmtTail
    by_cases hd : allDig rs = false
    · have hne : rtrim rs ≠ [] := by
        intro e
        have := rtrim_dig rs
        rw [e, hd] at this
        exact absurd this (by decide)
      simp only [if_pos hd]
      rw [if_neg hne, rtrim_dig, hd]
      rfl
    · have hd' : allDig rs = true := by simpa using hd
      simp only [if_neg hd]
      by_cases he : rtrim rs = []
      · simp [he]
      · simp only [if_neg he, if_true]
        rw [rtrim_dig, hd']
        rfl
  rcases scan_of l with ⟨h1, h2⟩ | ⟨h1, h2, h3⟩ | ⟨h1, h2, h3⟩
  · unfold specDec at *
    rw [h2] at hs ⊢
    simp only at hs ⊢
    rw [if_neg (show ¬ 1 < 0 by decide)] at hs ⊢
    unfold fmtDec
    rw [if_neg (by rw [h1]; decide)]
    by_cases hw : l = [45, 48]
    · rw [if_pos hw] at hs
      exact absurd hs (by decide)
    · rw [if_neg hw] at hs ⊢
      by_cases hb : (specInt l).2.2 = true ∧ (specInt l).2.1 = true
      · rw [if_pos hb] at hs ⊢
        have := int_agrees l hb.1
        rw [this, if_pos hb.2]
        unfold specTail
        rfl
      · rw [if_neg hb] at hs ⊢
        simp only at hs
        have := int_agrees l hs
        rw [this]
        have hok : (specInt l).2.1 = false := by
          cases h : (specInt l).2.1 with
          | false => rfl
          | true => exact absurd ⟨hs, h⟩ hb
        simp [hok]
  · unfold specDec at *
    rw [h3] at hs ⊢
    simp only at hs ⊢
    rw [if_neg (show ¬ 1 < 1 by decide)] at hs ⊢
    unfold fmtDec
    rw [if_pos h1, if_neg (by rw [h2]; decide)]
    by_cases hw : before l = [45, 48]
    · rw [if_pos hw] at hs ⊢
      rw [hw]
      have e : fmtInt [45, 48] = some [45, 48] := by decide
      rw [e]
      exact tail _ _ hs
    · rw [if_neg hw] at hs ⊢
      by_cases hb : (specInt (before l)).2.2 = true ∧ (specInt (before l)).2.1 = true
      · rw [if_pos hb] at hs ⊢
        have := int_agrees _ hb.1
        rw [this, if_pos hb.2]
        exact tail _ _ hs
      · rw [if_neg hb] at hs ⊢
        simp only at hs
        have := int_agrees _ hs
        rw [this]
        have hok : (specInt (before l)).2.1 = false := by
          cases h : (specInt (before l)).2.1 with
          | false => rfl
          | true => exact absurd ⟨hs, h⟩ hb
        simp [hok]
  · unfold specDec
    simp only [if_pos h3]
    unfold fmtDec
    rw [if_pos h1, if_pos h2]
    rfl

set_option maxRecDepth 100000 in
set_option maxHeartbeats 1000000 in
theorem fnFormatDec_walk (l : List UInt8) (w : World) (hl : l.length ≤ 140737488355328) :
    Calls Try.prog 4 #[.string (S l)] w fun e w' => e = .returned (.bool true) ∧ Below w.heap.size w w' := by
  have hlit : (⟨#[]⟩ : ByteArray) = S [] := rfl
  by_cases h0 : l.length ≤ 2147483647
  · have h0' : ¬ (2147483647 : Int) < l.length := by omega
    obtain ⟨⟨out, ok, said⟩, hR⟩ : ∃ R, specDec l = R := ⟨_, rfl⟩
    have hag := dec_agrees l
    rw [hR] at hag
    have HAG := Lib.hid hag
    clear hag
    cases said with
    | false =>
      go_enter Try.func4, Try.ntmps4
      go_wp2_with fail
      refine (specDec_walk l _ (by omega)).mono ?_
      rw [hR]
      rintro e w1 ⟨rfl, hb⟩
      unfold threeOf
      go_wp2_with (go_at_call 8; ((with_reducible refine (awake_walk _).mono ?_); rintro e w2 ⟨rfl, hb2⟩))
      all_goals go_ret
      all_goals exact ⟨rfl, bt hb hb2⟩
    | true =>
      by_cases h100 : l.length ≤ 100
      · have h100' : decide ((100 : Int) < l.length) = false := decide_eq_false (by omega)
        have hf := HAG.out rfl
        have HF := Lib.hid hf
        clear hf
        go_enter Try.func4, Try.ntmps4
        go_wp2_with fail
        refine (specDec_walk l _ (by omega)).mono ?_
        rw [hR]
        rintro e w1 ⟨rfl, hb⟩
        unfold threeOf
        go_wp2_with fail
        refine (implFmtDec_walk l _ (by omega)).mono ?_
        rw [HF.out]
        cases ok with
        | false =>
          rintro e w2 ⟨rfl, hb2⟩
          simp only [Bool.false_eq_true, if_false]
          go_wp2_with (go_at_call 8; ((with_reducible refine (awake_walk _).mono ?_); rintro e w2 ⟨rfl, hb3⟩))
          go_ret
          exact ⟨rfl, bt (bt hb hb2) hb3⟩
        | true =>
          rintro e w2 ⟨rfl, hb2⟩
          simp only [if_true]
          go_wp2_with (go_at_call 8; ((with_reducible refine (awake_walk _).mono ?_); rintro e w2 ⟨rfl, hb3⟩))
          go_ret
          exact ⟨rfl, bt (bt hb hb2) hb3⟩
      · have h100' : decide ((100 : Int) < l.length) = true := decide_eq_true (by omega)
        go_enter Try.func4, Try.ntmps4
        go_wp2_with fail
        refine (specDec_walk l _ (by omega)).mono ?_
        rw [hR]
        rintro e w1 ⟨rfl, hb⟩
        unfold threeOf
        go_wp2_with (go_at_call 8; ((with_reducible refine (awake_walk _).mono ?_); rintro e w2 ⟨rfl, hb2⟩))
        all_goals go_ret
        all_goals exact ⟨rfl, bt hb hb2⟩
  · have h0' : (2147483647 : Int) < l.length := by omega
    go_enter Try.func4, Try.ntmps4
    go_wp2_with fail
    go_ret
    exact ⟨rfl, Below.refl _ _⟩

end Go.Proofs.Ytfbaocoeiobolaa
