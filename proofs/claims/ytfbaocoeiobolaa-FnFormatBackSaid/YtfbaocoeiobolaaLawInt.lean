/-
  For every text: FormatInt writes a whole number with its digits in groups of three, as the reference says, and gives an error where the reference does.
  No condition beside those of the given statement.
-/
import Derived.Test.YtfbaocoeiobolaaSpecInt
import Derived.ProofKit
import Derived.OpenShut
import Derived.ShutString
import Derived.ChangeOld
import Derived.SizedLaws
namespace Go.Proofs.Ytfbaocoeiobolaa
open Go.RowKit

theorem sepd_grp3 : ∀ (n : Nat) (v : List UInt8), v.length ≤ n → v.length % 3 = 0 → sepd v = if v = [] then [] else 39 :: grp3 v := by
  intro n
  induction n with
  | zero => intro v h _; cases v with | nil => rfl | cons a t => simp at h
  | succ n ih =>
    intro v h h3
    match v, h, h3 with
    | [], _, _ => rfl
    | [_], _, h3 => simp at h3
    | [_, _], _, h3 => simp at h3
    | a :: b :: c :: r, h, h3 =>
      have h3' : r.length % 3 = 0 := by simp at h3; omega
      have hr := ih r (by simp at h; omega) h3'
      rw [if_neg (by simp), grp3_step]
      unfold sepd
      rw [if_pos (by simpa using h3)]
      unfold sepd
      rw [if_neg (by simp; omega)]
      unfold sepd
      rw [if_neg (by omega), hr]
      by_cases e : r = [] <;> simp [e]
theorem grpd_grouped (v : List UInt8) : grpd v = grouped v := by
  unfold grouped
  match v with
  | [] => simp [grpd]
  | [a] => simp [grpd, sepd]
  | [a, b] => simp [grpd, sepd]
  | [a, b, c] => simp [grpd, sepd]
  | a :: b :: c :: d :: t =>
    rw [if_neg (by simp)]
    by_cases h0 : (a :: b :: c :: d :: t).length % 3 = 0
    · rw [if_pos h0]
      have h := sepd_grp3 _ (a :: b :: c :: d :: t) (Nat.le_refl _) h0
      rw [if_neg (by simp)] at h
      unfold sepd at h
      rw [if_pos (by simpa using h0)] at h
      simp only [List.cons.injEq, true_and] at h
      exact h
    · rw [if_neg h0]
      by_cases h1 : (a :: b :: c :: d :: t).length % 3 = 1
      · rw [h1]
        have h := sepd_grp3 _ (b :: c :: d :: t) (Nat.le_refl _) (by simp at *; omega)
        rw [if_neg (by simp)] at h
        show a :: sepd (b :: c :: d :: t) = [a] ++ 39 :: grp3 (b :: c :: d :: t)
        rw [h]
        rfl
      · have h2 : (a :: b :: c :: d :: t).length % 3 = 2 := by omega
        rw [h2]
        have h := sepd_grp3 _ (c :: d :: t) (Nat.le_refl _) (by simp at *; omega)
        rw [if_neg (by simp)] at h
        show a :: sepd (b :: c :: d :: t) = [a, b] ++ 39 :: grp3 (c :: d :: t)
        conv => lhs; unfold sepd
        rw [if_neg (by simp at *; omega), h]
        rfl

theorem allDig_drop {v : List UInt8} : allDig v = false → allDig (v.dropWhile (· == 48)) = false := by
  induction v with
  | nil => simp [allDig]
  | cons c t ih =>
    intro h
    by_cases hc : c = 48
    · subst hc
      rw [List.dropWhile_cons_of_pos (by simp)]
      apply ih
      simpa [allDig] using h
    · rw [List.dropWhile_cons_of_neg (by simpa using hc)]
      exact h
theorem allDig_cut {v : List UInt8} (h : allDig v = false) : allDig (cutOf v) = false := by
  unfold cutOf
  split
  · exact allDig_drop h
  · exact h
theorem strip_drop : ∀ v : List UInt8, strip v ≠ [48] → v ≠ [] → v.dropWhile (· == 48) = strip v
  | [], _, h => absurd rfl h
  | [c], h, _ => by
    have : c ≠ 48 := by simpa [strip] using h
    rw [List.dropWhile_cons_of_neg (by simpa using this)]
    rfl
  | c :: d :: t, h, _ => by
    by_cases hc : c = 48
    · subst hc
      have e : strip (48 :: d :: t) = strip (d :: t) := strip_step (by simp)
      rw [e] at h ⊢
      rw [List.dropWhile_cons_of_pos (by simp)]
      exact strip_drop (d :: t) h (by simp)
    · rw [List.dropWhile_cons_of_neg (by simpa using hc), strip_stop (fun e => hc e.2)]
theorem allDig_strip : ∀ v : List UInt8, allDig v = true → allDig (strip v) = true
  | [], h => h
  | [c], h => h
  | c :: d :: t, h => by
    by_cases hc : c = 48
    · subst hc
      rw [strip_step (by simp)]
      exact allDig_strip (d :: t) (by simpa [allDig] using h)
    · rw [strip_stop (fun e => hc e.2)]
      exact h
theorem strip_nine : ∀ v : List UInt8, strip v = [48] → ∀ u ∈ v, u = 48
  | [], _, u, hu => by simp at hu
  | [c], h, u, hu => by simp [strip] at h; simp at hu; rw [hu, h]
  | c :: d :: t, h, u, hu => by
    by_cases hc : c = 48
    · subst hc
      rw [strip_step (by simp)] at h
      simp only [List.mem_cons] at hu
      rcases hu with hu | hu
      · exact hu
      · exact strip_nine (d :: t) h u (by simpa using hu)
    · rw [strip_stop (fun e => hc e.2)] at h
      simp at h

/-- The plain law. -/
theorem int_agrees (l : List UInt8) (hs : (specInt l).2.2 = true) : fmtInt l = if (specInt l).2.1 = true then some (specInt l).1 else none := by
  unfold specInt at *
  by_cases hv : bodyOf l = []
  · simp only [hv, if_true] at hs
    exact absurd hs (by decide)
  · simp only [if_neg hv] at hs ⊢
    have hl : l ≠ [] := by
      intro h
      subst h
      exact hv rfl
    unfold fmtInt
    rw [if_neg hl]
    by_cases hd : allDig (bodyOf l) = false
    · simp only [if_pos hd]
      rw [allDig_cut hd]
      simp
    · simp only [if_neg hd] at hs ⊢
      have hd' : allDig (bodyOf l) = true := by simpa using hd
      by_cases hb : strip (bodyOf l) = [48] ∧ ((bodyOf l).length ≠ 1 ∨ signOf l ≠ [])
      · simp only [if_pos hb] at hs
        exact absurd hs (by decide)
      · simp only [if_neg hb, if_true]
        have hcut : cutOf (bodyOf l) = strip (bodyOf l) := by
          unfold cutOf
          by_cases h1 : 1 < (bodyOf l).length
          · rw [if_pos h1]
            exact strip_drop _ (fun e => hb ⟨e, .inl (by omega)⟩) hv
          · rw [if_neg h1]
            match h : bodyOf l with
            | [] => exact absurd h hv
            | [c] => rfl
            | c :: d :: t => rw [h] at h1; simp at h1
        rw [hcut, allDig_strip _ hd']
        have hne := strip_pos _ hv
        have : (strip (bodyOf l)).isEmpty = false := by simpa using hne
        rw [this, grpd_grouped]
        rfl

set_option maxRecDepth 100000 in
set_option maxHeartbeats 1000000 in
theorem fnFormatInt_walk (l : List UInt8) (w : World) (hl : l.length ≤ 140737488355328) :
    Calls Try.prog 5 #[.string (S l)] w fun e w' => e = .returned (.bool true) ∧ Below w.heap.size w w' := by
  have hlit : (⟨#[]⟩ : ByteArray) = S [] := rfl
  by_cases h0 : l.length ≤ 2147483647
  · have h0' : ¬ (2147483647 : Int) < l.length := by omega
    obtain ⟨⟨out, ok, said⟩, hR⟩ : ∃ R, specInt l = R := ⟨_, rfl⟩
    have hag := int_agrees l
    rw [hR] at hag
    have HAG := Lib.hid hag
    clear hag
    cases said with
    | false =>
      go_enter Try.func5, Try.ntmps5
      go_wp2_with fail
      refine (specInt_walk l _ (by omega)).mono ?_
      rw [hR]
      rintro e w1 ⟨rfl, hb⟩
      unfold threeOf
      go_wp2_with (go_at_call 8; ((with_reducible refine (awake_walk _).mono ?_); rintro e w2 ⟨rfl, hb2⟩))
      all_goals go_ret
      all_goals exact ⟨rfl, bt hb hb2⟩
    | true =>
      by_cases h100 : l.length ≤ 100
      · have h100' : decide ((100 : Int) < l.length) = false := decide_eq_false (by omega)
        have hf := HAG.out rfl
        have HF := Lib.hid hf
        clear hf
        go_enter Try.func5, Try.ntmps5
        go_wp2_with fail
        refine (specInt_walk l _ (by omega)).mono ?_
        rw [hR]
        rintro e w1 ⟨rfl, hb⟩
        unfold threeOf
        go_wp2_with fail
        refine (implFmtInt_walk l _ (by omega)).mono ?_
        rw [HF.out]
        cases ok with
        | false =>
          rintro e w2 ⟨rfl, hb2⟩
          simp only [Bool.false_eq_true, if_false]
          go_wp2_with (go_at_call 8; ((with_reducible refine (awake_walk _).mono ?_); rintro e w2 ⟨rfl, hb3⟩))
          go_ret
          exact ⟨rfl, bt (bt hb hb2) hb3⟩
        | true =>
          rintro e w2 ⟨rfl, hb2⟩
          simp only [if_true]
          go_wp2_with (go_at_call 8; ((with_reducible refine (awake_walk _).mono ?_); rintro e w2 ⟨rfl, hb3⟩))
          go_ret
          exact ⟨rfl, bt (bt hb hb2) hb3⟩
      · have h100' : decide ((100 : Int) < l.length) = true := decide_eq_true (by omega)
        go_enter Try.func5, Try.ntmps5
        go_wp2_with fail
        refine (specInt_walk l _ (by omega)).mono ?_
        rw [hR]
        rintro e w1 ⟨rfl, hb⟩
        unfold threeOf
        go_wp2_with (go_at_call 8; ((with_reducible refine (awake_walk _).mono ?_); rintro e w2 ⟨rfl, hb2⟩))
        all_goals go_ret
        all_goals exact ⟨rfl, bt hb hb2⟩
  · have h0' : (2147483647 : Int) < l.length := by omega
    go_enter Try.func5, Try.ntmps5
    go_wp2_with fail
    go_ret
    exact ⟨rfl, Below.refl _ _⟩

end Go.Proofs.Ytfbaocoeiobolaa
