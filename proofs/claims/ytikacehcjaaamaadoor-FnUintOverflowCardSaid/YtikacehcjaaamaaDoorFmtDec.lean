/-
  cosmosmath.FormatDec: a decimal with its digits in groups, or an error.
-/
import Derived.Test.YtikacehcjaaamaaDoorSplit
namespace Go.Proofs.YtikacehcjaaamaaDoor
open Go.RowKit
attribute [local simp] S_extract S_append

/-- What stands behind the first point, without noughts at its end. -/
def fmtTail (ip d : List UInt8) : Option (List UInt8) :=
  if rtrim d = [] then some ip else if allDig (rtrim d) then some (ip ++ 46 :: rtrim d) else none
def fmtDec (l : List UInt8) : Option (List UInt8) :=
  if hasDot l = true then
    if hasDot (after l) = true then none
    else match fmtInt (before l) with
      | none => none
      | some ip => fmtTail ip (after l)
  else fmtInt l

theorem own_open {w : World} {base n : Nat} {e : TypeId} {v : Value} {xs : List Value} (h : w.ownsRow base e 1 v n xs) (hn : 0 < n) :
    ∃ g cap, v = .slice (some ⟨g, 0, none⟩) n cap ∧ n ≤ cap ∧ cap ≤ maxLen ∧ ∀ j u, xs[j]? = some u → w.cell? ⟨g, j, none⟩ = some u := by
  obtain ⟨hl, h1 | ⟨g, cap, cur, rfl, hb, hh, hc1, hc2, hc3, hc4⟩⟩ := h
  · omega
  · have ho : w.ownsRow base e 1 (.slice (some ⟨g, 0, none⟩) n cap) n xs := ⟨hl, .inr ⟨g, cap, cur, rfl, hb, hh, hc1, hc2, hc3, hc4⟩⟩
    refine ⟨g, cap, rfl, hc1, hc2, fun j u hu => ?_⟩
    have := ho.cells (g := g) rfl j u hu
    have e : (⟨g, 0, none⟩ : Addr).add j = ⟨g, j, none⟩ := by unfold Addr.add; split <;> simp_all
    rw [e] at this
    exact this

theorem parts_none {l : List UInt8} (n : Nat) (h : ¬ hasDot l = true) : parts n l = [l] := by
  cases n with
  | zero => rfl
  | succ n => unfold parts; rw [if_neg h]
theorem parts_some {l : List UInt8} (h : hasDot l = true) : parts l.length l = before l :: parts (l.length - 1) (after l) := by
  obtain ⟨r, h1, _⟩ := split_dot h
  have hl : l.length = (l.length - 1) + 1 := by rw [h1]; simp; omega
  rw [hl]
  conv => lhs; unfold parts
  rw [if_pos h]
  rfl
theorem parts_two {l : List UInt8} (h : hasDot l = true) (n : Nat) (hn : l.length ≤ n) : 2 ≤ (parts n l).length := by
  obtain ⟨r, h1, _⟩ := split_dot h
  have hl : 0 < l.length := by rw [h1]; simp; omega
  obtain ⟨m, rfl⟩ : ∃ m, n = m + 1 := ⟨n - 1, by omega⟩
  conv => rhs; unfold parts
  rw [if_pos h]
  cases m with
  | zero => simp [parts]
  | succ m => unfold parts; split <;> simp
theorem before_le (l : List UInt8) : (before l).length ≤ l.length := (List.takeWhile_sublist _).length_le
theorem after_lt {l : List UInt8} (h : hasDot l = true) : (after l).length ≤ l.length - 1 := by
  obtain ⟨r, h1, h2, _⟩ := split_dot h
  rw [h2, h1]
  simp
theorem fmt_length (l o : List UInt8) (h : fmtInt l = some o) : o.length ≤ 2 * l.length + 1 := by
  unfold fmtInt at h
  split at h
  · cases h
  · split at h
    · cases h
      have h1 := grouped_length (cutOf (bodyOf l))
      have h2 : (cutOf (bodyOf l)).length ≤ l.length := by
        have h3 : (bodyOf l).length ≤ l.length := by unfold bodyOf; split <;> simp
        refine Nat.le_trans ?_ h3
        unfold cutOf
        split
        · exact (List.dropWhile_sublist _).length_le
        · exact Nat.le_refl _
      have h4 : (signOf l).length ≤ 1 := by unfold signOf; split <;> simp
      simp
      omega
    · cases h

set_option maxRecDepth 100000 in
set_option maxHeartbeats 1000000 in
theorem fmtDec_walk (l : List UInt8) (w : World) (hs : l.length ≤ 1000) :
    Calls Tryd.prog 23 #[.string (S l)] w (FmtPost (fmtDec l) w) := by
  by_cases hd : hasDot l = true
  · have hp := parts_some hd
    by_cases hd2 : hasDot (after l) = true
    · have hlen : 2 < (parts l.length l).length := by
        rw [hp]
        have := parts_two hd2 (l.length - 1) (after_lt hd)
        simp
        omega
      have HF : Hid (fmtDec l = none) := by unfold fmtDec Hid; rw [if_pos hd, if_pos hd2]
      clear hp
      go_enter Tryd.func23, Tryd.ntmps23
      go_wp2_with fail
      refine (split_walk l _ hs).mono ?_
      rintro e w1 ⟨v, rfl, hown, hb⟩
      obtain ⟨g, cap, rfl, hc1, hc2, hc⟩ := own_open hown (by omega)
      have hlen' : (2 : Int) < (parts l.length l).length := by omega
      generalize (parts l.length l).length = n at *
      unfold maxLen at hc2
      clear hc hown
      go_wp2_with (go_at_call 28; ((with_reducible refine (errorsNew_walk _ _).mono ?_); rintro e w1 ⟨a, rfl, hb2⟩))
      go_ret2
      unfold FmtPost
      rw [HF.out]
      exact ⟨⟨a, rfl⟩, bt hb hb2⟩
    · rw [parts_none _ hd2] at hp
      have hbl : (before l).length ≤ 1000 := Nat.le_trans (before_le l) hs
      have hal : (after l).length ≤ 1000 := by have := after_lt hd; omega
      have hdec : fmtDec l = match fmtInt (before l) with
        | none => none
        | some ip => fmtTail ip (after l) := by unfold fmtDec; rw [if_pos hd, if_neg hd2]
      have HDC := Lib.hid hdec
      clear hdec
      go_enter Tryd.func23, Tryd.ntmps23
      go_wp2_with fail
      refine (split_walk l _ hs).mono ?_
      rw [hp]
      rintro e w1 ⟨v, rfl, hown, hb⟩
      obtain ⟨g, cap, rfl, hc1, hc2, hc⟩ := own_open hown (by simp)
      have c0 := hc 0 (.string (S (before l))) rfl
      have c1 := hc 1 (.string (S (after l))) rfl
      unfold maxLen at hc2
      clear hc hown hp hd hd2
      generalize before l = bf at *
      generalize after l = af at *
      go_wp2_with fail
      refine (fmtInt_walk bf _ hbl).mono ?_
      intro e w2 hpost
      unfold FmtPost at hpost
      cases ho : fmtInt bf with
      | none =>
        rw [ho] at hpost HDC
        have HF : Hid (fmtDec l = none) := HDC
        obtain ⟨⟨a, rfl⟩, hb2⟩ := hpost
        clear HDC
        go_wp2_with fail
        go_ret2
        unfold FmtPost
        rw [HF.out]
        exact ⟨⟨a, rfl⟩, bt hb hb2⟩
      | some o =>
        rw [ho] at hpost HDC
        have HF : Hid (fmtDec l = fmtTail o af) := HDC
        have hol := fmt_length _ _ ho
        obtain ⟨rfl, hb2⟩ := hpost
        clear HDC
        have c1' : w2.cell? ⟨g, 1, none⟩ = some (.string (S af)) := (hb2.cell (p := ⟨g, 1, none⟩) (World.block_lt_of_cell? w1 _ c1)).trans c1
        clear c1 c0
        have hrl : (rtrim af).length ≤ 1000 := by
          have : (rtrim af).length ≤ af.length := by
            unfold rtrim
            rw [List.length_reverse]
            refine Nat.le_trans (List.dropWhile_sublist _).length_le ?_
            simp
          omega
        by_cases hr : rtrim af = []
        · have HR := Lib.hid hr
          clear hr
          go_wp2_with (go_at_call 42; ((with_reducible refine (trimRight_walk af _ hal).mono ?_); rintro e w3 ⟨rfl, hb3⟩; rw [HR.out]))
          go_ret2
          unfold FmtPost
          rw [HF.out]
          simp only [fmtTail]
          rw [if_pos HR.out]
          exact ⟨rfl, bt (bt hb hb2) hb3⟩
        · have hrne : (((rtrim af).length : Int) == 0) = false := by
            have : (rtrim af).length ≠ 0 := fun k => hr (List.length_eq_zero_iff.1 k)
            exact beq_eq_false_iff_ne.2 (by omega)
          have hne : (rtrim af).isEmpty = false := by simpa using hr
          have HR := Lib.hid hr
          have HN := Lib.hid hne
          clear hr hne
          have hsz : (S (rtrim af)).size ≤ 9223372036854775807 := by rw [S_size]; omega
          by_cases had : allDig (rtrim af) = true
          · have hd1 : (!(S (rtrim af)).data.toList.isEmpty && allDig (S (rtrim af)).data.toList) = true := by rw [S_data, HN.out, had]; rfl
            have HA := Lib.hid had
            clear had
            have hlit : (⟨#[46]⟩ : ByteArray) = S [46] := rfl
            go_wp2_with (first
              | (go_at_call 42; ((with_reducible refine (trimRight_walk af _ hal).mono ?_); rintro e w3 ⟨rfl, hb3⟩))
              | (go_at_call 36; ((with_reducible refine (onlyDigits_walk _ _ hsz).mono ?_); rintro e' w4 ⟨rfl, hb4⟩; rw [hd1])))
            go_ret2
            unfold FmtPost
            rw [HF.out]
            simp only [fmtTail]
            rw [if_neg HR.out, if_pos HA.out]
            exact ⟨rfl, bt (bt (bt hb hb2) hb3) hb4⟩
          · have hd1 : (!(S (rtrim af)).data.toList.isEmpty && allDig (S (rtrim af)).data.toList) = false := by
              rw [S_data, HN.out]
              simpa using had
            have HA := Lib.hid had
            clear had
            go_wp2_with (first
              | (go_at_call 42; ((with_reducible refine (trimRight_walk af _ hal).mono ?_); rintro e w3 ⟨rfl, hb3⟩))
              | (go_at_call 36; ((with_reducible refine (onlyDigits_walk _ _ hsz).mono ?_); rintro e' w4 ⟨rfl, hb4⟩; rw [hd1]))
              | (go_at_call 28; ((with_reducible refine (errorsNew_walk _ _).mono ?_); rintro e w5 ⟨a, rfl, hb5⟩)))
            go_ret2
            unfold FmtPost
            rw [HF.out]
            simp only [fmtTail]
            rw [if_neg HR.out, if_neg HA.out]
            exact ⟨⟨a, rfl⟩, bt (bt (bt (bt hb hb2) hb3) hb4) hb5⟩
  · have hp := parts_none l.length hd
    have HF : Hid (fmtDec l = fmtInt l) := by unfold fmtDec Hid; rw [if_neg hd]
    go_enter Tryd.func23, Tryd.ntmps23
    go_wp2_with fail
    refine (split_walk l _ hs).mono ?_
    rw [hp]
    rintro e w1 ⟨v, rfl, hown, hb⟩
    obtain ⟨g, cap, rfl, hc1, hc2, hc⟩ := own_open hown (by simp)
    have c0 := hc 0 (.string (S l)) rfl
    unfold maxLen at hc2
    clear hc hown hp
    go_wp2_with fail
    refine (fmtInt_walk l _ hs).mono ?_
    intro e w2 hpost
    unfold FmtPost at hpost
    cases ho : fmtInt l with
    | none =>
      rw [ho] at hpost HF
      obtain ⟨⟨a, rfl⟩, hb2⟩ := hpost
      go_wp2_with fail
      go_ret2
      unfold FmtPost
      rw [HF.out]
      exact ⟨⟨a, rfl⟩, bt hb hb2⟩
    | some o =>
      rw [ho] at hpost HF
      obtain ⟨rfl, hb2⟩ := hpost
      go_wp2_with fail
      go_ret2
      unfold FmtPost
      rw [HF.out]
      exact ⟨rfl, bt hb hb2⟩
end Go.Proofs.YtikacehcjaaamaaDoor
