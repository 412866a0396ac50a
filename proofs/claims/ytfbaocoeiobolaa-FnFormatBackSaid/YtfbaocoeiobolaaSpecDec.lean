/-
  spec.FormatDec.
-/
import Derived.Test.YtfbaocoeiobolaaLawInt
namespace Go.Proofs.Ytfbaocoeiobolaa
open Go.RowKit
attribute [local simp] S_extract S_append

/-- What the reference has ahead of the points and behind them, and how many points. -/
def scanStep (s : List UInt8 × List UInt8 × Nat) (c : UInt8) : List UInt8 × List UInt8 × Nat :=
  if c = 46 then (s.1, s.2.1, s.2.2 + 1) else if s.2.2 = 0 then (s.1 ++ [c], s.2.1, s.2.2) else (s.1, s.2.1 ++ [c], s.2.2)
def scanFrom (s : List UInt8 × List UInt8 × Nat) (l : List UInt8) : List UInt8 × List UInt8 × Nat := l.foldl scanStep s
def specTail (o rs : List UInt8) : List UInt8 × Bool × Bool :=
  if allDig rs = false then ([], false, true)
  else if rtrim rs = [] then (o, true, o != [45, 48]) else (o ++ 46 :: rtrim rs, true, true)
def specDec (l : List UInt8) : List UInt8 × Bool × Bool :=
  let s := scanFrom ([], [], 0) l
  if 1 < s.2.2 then ([], false, true)
  else if s.1 = [45, 48] then specTail [45, 48] s.2.1
  else if (specInt s.1).2.2 = true ∧ (specInt s.1).2.1 = true then specTail (specInt s.1).1 s.2.1
  else ([], (specInt s.1).2.1, (specInt s.1).2.2)

def ScanRel (l : List UInt8) (R : List UInt8 × List UInt8 × Nat) (a b n i : Value) : Prop :=
  ∃ (k : Nat) (wh rs : List UInt8) (m : Nat), i = .int .i64 k ∧ k ≤ l.length ∧ a = .string (S wh) ∧ b = .string (S rs) ∧ n = .int .i64 m ∧ wh.length + rs.length + m ≤ k ∧ scanFrom (wh, rs, m) (l.drop k) = R

def TrimRel (rs : List UInt8) (b : Value) : Prop := ∃ u : List UInt8, b = .string (S u) ∧ rtrim rs = rtrim u ∧ u.length ≤ rs.length
def strSize : Value → Nat | .string s => s.size | _ => 0

theorem specInt_length (l : List UInt8) : (specInt l).1.length ≤ 2 * l.length + 1 := by
  have h1 : (bodyOf l).length ≤ l.length := by unfold bodyOf; split <;> simp
  have h2 := strip_length (bodyOf l)
  have h3 := grpd_length (strip (bodyOf l))
  have h4 : (signOf l).length ≤ 1 := by unfold signOf; split <;> simp
  unfold specInt
  simp only
  split
  · simp
  · split
    · simp
    · split
      · simp
      · simp; omega

/-- The tail of spec.FormatDec's walk is one for both ways to the whole part: what is left is said of slots 2, 3, 4 and 6. -/
def DecMid (l : List UInt8) (w : World) (rs : List UInt8) (a2 a3 a4 : Value) (wx : World) : Prop :=
  Below w.heap.size w wx ∧ ∃ o : List UInt8, o.length ≤ 2 * l.length + 2 ∧ a2 = .string (S o) ∧ a3 = .bool true ∧ a4 = .bool true ∧ specDec l = specTail o rs

set_option maxRecDepth 100000 in
set_option maxHeartbeats 2000000 in
theorem specDec_walk (l : List UInt8) (w : World) (hs : l.length ≤ 2147483648) :
    Calls Try.prog 14 #[.string (S l)] w fun e w' => e = threeOf (specDec l) ∧ Below w.heap.size w w' := by
  have hlit : (⟨#[]⟩ : ByteArray) = S [] := rfl
  have hlit2 : (⟨#[45, 48]⟩ : ByteArray) = S [45, 48] := rfl
  have hlit3 : (⟨#[46]⟩ : ByteArray) = S [46] := rfl
  obtain ⟨s, hsc⟩ : ∃ s, scanFrom ([], [], 0) l = s := ⟨_, rfl⟩
  have HSC := Lib.hid hsc
  clear hsc
  go_enter Try.func14, Try.ntmps14
  go_wp2_with fail
  go_loop [5, 6, 7, 8] (fun a b n i => ScanRel l s a b n i) (fun _ _ _ i => l.length - (intOf i).toNat)
  case atStart => exact ⟨0, [], [], 0, rfl, Nat.zero_le _, rfl, rfl, rfl, by simp, HSC.out⟩
  case round =>
    obtain ⟨k, wh, rs, m, rfl, hk, rfl, rfl, rfl, hlen, hf⟩ := hrel
    have HG := Lib.hid hf
    clear hf
    by_cases hlt : k < l.length
    · obtain ⟨c, hc⟩ : ∃ c, l[k]'hlt = c := ⟨_, rfl⟩
      have hd : l.drop k = c :: l.drop (k + 1) := by rw [List.drop_eq_getElem_cons hlt, hc]
      have ht : (l.take (k + 1)).drop k = [c] := by
        rw [List.drop_take, hd]
        simp
      have hstep : scanFrom (scanStep (wh, rs, m) c) (l.drop (k + 1)) = s := by rw [← HG.out, hd]; rfl
      have HST := Lib.hid hstep
      clear hd hstep HG
      have hlt' : (k : Int) < l.length := by omega
      by_cases h46 : c = 46
      · subst h46
        go_wp2_with fail
        refine ⟨⟨k + 1, wh, rs, m + 1, by go_num, by omega, rfl, rfl, by go_num, by omega, HST.out⟩, by simp [intOf]; omega⟩
      · have h46b : ((c.toNat : Int) == 46) = false := by
          have : ¬ ((c.toNat : Int) = 46) := fun k => h46 (UInt8.toNat_inj.1 (show c.toNat = 46 by omega))
          exact beq_eq_false_iff_ne.2 this
        have HST2 := HST.out
        unfold scanStep at HST2
        rw [if_neg h46] at HST2
        clear HST
        by_cases hm0 : m = 0
        · subst hm0
          have HST3 := Lib.hid HST2
          clear HST2
          go_wp2_with fail
          refine ⟨⟨k + 1, wh ++ [c], rs, 0, by go_num, by omega, rfl, rfl, rfl, by simp; omega, HST3.out⟩, by simp [intOf]; omega⟩
        · have hm0b : ((m : Int) == 0) = false := beq_eq_false_iff_ne.2 (by omega)
          rw [if_neg (show ¬ (wh, rs, m).2.2 = 0 from hm0)] at HST2
          have HST3 := Lib.hid HST2
          clear HST2
          go_wp2_with fail
          refine ⟨⟨k + 1, wh, rs ++ [c], m, by go_num, by omega, rfl, rfl, rfl, by simp; omega, HST3.out⟩, by simp [intOf]; omega⟩
    · have hlt' : ¬ (k : Int) < l.length := by omega
      have e : s = (wh, rs, m) := by rw [← HG.out, List.drop_of_length_le (by omega)]; rfl
      subst e
      have HU : Hid (specDec l = if 1 < m then ([], false, true)
        else if wh = [45, 48] then specTail [45, 48] rs
        else if (specInt wh).2.2 = true ∧ (specInt wh).2.1 = true then specTail (specInt wh).1 rs
        else ([], (specInt wh).2.1, (specInt wh).2.2)) := by unfold specDec Hid; rw [HSC.out]
      clear HSC HG
      by_cases hm : 1 < m
      · have hm' : decide ((1 : Int) < (m : Int)) = true := decide_eq_true (by omega)
        have hm'' : decide (1 < m) = true := decide_eq_true hm
        have hre : specDec l = ([], false, true) := by rw [HU.out, if_pos hm]
        have HE := Lib.hid hre
        clear hre hm
        go_wp2_with fail
        go_ret3
        rw [HE.out]
        exact ⟨rfl, Below.refl _ _⟩
      · have hm' : decide ((1 : Int) < (m : Int)) = false := decide_eq_false (by omega)
        have hm'' : decide (1 < m) = false := decide_eq_false hm
        have hwl : wh.length ≤ 2147483648 := by omega
        have hrl : rs.length ≤ 2147483648 := by omega
        have HU2 : Hid (specDec l = if wh = [45, 48] then specTail [45, 48] rs
          else if (specInt wh).2.2 = true ∧ (specInt wh).2.1 = true then specTail (specInt wh).1 rs
          else ([], (specInt wh).2.1, (specInt wh).2.2)) := by unfold Hid; rw [HU.out, if_neg hm]
        clear HU
        go_upto_if 42 with fail
        go_cut [2, 3, 4] (fun a2 a3 a4 wx => DecMid l w rs a2 a3 a4 wx)
        case first =>
          go_wp2_with fail
          · have hw : wh = [45, 48] := eq_of_beq (by assumption)
            have hre : specDec l = specTail [45, 48] rs := by rw [HU2.out, if_pos hw]
            go_meet
            exact ⟨Below.refl _ _, [45, 48], by simp, rfl, rfl, rfl, hre⟩
          · have hw : ¬ wh = [45, 48] := by
              intro h
              have h2 : (wh == [45, 48]) = false := by assumption
              rw [h] at h2
              exact absurd h2 (by decide)
            have hU3 := HU2.out
            rw [if_neg hw] at hU3
            have hil := specInt_length wh
            obtain ⟨⟨o, ok, said⟩, hR⟩ : ∃ R, specInt wh = R := ⟨_, rfl⟩
            rw [hR] at hU3 hil
            have HU3 := Lib.hid hU3
            have HIL := Lib.hid hil
            clear hw hU3 HU2 hil
            refine (specInt_walk wh _ hwl).mono ?_
            rw [hR]
            rintro e w1 ⟨rfl, hb⟩
            unfold threeOf
            by_cases hboth : said = true ∧ ok = true
            · obtain ⟨rfl, rfl⟩ := hboth
              go_wp2_with fail
              go_meet
              exact ⟨hb, o, by have := HIL.out; omega, rfl, rfl, rfl, by rw [HU3.out]; simp⟩
            · have hre : specDec l = ([], ok, said) := by rw [HU3.out, if_neg hboth]
              have HE := Lib.hid hre
              clear hre HU3
              cases said with
              | false =>
                clear hboth
                go_wp2_with fail
                all_goals go_ret3
                all_goals rw [HE.out]
                all_goals exact ⟨rfl, hb⟩
              | true =>
                cases ok with
                | true => exact absurd ⟨rfl, rfl⟩ hboth
                | false =>
                  clear hboth
                  go_wp2_with fail
                  all_goals go_ret3
                  all_goals rw [HE.out]
                  all_goals exact ⟨rfl, hb⟩
        case rest =>
          obtain ⟨hb, o, hol, rfl, rfl, rfl, hre⟩ := hcut
          have HE := Lib.hid hre
          clear hre HU2 hm hm' hm''
          cases hd : allDig rs with
          | false =>
            have h2 : specDec l = ([], false, true) := by rw [HE.out]; unfold specTail; rw [if_pos hd]
            have HE2 := Lib.hid h2
            clear h2 HE
            go_wp2_with (go_at_call 27; ((with_reducible refine (allDigits_walk rs _ (by omega)).mono ?_); rintro e w1 ⟨rfl, rfl⟩; rw [hd]))
            go_ret3
            rw [HE2.out]
            exact ⟨rfl, hb⟩
          | true =>
            have h2 : specDec l = if rtrim rs = [] then (o, true, o != [45, 48]) else (o ++ 46 :: rtrim rs, true, true) := by
              rw [HE.out]; unfold specTail; rw [if_neg (by rw [hd]; decide)]
            have HE2 := Lib.hid h2
            clear h2 HE
            go_wp2_with (go_at_call 27; ((with_reducible refine (allDigits_walk rs _ (by omega)).mono ?_); rintro e w1 ⟨rfl, rfl⟩; rw [hd]))
            go_loop [6] (fun b => TrimRel rs b) (fun b => strSize b)
            case atStart => exact ⟨rs, rfl, rfl, Nat.le_refl _⟩
            case round =>
              obtain ⟨u, rfl, hu, hul⟩ := hrel
              have HU := Lib.hid hu
              clear hu
              by_cases hue : u = []
              · subst hue
                have h3 : specDec l = (o, true, o != [45, 48]) := by rw [HE2.out, HU.out]; rfl
                have HE3 := Lib.hid h3
                clear h3 HE2
                go_wp2_with fail
                go_ret3
                rw [HE3.out]
                exact ⟨rfl, hb⟩
              · obtain ⟨t, c, rfl⟩ : ∃ t c, u = t ++ [c] := by
                  rw [← List.dropLast_concat_getLast hue]
                  exact ⟨_, _, rfl⟩
                have hne : (t ++ [c]).isEmpty = false := by simp
                have hlen1 : (0 : Int) ≤ (t.length : Int) + 1 - 1 := by omega
                have hul2 : t.length + 1 ≤ rs.length := by simpa using hul
                have hget : ∀ h, (t ++ [c])[t.length]'h = c := fun h => by simp
                have htk : (t ++ [c]).take t.length = t := by simp
                by_cases h48 : c = 48
                · subst h48
                  go_wp2_with fail
                  refine ⟨⟨t, rfl, ?_, by omega⟩, by simp [strSize]⟩
                  rw [HU.out, rtrim_snoc, if_pos rfl]
                · have hcb : ((c.toNat : Int) == 48) = false := by
                    have : ¬ ((c.toNat : Int) = 48) := fun k => h48 (nought_of k)
                    exact beq_eq_false_iff_ne.2 this
                  have hrt : rtrim rs = t ++ [c] := by rw [HU.out, rtrim_snoc, if_neg h48]
                  have h3 : specDec l = (o ++ 46 :: (t ++ [c]), true, true) := by rw [HE2.out, hrt, if_neg hue]
                  have HE3 := Lib.hid h3
                  clear h3 HE2 hrt HU h48
                  go_wp2_with fail
                  go_ret3
                  rw [HE3.out]
                  exact ⟨rfl, hb⟩
end Go.Proofs.Ytfbaocoeiobolaa
