/-
  spec.allDigits, spec.Grouped, spec.FormatInt.
-/
import Derived.Test.YtfbaocoeiobolaaAwake
import Derived.Deep.CutBlock
namespace Go.Proofs.Ytfbaocoeiobolaa
open Go.RowKit
attribute [local simp] S_extract S_append

set_option maxRecDepth 100000 in
set_option maxHeartbeats 1000000 in
theorem allDigits_walk (l : List UInt8) (w : World) (hs : l.length ≤ 9223372036854775807) :
    Calls Try.prog 27 #[.string (S l)] w fun e w' => e = .returned (.bool (allDig l)) ∧ w = w' := by
  obtain ⟨R, hR⟩ : ∃ R, allDig l = R := ⟨_, rfl⟩
  rw [hR]
  have HF := Lib.hid hR
  clear hR
  go_enter Try.func27, Try.ntmps27
  go_wp2_with fail
  go_loop [3] (fun i => ∃ k : Nat, i = .int .i64 k ∧ k ≤ l.length ∧ allDig (l.drop k) = R) (fun i => l.length - (intOf i).toNat)
  case atStart => exact ⟨0, rfl, Nat.zero_le _, HF.out⟩
  case round =>
    obtain ⟨k, rfl, hk, hf⟩ := hrel
    have HG := Lib.hid hf
    clear hf
    by_cases hlt : k < l.length
    · obtain ⟨c, hc⟩ : ∃ c, l[k]'hlt = c := ⟨_, rfl⟩
      have hd : l.drop k = c :: l.drop (k + 1) := by rw [List.drop_eq_getElem_cons hlt, hc]
      have HD := Lib.hid hd
      clear hd
      have hlt' : (k : Int) < l.length := by omega
      have hcase : (allDig (c :: l.drop (k + 1)) = (48 ≤ c && c ≤ 57 && allDig (l.drop (k + 1)))) := by simp [allDig]
      rw [dig_byte] at hcase
      have HC := Lib.hid hcase
      clear hcase
      by_cases h1 : (c.toNat : Int) < 48
      · have e : R = false := by rw [← HG.out, HD.out, HC.out]; simp [h1]
        have HE := Lib.hid e
        clear e
        go_wp2_with fail
        go_ret
        rw [HE.out]
        exact ⟨rfl, rfl⟩
      · have h1b : decide ((c.toNat : Int) < 48) = false := decide_eq_false h1
        by_cases h2 : (57 : Int) < (c.toNat : Int)
        · have e : R = false := by rw [← HG.out, HD.out, HC.out]; simp [h2]
          have h2b : decide ((57 : Int) < (c.toNat : Int)) = true := decide_eq_true h2
          have HE := Lib.hid e
          clear e
          go_wp2_with fail
          go_ret
          rw [HE.out]
          exact ⟨rfl, rfl⟩
        · have h2b : decide ((57 : Int) < (c.toNat : Int)) = false := decide_eq_false h2
          go_wp2_with fail
          refine ⟨⟨k + 1, by go_num, by omega, ?_⟩, by simp [intOf]; omega⟩
          have := HG.out
          rw [HD.out, HC.out, h1b, h2b] at this
          simpa using this
    · have hlt' : ¬ (k : Int) < l.length := by omega
      have e : R = true := by rw [← HG.out, List.drop_of_length_le (by omega)]; rfl
      have HE := Lib.hid e
      clear e
      go_wp2_with fail
      go_ret
      rw [HE.out]
      exact ⟨rfl, rfl⟩

/-- The groups behind the first digit, as spec.Grouped lays them. -/
def sepd : List UInt8 → List UInt8
  | [] => []
  | c :: t => if (t.length + 1) % 3 = 0 then 39 :: c :: sepd t else c :: sepd t
def grpd : List UInt8 → List UInt8
  | [] => []
  | c :: t => c :: sepd t
theorem sepd_length : ∀ l, (sepd l).length ≤ 2 * l.length
  | [] => by simp [sepd]
  | c :: t => by have := sepd_length t; unfold sepd; split <;> simp <;> omega
theorem grpd_length (l : List UInt8) : (grpd l).length ≤ 2 * l.length := by
  cases l with
  | nil => simp [grpd]
  | cons c t => have := sepd_length t; simp [grpd]; omega

def GrpRel (l R : List UInt8) (o i : Value) : Prop := ∃ (k : Nat) (out : List UInt8), i = .int .i64 k ∧ k ≤ l.length ∧ o = .string (S out) ∧ out ++ (if k = 0 then grpd l else sepd (l.drop k)) = R

set_option maxRecDepth 100000 in
set_option maxHeartbeats 1000000 in
theorem grouped_walk (l : List UInt8) (w : World) (hs : l.length ≤ 4294967296) :
    Calls Try.prog 28 #[.string (S l)] w fun e w' => e = .returned (.string (S (grpd l))) ∧ w = w' := by
  obtain ⟨R, hR⟩ : ∃ R, grpd l = R := ⟨_, rfl⟩
  have hRl : R.length ≤ 2 * l.length := by rw [← hR]; exact grpd_length l
  rw [hR]
  have HF := Lib.hid hR
  clear hR
  have hlit : (⟨#[]⟩ : ByteArray) = S [] := rfl
  have hlit2 : (⟨#[39]⟩ : ByteArray) = S [39] := rfl
  go_enter Try.func28, Try.ntmps28
  go_wp2_with fail
  go_loop [3, 4] (fun o i => GrpRel l R o i) (fun _ i => l.length - (intOf i).toNat)
  case atStart => exact ⟨0, [], rfl, Nat.zero_le _, rfl, HF.out⟩
  case round =>
    obtain ⟨k, out, rfl, hk, rfl, hf⟩ := hrel
    have hol : out.length ≤ 8589934592 := by have := congrArg List.length hf; rw [List.length_append] at this; omega
    have HG := Lib.hid hf
    clear hf
    by_cases hlt : k < l.length
    · obtain ⟨c, hc⟩ : ∃ c, l[k]'hlt = c := ⟨_, rfl⟩
      have hd : l.drop k = c :: l.drop (k + 1) := by rw [List.drop_eq_getElem_cons hlt, hc]
      have ht : (l.take (k + 1)).drop k = [c] := by
        rw [List.drop_take, hd]
        simp
      have HD := Lib.hid hd
      clear hd hc
      have hlt' : (k : Int) < l.length := by omega
      by_cases h0 : k = 0
      · subst h0
        have hstep : out ++ [c] ++ sepd (l.drop 1) = R := by
          rw [← HG.out, if_pos rfl]
          have := HD.out
          simp only [List.drop_zero, Nat.zero_add] at this
          conv => rhs; rw [this]
          simp [grpd]
        have HS := Lib.hid hstep
        clear hstep
        go_wp2_with fail
        refine ⟨⟨1, out ++ [c], rfl, by omega, rfl, ?_⟩, by simp [intOf]; omega⟩
        rw [if_neg (by decide)]
        exact HS.out
      · have hk0 : decide ((0 : Int) < (k : Int)) = true := decide_eq_true (by omega)
        have hll : (l.drop (k + 1)).length + 1 = l.length - k := by simp; omega
        have hg := HG.out
        rw [if_neg h0, HD.out] at hg
        unfold sepd at hg
        rw [hll] at hg
        have hsub : (0 : Int) ≤ (l.length : Int) - (k : Int) := by omega
        by_cases h3 : (l.length - k) % 3 = 0
        · rw [if_pos h3] at hg
          have h3' : (((l.length : Int) - (k : Int)) % 3 == 0) = true := beq_iff_eq.2 (by omega)
          have HS := Lib.hid hg
          clear hg h3
          go_wp2_with fail
          refine ⟨⟨k + 1, out ++ [39] ++ [c], by go_num, by omega, ?_, ?_⟩, by simp [intOf]; omega⟩
          · simp
          · rw [if_neg (by omega), ← HS.out]
            simp
        · rw [if_neg h3] at hg
          have h3' : (((l.length : Int) - (k : Int)) % 3 == 0) = false := beq_eq_false_iff_ne.2 (by omega)
          have HS := Lib.hid hg
          clear hg h3
          go_wp2_with fail
          refine ⟨⟨k + 1, out ++ [c], by go_num, by omega, rfl, ?_⟩, by simp [intOf]; omega⟩
          rw [if_neg (by omega), ← HS.out]
          simp
    · have hlt' : ¬ (k : Int) < l.length := by omega
      have e : R = out := by
        rw [← HG.out]
        by_cases h0 : k = 0
        · subst h0
          have : l = [] := List.length_eq_zero_iff.1 (by omega)
          subst this
          simp [grpd]
        · rw [if_neg h0, List.drop_of_length_le (by omega)]
          simp [sepd]
      have HE := Lib.hid e
      clear e
      go_wp2_with fail
      go_ret
      rw [HE.out]
      exact ⟨rfl, rfl⟩

/-- Noughts ahead, but for the last digit. -/
def strip : List UInt8 → List UInt8
  | c :: d :: t => if c = 48 then strip (d :: t) else c :: d :: t
  | l => l
def specInt (l : List UInt8) : List UInt8 × Bool × Bool :=
  let v := bodyOf l
  if v = [] then ([], false, false)
  else if allDig v = false then ([], false, true)
  else if strip v = [48] ∧ (v.length ≠ 1 ∨ signOf l ≠ []) then ([], false, false)
  else (signOf l ++ grpd (strip v), true, true)
theorem strip_length : ∀ v, (strip v).length ≤ v.length
  | [] => by simp [strip]
  | [_] => by simp [strip]
  | c :: d :: t => by
    have := strip_length (d :: t)
    unfold strip
    split
    · simp at *; omega
    · simp
theorem strip_pos : ∀ v, v ≠ [] → strip v ≠ []
  | [], h => absurd rfl h
  | [_], _ => by simp [strip]
  | c :: d :: t, _ => by
    have := strip_pos (d :: t) (by simp)
    unfold strip
    split
    · exact this
    · simp

/-- The answer of spec.FormatInt as Go returns it. -/
def threeOf (p : List UInt8 × Bool × Bool) : Ending := .returned (.tuple #[.string (S p.1), .bool p.2.1, .bool p.2.2])

theorem strip_step {t : List UInt8} (h : 0 < t.length) : strip (48 :: t) = strip t := by
  match t, h with
  | d :: t, _ => conv => lhs; unfold strip
                 rw [if_pos rfl]
theorem strip_stop {c : UInt8} {t : List UInt8} (h : ¬ (0 < t.length ∧ c = 48)) : strip (c :: t) = c :: t := by
  cases t with
  | nil => rfl
  | cons d t =>
    unfold strip
    rw [if_neg (fun e => h ⟨by simp, e⟩)]

def StripRel (v : List UInt8) (i : Value) : Prop := ∃ k : Nat, i = .int .i64 k ∧ k < v.length ∧ strip v = strip (v.drop k) ∧ (strip v).length ≤ v.length - k

set_option maxRecDepth 100000 in
set_option maxHeartbeats 1000000 in
theorem specInt_walk (l : List UInt8) (w : World) (hs : l.length ≤ 2147483648) :
    Calls Try.prog 15 #[.string (S l)] w fun e w' => e = threeOf (specInt l) ∧ Below w.heap.size w w' := by
  obtain ⟨R, hR⟩ : ∃ R, specInt l = R := ⟨_, rfl⟩
  rw [hR]
  have HF := Lib.hid hR
  clear hR
  have hlit : (⟨#[]⟩ : ByteArray) = S [] := rfl
  have hlit2 : (⟨#[45]⟩ : ByteArray) = S [45] := rfl
  by_cases hl0 : l = []
  · subst hl0
    have hre : R = ([], false, false) := HF.out.symm
    have HE := Lib.hid hre
    clear hre
    go_enter Try.func15, Try.ntmps15
    go_wp2_with fail
    go_ret3
    rw [HE.out]
    exact ⟨rfl, Below.refl _ _⟩
  · obtain ⟨c, t, rfl⟩ : ∃ c t, l = c :: t := by cases l with | nil => exact absurd rfl hl0 | cons c t => exact ⟨c, t, rfl⟩
    have hbl : (bodyOf (c :: t)).length ≤ 2147483648 := by unfold bodyOf; split <;> simp at * <;> omega
    have HU : Hid (R = if bodyOf (c :: t) = [] then ([], false, false)
      else if allDig (bodyOf (c :: t)) = false then ([], false, true)
      else if strip (bodyOf (c :: t)) = [48] ∧ ((bodyOf (c :: t)).length ≠ 1 ∨ signOf (c :: t) ≠ []) then ([], false, false)
      else (signOf (c :: t) ++ grpd (strip (bodyOf (c :: t))), true, true)) := HF.out.symm
    have hsl : (signOf (c :: t)).length ≤ 1 := by unfold signOf; split <;> simp
    clear HF hl0
    go_enter Try.func15, Try.ntmps15
    go_upto_if 13 with fail
    go_cut [0, 5] (fun s0 s5 wx => s0 = .string (S (bodyOf (c :: t))) ∧ s5 = .string (S (signOf (c :: t))) ∧ Below w.heap.size w wx)
    case first =>
      by_cases hc : c = 45
      · subst hc
        go_wp2_with fail
        go_quiet (fail)
        go_wp2_with fail
        go_meet
        exact ⟨rfl, rfl, below_drewN (Below.refl _ _) _⟩
      · have hcb : ((c.toNat : Int) == 45) = false := by
          have : ¬ ((c.toNat : Int) = 45) := fun k => hc (UInt8.toNat_inj.1 (show c.toNat = 45 by omega))
          exact beq_eq_false_iff_ne.2 this
        have e : (c :: t).head? ≠ some 45 := by simpa using hc
        go_wp2_with fail
        go_meet
        exact ⟨by unfold bodyOf; rw [if_neg e], by unfold signOf; rw [if_neg e]; rfl, Below.refl _ _⟩
    case rest =>
      obtain ⟨rfl, rfl, hb⟩ := hcut
      generalize bodyOf (c :: t) = v at *
      generalize signOf (c :: t) = sg at *
      clear hs
      by_cases hv : v = []
      · have hre : R = ([], false, false) := by rw [HU.out, if_pos hv]
        have hve : v.isEmpty = true := by rw [hv]; rfl
        have HE := Lib.hid hre
        clear hre hv HU
        go_wp2_with fail
        go_ret3
        rw [HE.out]
        exact ⟨rfl, hb⟩
      · have hve : v.isEmpty = false := by simpa using hv
        have hvl : 0 < v.length := by cases v with | nil => exact absurd rfl hv | cons a b => simp
        cases hd : allDig v with
        | false =>
          have hre : R = ([], false, true) := by rw [HU.out, if_neg hv, if_pos hd]
          have HE := Lib.hid hre
          clear hre hv HU
          go_wp2_with (go_at_call 27; ((with_reducible refine (allDigits_walk v _ (by omega)).mono ?_); rintro e w1 ⟨rfl, rfl⟩; rw [hd]))
          go_ret3
          rw [HE.out]
          exact ⟨rfl, hb⟩
        | true =>
          have hre : R = if strip v = [48] ∧ (v.length ≠ 1 ∨ sg ≠ []) then ([], false, false) else (sg ++ grpd (strip v), true, true) := by
            rw [HU.out, if_neg hv, if_neg (by rw [hd]; decide)]
          have HE := Lib.hid hre
          clear hre hv HU
          go_wp2_with (go_at_call 27; ((with_reducible refine (allDigits_walk v _ (by omega)).mono ?_); rintro e w1 ⟨rfl, rfl⟩; rw [hd]))
          go_loop [6] (fun i => StripRel v i) (fun i => v.length - (intOf i).toNat)
          case atStart => exact ⟨0, rfl, hvl, rfl, strip_length v⟩
          case round =>
            obtain ⟨k, rfl, hk, hs1, hs2⟩ := hrel
            have H1 := Lib.hid hs1
            have hk' : (k : Int) < v.length := by omega
            obtain ⟨c, hc⟩ : ∃ c, v[k]'hk = c := ⟨_, rfl⟩
            have hdr : v.drop k = c :: v.drop (k + 1) := by rw [List.drop_eq_getElem_cons hk, hc]
            have HD := Lib.hid hdr
            have hsub : (0 : Int) ≤ (v.length : Int) - 1 := by omega
            clear hs1 hdr hs2
            by_cases hgo : k + 1 < v.length ∧ c = 48
            · obtain ⟨hg1, rfl⟩ := hgo
              have hg1' : decide ((k : Int) < (v.length : Int) - 1) = true := decide_eq_true (by omega)
              go_wp2_with fail
              refine ⟨⟨k + 1, by go_num, hg1, ?_, ?_⟩, by simp [intOf]; omega⟩
              · rw [H1.out, HD.out]
                exact strip_step (by simp; omega)
              · have := strip_length (v.drop (k + 1))
                have e : strip v = strip (v.drop (k + 1)) := by
                  rw [H1.out, HD.out]
                  exact strip_step (by simp; omega)
                rw [e]
                simpa using this
            · have hfin : strip v = v.drop k := by
                rw [H1.out, HD.out]
                exact strip_stop (fun h => hgo ⟨by have := h.1; simp at this; omega, h.2⟩)
              have hlen : (strip v).length = v.length - k := by rw [hfin]; simp
              have HFN := Lib.hid hfin
              have HLN := Lib.hid hlen
              clear hfin hlen
              have htest : k + 1 < v.length → ((c.toNat : Int) == 48) = false := fun h1 =>
                beq_eq_false_iff_ne.2 (fun h => hgo ⟨h1, nought_of h⟩)
              clear hgo
              cases hq : (v.drop k == [48]) with
              | false =>
                have hre : R = (sg ++ grpd (v.drop k), true, true) := by
                  rw [HE.out, if_neg, HFN.out]
                  rintro ⟨h, _⟩
                  rw [← HFN.out, h] at hq
                  exact absurd hq (by decide)
                have hgl : (grpd (v.drop k)).length ≤ 4294967296 := by have := grpd_length (v.drop k); simp at this; omega
                have hdl : (v.drop k).length ≤ 4294967296 := by simp; omega
                have HR := Lib.hid hre
                clear hre HE
                by_cases h1 : k + 1 < v.length
                · have hc48 := htest h1
                  have htl : decide ((k : Int) < (v.length : Int) - 1) = true := decide_eq_true (by omega)
                  clear htest
                  go_wp2_with (go_at_call 28; ((with_reducible refine (grouped_walk _ _ hdl).mono ?_); rintro e w1 ⟨rfl, rfl⟩))
                  go_ret3
                  rw [HR.out]
                  exact ⟨rfl, hb⟩
                · have htl : decide ((k : Int) < (v.length : Int) - 1) = false := decide_eq_false (by omega)
                  clear htest
                  go_wp2_with (go_at_call 28; ((with_reducible refine (grouped_walk _ _ hdl).mono ?_); rintro e w1 ⟨rfl, rfl⟩))
                  go_ret3
                  rw [HR.out]
                  exact ⟨rfl, hb⟩
              | true =>
                have hst : strip v = [48] := by rw [HFN.out]; exact eq_of_beq hq
                have hkl : v.length - k = 1 := by rw [← HLN.out, hst]; rfl
                have htl : decide ((k : Int) < (v.length : Int) - 1) = false := decide_eq_false (by omega)
                have HS := Lib.hid hst
                clear hst htest
                by_cases hk0 : k = 0
                · subst hk0
                  cases hsg : sg.isEmpty with
                  | true =>
                    have hsn : sg = [] := by simpa using hsg
                    subst hsn
                    have hre : R = ([48], true, true) := by
                      rw [HE.out, if_neg, HS.out]
                      · rfl
                      · rintro ⟨_, h | h⟩
                        · omega
                        · exact h rfl
                    have HR := Lib.hid hre
                    have hdl : (v.drop 0).length ≤ 4294967296 := by simp; omega
                    have hv0 : grpd v = [48] := by
                      have := eq_of_beq hq
                      rw [List.drop_zero] at this
                      rw [this]
                      rfl
                    have HV := Lib.hid hv0
                    have hvl2 : v.length ≤ 4294967296 := by omega
                    have hqv : (v == [48]) = true := hq
                    clear hre HE hv0 hdl hq
                    go_wp2_with (go_at_call 28; ((with_reducible refine (grouped_walk v _ hvl2).mono ?_); rintro e w1 ⟨rfl, rfl⟩; rw [HV.out]))
                    go_ret3
                    rw [HR.out]
                    exact ⟨rfl, hb⟩
                  | false =>
                    have hre : R = ([], false, false) := by
                      rw [HE.out, if_pos]
                      exact ⟨HS.out, .inr (by simpa using hsg)⟩
                    have HR := Lib.hid hre
                    have hqv : (v == [48]) = true := hq
                    clear hre HE hq
                    go_wp2_with fail
                    go_ret3
                    rw [HR.out]
                    exact ⟨rfl, hb⟩
                · have hp : decide (0 < k) = true := decide_eq_true (by omega)
                  have hre : R = ([], false, false) := by
                    rw [HE.out, if_pos]
                    exact ⟨HS.out, .inl (by omega)⟩
                  have HR := Lib.hid hre
                  clear hre HE
                  go_wp2_with fail
                  go_ret3
                  rw [HR.out]
                  exact ⟨rfl, hb⟩
end Go.Proofs.Ytfbaocoeiobolaa
