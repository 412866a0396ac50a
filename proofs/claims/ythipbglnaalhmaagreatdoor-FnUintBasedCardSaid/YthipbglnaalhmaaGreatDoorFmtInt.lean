/-
  cosmosmath.FormatInt: the text with its digits in groups, or an error.
-/
import Derived.Test.YthipbglnaalhmaaGreatDoorBuild
import Derived.Deep.DeepCutAuto
import Derived.Deep.CutBlock
namespace Go.Proofs.YthipbglnaalhmaaGreatDoor
open Go.RowKit

/-- Groups of three, a mark between. -/
def grp3 : List UInt8 → List UInt8
  | a :: b :: c :: r => if r = [] then [a, b, c] else a :: b :: c :: 39 :: grp3 r
  | l => l

def grouped (v : List UInt8) : List UInt8 :=
  if v.length ≤ 3 then v
  else if v.length % 3 = 0 then grp3 v
  else v.take (v.length % 3) ++ 39 :: grp3 (v.drop (v.length % 3))

def signOf (s : List UInt8) : List UInt8 := if s.head? = some 45 then [45] else []
def bodyOf (s : List UInt8) : List UInt8 := if s.head? = some 45 then s.tail else s
def cutOf (v : List UInt8) : List UInt8 := if 1 < v.length then v.dropWhile (· == 48) else v
def fmtInt (s : List UInt8) : Option (List UInt8) :=
  if s = [] then none
  else if !(cutOf (bodyOf s)).isEmpty && allDig (cutOf (bodyOf s)) then some (signOf s ++ grouped (cutOf (bodyOf s))) else none

/-- What FormatInt returns. -/
def FmtPost (o : Option (List UInt8)) (w : World) (e : Ending) (w' : World) : Prop :=
  (match o with
    | some l => e = .returned (.tuple #[.string (S l), .nilIface])
    | none => ∃ a, e = .returned (.tuple #[.string ⟨#[]⟩, .iface 113 (.pointer (some a))])) ∧ Below w.heap.size w w'

attribute [local simp] S_extract S_append

theorem bt {w w1 w2 : World} (h : Below w.heap.size w w1) (k : Below w1.heap.size w1 w2) : Below w.heap.size w w2 := h.trans (k.mono h.size)

set_option maxRecDepth 100000 in
theorem grow_walk (b : Nat) (n : Int) (h0 : 0 ≤ n) (hn : n ≤ 2000) (w : World) (hbk : w.heap[b]? = some (.cells #[.pointer none, .slice none 0 0] 131 (0, 0))) :
    Calls Tryz.prog 165 #[.pointer (some ⟨b, 0, none⟩), .int .i64 n] w fun e w' => e = .returned (.tuple #[]) ∧ Lib.BuilderAt 131 5 b b (.pointer (some ⟨b, 0, none⟩)) [] w' ∧ Below b w w' := by
  obtain ⟨m, rfl⟩ := Int.eq_ofNat_of_zero_le h0
  exact Tryz.Builder_Grow_fresh b b m w (Nat.le_refl _) hbk (Nat.le_of_lt (iter_lt hbk)) (by omega)

set_option maxRecDepth 100000 in
theorem write_walk (b : Nat) (l : List UInt8) (s : ByteArray) (w : World) (h : Lib.BuilderAt 131 5 b b (.pointer (some ⟨b, 0, none⟩)) (Lib.byteCells l) w) (hlen : l.length + s.size ≤ 10000) :
    Calls Tryz.prog 166 #[.pointer (some ⟨b, 0, none⟩), .string s] w fun e w' => e = .returned (.tuple #[.int .i64 s.size, .nilIface]) ∧ Lib.BuilderAt 131 5 b b (.pointer (some ⟨b, 0, none⟩)) (Lib.byteCells (l ++ s.data.toList)) w' ∧ Below b w w' := by
  refine (writeString_walk b b _ s w h (by rw [Lib.byteCells_length]; omega) (Nat.le_of_lt h.lt)).mono ?_
  rintro e w' ⟨h1, h2, h3⟩
  exact ⟨h1, by rw [Lib.byteCells_append]; exact h2, h3⟩

theorem nought45 {u : UInt8} (h : ((u.toNat : Int) == 45) = true) : u = 45 := by
  apply UInt8.toNat_inj.1
  show u.toNat = 45
  have := eq_of_beq h
  omega

theorem grp3_length : ∀ (n : Nat) (v : List UInt8), v.length ≤ n → (grp3 v).length ≤ 2 * v.length := by
  intro n
  induction n with
  | zero => intro v h; cases v with | nil => simp [grp3] | cons a t => simp at h
  | succ n ih =>
    intro v h
    match v, h with
    | [], _ => simp [grp3]
    | [a], _ => simp [grp3]
    | [a, b], _ => simp [grp3]
    | a :: b :: c :: r, h =>
      have := ih r (by simp at h; omega)
      unfold grp3
      split
      · simp
        omega
      · simp
        omega
theorem grouped_length (v : List UInt8) : (grouped v).length ≤ 2 * v.length := by
  unfold grouped
  split
  · omega
  · split
    · exact grp3_length _ _ (Nat.le_refl _)
    · have := grp3_length _ (v.drop (v.length % 3)) (Nat.le_refl _)
      simp at *
      omega
theorem grp3_step (a b c : UInt8) (r : List UInt8) : grp3 (a :: b :: c :: r) = [a, b, c] ++ (if r = [] then [] else 39 :: grp3 r) := by
  conv => lhs; unfold grp3
  split <;> simp

set_option maxRecDepth 100000 in
set_option maxHeartbeats 1000000 in
theorem fmtInt_walk (l : List UInt8) (w : World) (hs : l.length ≤ 1000) :
    Calls Tryz.prog 130 #[.string (S l)] w (FmtPost (fmtInt l) w) := by
  by_cases h0 : l = []
  · subst h0
    go_enter Tryz.func130, Tryz.ntmps130
    go_wp2_with (go_at_call 93; ((with_reducible refine (errorsNew_walk _ _).mono ?_); rintro e w1 ⟨a, rfl, hb⟩))
    go_ret2
    exact ⟨⟨a, rfl⟩, hb⟩
  · obtain ⟨c, t, rfl⟩ : ∃ c t, l = c :: t := by cases l with | nil => exact absurd rfl h0 | cons c t => exact ⟨c, t, rfl⟩
    have hl : ((t.length : Int) + 1 == 0) = false := beq_eq_false_iff_ne.2 (by omega)
    have HF : Hid (fmtInt (c :: t) = if !(cutOf (bodyOf (c :: t))).isEmpty && allDig (cutOf (bodyOf (c :: t))) then some (signOf (c :: t) ++ grouped (cutOf (bodyOf (c :: t)))) else none) := by unfold fmtInt Hid; rw [if_neg h0]
    have hbl : (bodyOf (c :: t)).length ≤ 1000 := by unfold bodyOf; split <;> simp at * <;> omega
    clear h0
    go_enter Tryz.func130, Tryz.ntmps130
    go_upto_if 15 with fail
    go_cut [0, 4] (fun s0 s4 wx => s0 = .string (S (bodyOf (c :: t))) ∧ s4 = .string (S (signOf (c :: t))) ∧ wx = w)
    case first =>
      go_wp2_with fail
      · have hc : c = 45 := nought45 (by assumption)
        subst hc
        go_meet
        exact ⟨rfl, rfl, rfl⟩
      · have hc : ¬ c = 45 := fun k => by subst k; rename_i hq; revert hq; decide
        go_meet
        have e : (c :: t).head? ≠ some 45 := by simpa using hc
        exact ⟨by unfold bodyOf; rw [if_neg e], by unfold signOf; rw [if_neg e]; rfl, rfl⟩
    case rest =>
      obtain ⟨rfl, rfl, rfl⟩ := hcut
      generalize hv : bodyOf (c :: t) = v at *
      generalize hsg : signOf (c :: t) = sg at *
      have hsl : sg.length ≤ 1 := by rw [← hsg]; unfold signOf; split <;> simp
      clear hv hsg hs hl
      go_upto_if 20 with fail
      go_cut [0] (fun s0 wx => s0 = .string (S (cutOf v)) ∧ Below wc.heap.size wc wx)
      case first =>
        by_cases h1 : 1 < v.length
        · have e : cutOf v = v.dropWhile (· == 48) := by unfold cutOf; rw [if_pos h1]
          have h1' : (1 : Int) < v.length := by omega
          have hsz : (S v).size ≤ 9223372036854775807 := by rw [S_size]; omega
          go_wp2_with (go_at_call 162; ((with_reducible refine (trimLeft_walk _ _ hsz).mono ?_); rintro e' w1 ⟨rfl, hb⟩))
          go_meet
          refine ⟨?_, hb⟩
          rw [e]
          simp [trimmed, S]
        · have e : cutOf v = v := by unfold cutOf; rw [if_neg h1]
          have h1' : ¬ (1 : Int) < v.length := by omega
          go_wp2_with fail
          go_meet
          exact ⟨by rw [e], Below.refl _ _⟩
      case rest =>
        obtain ⟨rfl, hb⟩ := hcut
        have hcl : (cutOf v).length ≤ 1000 := by
          unfold cutOf
          split
          · exact Nat.le_trans (List.dropWhile_sublist _).length_le hbl
          · exact hbl
        generalize cutOf v = u at *
        clear hbl
        have hsz : (S u).size ≤ 9223372036854775807 := by rw [S_size]; omega
        cases hok : (!u.isEmpty && allDig u) with
        | false =>
          rw [hok] at HF
          have hd1 : (!(S u).data.toList.isEmpty && allDig (S u).data.toList) = false := by rw [S_data]; exact hok
          go_wp2_with (first
            | (go_at_call 163; ((with_reducible refine (onlyDigits_walk _ _ hsz).mono ?_); rintro e' w1 ⟨rfl, hb1⟩; rw [hd1]))
            | (go_at_call 93; ((with_reducible refine (errorsNew_walk _ _).mono ?_); rintro e w1 ⟨a, rfl, hb2⟩)))
          go_ret2
          unfold FmtPost
          rw [HF.out]
          exact ⟨⟨a, rfl⟩, bt (bt hb hb1) hb2⟩
        | true =>
          rw [hok] at HF
          have hd1 : (!(S u).data.toList.isEmpty && allDig (S u).data.toList) = true := by rw [S_data]; exact hok
          by_cases h3 : u.length ≤ 3
          · have h3' : (u.length : Int) ≤ 3 := by omega
            have hg : grouped u = u := by unfold grouped; rw [if_pos h3]
            rw [hg] at HF
            clear hg
            go_wp2_with (first
              | (go_at_call 163; ((with_reducible refine (onlyDigits_walk _ _ hsz).mono ?_); rintro e' w1 ⟨rfl, hb1⟩; rw [hd1])))
            go_ret2
            unfold FmtPost
            rw [HF.out]
            exact ⟨rfl, bt hb hb1⟩
          · have h3' : ¬ (u.length : Int) ≤ 3 := by omega
            go_upto_region 16 with (first
              | (go_at_call 163; ((with_reducible refine (onlyDigits_walk _ _ hsz).mono ?_); rintro e' w1 ⟨rfl, hb1⟩; rw [hd1]))
              | (go_at_call 164; ((with_reducible refine (reset_walk _ _ (heap_alloc_new _ _)).mono ?_); rintro e w2 ⟨rfl, hb2, hz2, hk2⟩; have HK := Lib.hid hk2; clear hk2))
              | (go_at_call 165; ((with_reducible refine (grow_walk _ _ (by omega) (by omega) _ HK.out).mono ?_); rintro e w3 ⟨rfl, hbu, hb3⟩; have HB := Lib.hid hbu; clear hbu)))
            have hgl : (grouped u).length ≤ 2 * u.length := grouped_length u
            go_upto_if 48 with fail
            go_cut [0] (fun s0 wx => ∃ rest pre, s0 = .string (S rest) ∧ rest.length % 3 = 0 ∧ rest.length ≤ 1000 ∧ grouped u = pre ++ grp3 rest ∧ Lib.BuilderAt 131 5 w1.heap.size w1.heap.size (.pointer (some ⟨w1.heap.size, 0, none⟩)) (Lib.byteCells pre) wx ∧ Below w1.heap.size w1 wx)
            case first =>
              by_cases hm : u.length % 3 = 0
              · have hmb : ((u.length : Int) % 3 != 0) = false := by simp; omega
                go_wp2_with fail
                go_meet
                refine ⟨u, [], rfl, hm, hcl, ?_, HB.out, (((Below.refl _ _).alloc (Nat.le_refl _) _).trans hb2).trans hb3⟩
                unfold grouped
                rw [if_neg h3, if_pos hm]
                rfl
              · have hmb : ((u.length : Int) % 3 != 0) = true := by simp; omega
                go_wp2_with fail
                refine (write_walk _ [] _ _ HB.out ?_).mono ?_
                · simp
                  omega
                rintro e w4 ⟨rfl, hbu4, hb4⟩
                have HB4 := Lib.hid hbu4
                clear hbu4
                go_wp2_with fail
                refine (write_walk _ _ _ _ HB4.out ?_).mono ?_
                · have : (⟨#[39]⟩ : ByteArray).size = 1 := rfl
                  simp [this]
                  omega
                rintro e w5 ⟨rfl, hbu5, hb5⟩
                have HB5 := Lib.hid hbu5
                clear hbu5
                go_wp2_with fail
                go_meet
                refine ⟨u.drop (u.length % 3), u.take (u.length % 3) ++ [39], rfl, by simp; omega, by simp; omega, ?_, ?_, ((((Below.refl _ _).alloc (Nat.le_refl _) _).trans hb2).trans hb3).trans (hb4.trans hb5)⟩
                · unfold grouped
                  rw [if_neg h3, if_neg hm]
                  simp
                · have := HB5.out
                  simpa using this
            case rest =>
              obtain ⟨rest, pre, rfl, hr3, hrl, hgr, hbu, hb5⟩ := hcut
              have HB5 := Lib.hid hbu
              have HR3 := Lib.hid hr3
              have HG := Lib.hid hgr
              clear hbu hr3 hgr HB HK hb2 hb3 h3
              go_wp2_with fail
              go_loopw [7] (fun i wr => ∃ (k : Nat) (acc : List UInt8), i = .int .i64 k ∧ k ≤ rest.length ∧ k % 3 = 0 ∧ grouped u = acc ++ grp3 (rest.drop k) ∧ Lib.BuilderAt 131 5 w1.heap.size w1.heap.size (.pointer (some ⟨w1.heap.size, 0, none⟩)) (Lib.byteCells acc) wr ∧ Below w1.heap.size w1 wr) (fun i _ => rest.length - (intOf i).toNat)
              case atStart => exact ⟨0, pre, rfl, Nat.zero_le _, rfl, HG.out, HB5.out, hb5⟩
              case round =>
                obtain ⟨k, acc, rfl, hk, hk3, hacc, hbk, hbw⟩ := hrel
                have hal : acc.length ≤ 2000 := by
                  have := congrArg List.length hacc
                  rw [List.length_append] at this
                  omega
                have HB6 := Lib.hid hbk
                have HA := Lib.hid hacc
                have HK3 := Lib.hid hk3
                clear hbk hacc hk3
                by_cases hlt : k < rest.length
                · have hk2 : k + 3 ≤ rest.length := by have := HK3.out; have := HR3.out; omega
                  obtain ⟨a, b, d, r, hdr⟩ : ∃ a b d r, rest.drop k = a :: b :: d :: r := by
                    have hl : (rest.drop k).length = rest.length - k := by simp
                    match h : rest.drop k with
                    | [] => rw [h] at hl; simp at hl; omega
                    | [_] => rw [h] at hl; simp at hl; omega
                    | [_, _] => rw [h] at hl; simp at hl; omega
                    | a :: b :: d :: r => exact ⟨a, b, d, r, rfl⟩
                  have hr : r = rest.drop (k + 3) := by
                    rw [← List.drop_drop, hdr]
                    rfl
                  have htk : ((rest.take (k + 3)).drop k) = [a, b, d] := by
                    rw [List.drop_take, hdr]
                    simp
                  have HT := Lib.hid htk
                  have HD := Lib.hid hdr
                  have HRR := Lib.hid hr
                  clear htk hdr hr
                  have hlt' : (k : Int) < rest.length := by omega
                  by_cases hend : k + 3 < rest.length
                  · have hend' : decide ((k : Int) + 3 < rest.length) = true := decide_eq_true (by omega)
                    go_wp2_with fail
                    refine (write_walk _ _ _ _ HB6.out ?_).mono ?_
                    · simp
                      omega
                    rintro e w6 ⟨rfl, hbu6, hb6⟩
                    have HB7 := Lib.hid hbu6
                    clear hbu6
                    go_wp2_with fail
                    refine (write_walk _ _ _ _ HB7.out ?_).mono ?_
                    · have : (⟨#[39]⟩ : ByteArray).size = 1 := rfl
                      simp [this]
                      omega
                    rintro e w7 ⟨rfl, hbu7, hb7⟩
                    have HB8 := Lib.hid hbu7
                    clear hbu7
                    go_wp2_with fail
                    refine ⟨⟨k + 3, acc ++ [a, b, d] ++ [39], by go_num, hk2, by have := HK3.out; omega, ?_, ?_, hbw.trans (hb6.trans hb7)⟩, by simp [intOf]; omega⟩
                    · rw [HA.out, HD.out, grp3_step, if_neg ?_, HRR.out]
                      · simp
                      · intro h0
                        have h1 := HRR.out
                        rw [h0] at h1
                        have h2 := congrArg List.length h1
                        simp at h2
                        omega
                    · have h1 := HB8.out
                      rw [S_data, HT.out] at h1
                      exact h1
                  · have hend' : decide ((k : Int) + 3 < rest.length) = false := decide_eq_false (by omega)
                    go_wp2_with fail
                    refine (write_walk _ _ _ _ HB6.out ?_).mono ?_
                    · simp
                      omega
                    rintro e w6 ⟨rfl, hbu6, hb6⟩
                    have HB7 := Lib.hid hbu6
                    clear hbu6
                    go_wp2_with fail
                    refine ⟨⟨k + 3, acc ++ [a, b, d], by go_num, hk2, by have := HK3.out; omega, ?_, ?_, hbw.trans hb6⟩, by simp [intOf]; omega⟩
                    · have h0 : rest.drop (k + 3) = [] := List.drop_of_length_le (by omega)
                      rw [HA.out, HD.out, grp3_step, HRR.out, h0]
                      simp [grp3]
                    · have h1 := HB7.out
                      rw [S_data, HT.out] at h1
                      exact h1
                · have hlt' : ¬ (k : Int) < rest.length := by omega
                  have hfin : grouped u = acc := by
                    rw [HA.out, List.drop_of_length_le (by omega)]
                    simp [grp3]
                  have HF2 := Lib.hid hfin
                  clear hfin
                  go_wp2_with fail
                  refine (Tryz.Builder_String_any w1.heap.size w1.heap.size acc _ (.inr HB6.out) (Nat.le_of_lt HB6.out.lt)).mono ?_
                  rintro e w6 ⟨rfl, hb6⟩
                  have hac : (⟨acc.toArray⟩ : ByteArray) = S acc := rfl
                  rw [hac]
                  go_wp2_with fail
                  go_ret2
                  unfold FmtPost
                  rw [HF.out, HF2.out]
                  exact ⟨rfl, bt (bt hb hb1) (hbw.trans hb6)⟩

end Go.Proofs.YthipbglnaalhmaaGreatDoor
