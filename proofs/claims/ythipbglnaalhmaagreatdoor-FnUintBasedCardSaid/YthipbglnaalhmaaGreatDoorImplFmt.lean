/-
  zzIndex and zzSplit at a point, zzTrimRight of noughts.
  cosmosmath.FormatDec: a decimal with its digits in groups, or an error.
  A world that has grown, some blocks written.
  impl.FormatInt and impl.FormatDec.
-/
import Derived.Test.YthipbglnaalhmaaGreatDoorFmtInt
import Derived.Deep.QuietTactic
import Derived.BigQuiet
namespace Go.Proofs.YthipbglnaalhmaaGreatDoor
open Go.RowKit
attribute [local simp] S_extract S_append

def hasDot (l : List UInt8) : Bool := l.any (· == 46)
def before (l : List UInt8) : List UInt8 := l.takeWhile (· != 46)
def after (l : List UInt8) : List UInt8 := (l.dropWhile (· != 46)).tail

def dotAt (l : List UInt8) : Int := if hasDot l = true then (before l).length else -1

theorem not_dot {a : List UInt8} (h : hasDot a = false) : ∀ x ∈ a, (x != 46) = true := by
  intro x hx
  simp only [hasDot, List.any_eq_false] at h
  simpa using h x hx
theorem before_app {a r : List UInt8} (h : hasDot a = false) : before (a ++ 46 :: r) = a := by
  unfold before
  rw [List.takeWhile_append_of_pos (not_dot h)]
  simp
theorem after_app {a r : List UInt8} (h : hasDot a = false) : after (a ++ 46 :: r) = r := by
  unfold after
  rw [List.dropWhile_append_of_pos (not_dot h)]
  simp
theorem has_app (a r : List UInt8) : hasDot (a ++ 46 :: r) = true := by simp [hasDot]
theorem dotAt_app {a r : List UInt8} (h : hasDot a = false) : dotAt (a ++ 46 :: r) = a.length := by
  unfold dotAt
  rw [if_pos (has_app a r), before_app h]
theorem dot_take {l : List UInt8} {k : Nat} (hlt : k < l.length) (hd : hasDot (l.take k) = false) (hc : l[k]'hlt = 46) : dotAt l = k := by
  have hl : l.take k ++ 46 :: l.drop (k + 1) = l := by
    conv => rhs; rw [← List.take_append_drop k l]
    rw [List.drop_eq_getElem_cons hlt, hc]
  have := dotAt_app (r := l.drop (k + 1)) hd
  rw [hl, List.length_take] at this
  rw [this]
  congr 1
  omega

set_option maxRecDepth 100000 in
set_option maxHeartbeats 400000 in
theorem index_walk (l : List UInt8) (w : World) (hs : l.length ≤ 1000) :
    Calls Tryz.prog 188 #[.string (S l), .string ⟨#[46]⟩] w fun e w' => e = .returned (.int .i64 (dotAt l)) ∧ w = w' := by
  go_enter Tryz.func188, Tryz.ntmps188
  go_wp2
  go_loop [5] (fun i => ∃ k : Nat, i = .int .i64 k ∧ k ≤ l.length ∧ hasDot (l.take k) = false) (fun i => l.length - (intOf i).toNat)
  case atStart => exact ⟨0, rfl, Nat.zero_le _, rfl⟩
  case round =>
    obtain ⟨k, rfl, hk, hd⟩ := hrel
    have HD := Lib.hid hd
    clear hd
    have hone : (⟨#[46]⟩ : ByteArray).size = 1 := rfl
    by_cases hlt : k < l.length
    · have h1 : ((k : Int) + 1 ≤ (l.length : Int)) := by omega
      obtain ⟨c, hc⟩ : ∃ c, l[k]'hlt = c := ⟨_, rfl⟩
      have ht : (l.take (k + 1)).drop k = [c] := by
        rw [List.drop_take, List.drop_eq_getElem_cons hlt, hc]
        simp
      have HC := Lib.hid hc
      clear hc
      by_cases h46 : c = 46
      · have hb : ([c] == [46]) = true := by rw [h46]; rfl
        have hfin := dot_take hlt HD.out (HC.out.trans h46)
        have HF := Lib.hid hfin
        clear hfin h46
        go_wp2
        go_ret
        rw [HF.out]
        exact ⟨rfl, rfl⟩
      · have hb : ([c] == [46]) = false := by simpa using h46
        have H4 := Lib.hid h46
        clear h46
        go_wp2
        refine ⟨⟨k + 1, by go_num, by omega, ?_⟩, by simp [intOf]; omega⟩
        have e : l.take (k + 1) = l.take k ++ [c] := by rw [List.take_succ_eq_append_getElem hlt, HC.out]
        rw [e]
        have h2 := HD.out
        unfold hasDot at h2 ⊢
        rw [List.any_append, h2]
        simpa using H4.out
    · have h1 : ¬ ((k : Int) + 1 ≤ (l.length : Int)) := by omega
      have e : dotAt l = -1 := by
        have := HD.out
        rw [List.take_of_length_le (by omega)] at this
        unfold dotAt
        rw [this]
        rfl
      have HE := Lib.hid e
      clear e
      go_wp2
      go_ret
      rw [HE.out]
      exact ⟨rfl, rfl⟩

/-- The parts between the points. -/
def parts (n : Nat) (l : List UInt8) : List (List UInt8) :=
  match n with
  | 0 => [l]
  | n + 1 => if hasDot l = true then before l :: parts n (after l) else [l]

theorem info9 : (Tryz.prog.info? 9).map (fun i => (i.zero, i.size, i.bytes)) = some (some (.string ⟨#[]⟩), 1, 16) := by kernel_rfl
def strs (xs : List (List UInt8)) : List Value := xs.map fun x => .string (S x)

def strLen : Value → Nat | .string s => s.size | _ => 0
theorem take_of_app {l a r : List UInt8} (h : l = a ++ 46 :: r) : l.take a.length = a := by subst h; simp
theorem drop_of_app {l a r : List UInt8} (h : l = a ++ 46 :: r) : l.drop (a.length + 1) = r := by subst h; simp
theorem split_dot {l : List UInt8} (h : hasDot l = true) : ∃ r, l = before l ++ 46 :: r ∧ after l = r ∧ dotAt l = (before l).length := by
  have hl := List.takeWhile_append_dropWhile (p := (· != 46)) (l := l)
  cases hd : l.dropWhile (· != 46) with
  | nil =>
    rw [hd, List.append_nil] at hl
    exfalso
    simp only [hasDot, List.any_eq_true] at h
    obtain ⟨x, hx, hx2⟩ := h
    rw [← hl] at hx
    have hall := List.all_takeWhile (p := fun (c : UInt8) => c != 46) (l := l)
    rw [List.all_eq_true] at hall
    have := hall x hx
    simp_all
  | cons c r =>
    have hc : c = 46 := by
      have := List.head_dropWhile_not (p := fun (c : UInt8) => c != 46) (l := l) (by rw [hd]; simp)
      simp only [hd, List.head_cons] at this
      simpa using this
    subst hc
    refine ⟨r, ?_, ?_, ?_⟩
    · rw [hd] at hl
      exact hl.symm
    · unfold after; rw [hd]; rfl
    · unfold dotAt; rw [if_pos h]

theorem one_new (w : World) (v : Value) (T : TypeId) : ∀ (j : Nat) (u : Value), [v][j]? = some u → (w.alloc (.cells #[v] T)).cell? ((⟨w.heap.size, 0, none⟩ : Addr).add j) = some u := by
  intro j u hu
  match j, hu with
  | 0, hu =>
    simp at hu
    subst hu
    have : (⟨w.heap.size, 0, none⟩ : Addr).add 0 = ⟨w.heap.size, 0, none⟩ := rfl
    rw [this]
    exact one_cell (heap_alloc_new w _)
  | j + 1, hu => simp at hu

set_option maxRecDepth 100000 in
set_option maxHeartbeats 1000000 in
theorem split_walk (l : List UInt8) (w : World) (hs : l.length ≤ 1000) :
    Calls Tryz.prog 168 #[.string (S l), .string ⟨#[46]⟩] w fun e w' => ∃ v, e = .returned v ∧ w'.ownsRow w.heap.size 9 1 v (parts l.length l).length (strs (parts l.length l)) ∧ Below w.heap.size w w' := by
  obtain ⟨i0, hi, hz0, hz1, hz2⟩ := info_parts info9
  have hone : (⟨#[46]⟩ : ByteArray).size = 1 := rfl
  go_enter Tryz.func168, Tryz.ntmps168
  go_wp2_with fail
  go_loopw [0, 5] (fun s0 v wr => ∃ (rest : List UInt8) (acc : List (List UInt8)) (n : Nat), s0 = .string (S rest) ∧ rest.length ≤ n ∧ n ≤ l.length ∧ acc.length + n ≤ l.length ∧ parts l.length l = acc ++ parts n rest ∧ wr.ownsRow w.heap.size 9 1 v acc.length (strs acc) ∧ Below w.heap.size w wr) (fun s0 _ _ => strLen s0)
  case atStart => exact ⟨l, [], l.length, rfl, Nat.le_refl _, Nat.le_refl _, by simp, rfl, World.ownsRow_nil _ _ _ _, Below.refl _ _⟩
  case round =>
    obtain ⟨rest, acc, n, rfl, hn, hnl, hacc, hp, hown, hb⟩ := hrel
    have HP := Lib.hid hp
    have hrl : rest.length ≤ 1000 := by omega
    clear hp
    by_cases hd : hasDot rest = true
    · obtain ⟨r, h1, h2, h3⟩ := split_dot hd
      have hlen : rest.length = (before rest).length + 1 + r.length := by
        have := congrArg List.length h1
        simp at this
        omega
      obtain ⟨m, rfl⟩ : ∃ m, n = m + 1 := ⟨n - 1, by omega⟩
      have ep : parts (m + 1) rest = before rest :: parts m r := by
        conv => lhs; unfold parts
        rw [if_pos hd, h2]
      have e1 : rest.take (before rest).length = before rest := take_of_app h1
      have e2 : rest.drop ((before rest).length + 1) = r := drop_of_app h1
      have HE := Lib.hid h3
      have HEP := Lib.hid ep
      have HL := Lib.hid hlen
      have hb1 : (before rest).length ≤ 1000 := by omega
      have hb2 : ((before rest).length : Int) + 1 ≤ rest.length := by omega
      clear ep hd h1 h2 h3 hlen
      generalize before rest = bf at *
      go_wp2_with (first
        | (go_at_call 188; ((with_reducible refine (index_walk rest _ hrl).mono ?_); rintro e w1 ⟨rfl, rfl⟩; rw [HE.out]))
        | (at_builtin; refine wpList_append_own _ rfl _ _ 135 rfl w.heap.size 9 i0 (.string ⟨#[]⟩) 1 16 Tryz.underlying135 hi hz0 hz1 hz2 rfl (by decide) _ _ _ rfl (hown.alloc _) ⟨wr.heap.size, 0, none⟩ 1 1 [.string (S bf)] rfl rfl ?c1 ?c2 ?c3 ?c4 ?c5 ?_))
      case c1 => exact one_new _ _ _
      case c2 => intro u hu; simp at hu; subst hu; rfl
      case c3 => unfold maxLen; omega
      case c4 => omega
      case c5 => have := hb.size; simp; omega
      intro v' w2 hown' hgrow _
      go_wp2_with fail
      refine ⟨⟨r, acc ++ [bf], m, rfl, by have := HL.out; omega, by omega, by simp; omega, ?_, ?_, (hb.alloc hb.size _).grown hgrow (by have := hb.size; simp; omega) (fun k hk => (hown.lt k hk).1)⟩, ?_⟩
      · rw [HP.out, HEP.out]
        simp
      · simpa [strs] using hown'
      · have := HL.out
        simp [strLen]
        omega
    · have e : dotAt rest = -1 := by unfold dotAt; rw [if_neg hd]
      have ep : parts n rest = [rest] := by
        cases n with
        | zero => rfl
        | succ n => unfold parts; rw [if_neg hd]
      have HE := Lib.hid e
      have HEP := Lib.hid ep
      clear e ep hd
      go_wp2_with (first
        | (go_at_call 188; ((with_reducible refine (index_walk rest _ hrl).mono ?_); rintro e w1 ⟨rfl, rfl⟩; rw [HE.out]))
        | (at_builtin; refine wpList_append_own _ rfl _ _ 135 rfl w.heap.size 9 i0 (.string ⟨#[]⟩) 1 16 Tryz.underlying135 hi hz0 hz1 hz2 rfl (by decide) _ _ _ rfl (hown.alloc _) ⟨wr.heap.size, 0, none⟩ 1 1 [.string (S rest)] rfl rfl ?c1 ?c2 ?c3 ?c4 ?c5 ?_))
      case c1 => exact one_new _ _ _
      case c2 => intro u hu; simp at hu; subst hu; rfl
      case c3 => unfold maxLen; omega
      case c4 => omega
      case c5 => have := hb.size; simp; omega
      intro v' w2 hown' hgrow _
      go_wp2_with fail
      go_ret
      refine ⟨v', rfl, ?_, (hb.alloc hb.size _).grown hgrow (by have := hb.size; simp; omega) (fun k hk => (hown.lt k hk).1)⟩
      rw [HP.out, HEP.out]
      simpa [strs] using hown'

theorem below_drewN {B : Nat} {w W : World} (h : Below B w W) (n : Nat) : Below B w (W.drewN n) := ⟨h.os, h.tape, h.output, h.size, h.block⟩

def rtrim (l : List UInt8) : List UInt8 := (l.reverse.dropWhile (· == 48)).reverse
theorem rtrim_snoc (l : List UInt8) (c : UInt8) : rtrim (l ++ [c]) = if c = 48 then rtrim l else l ++ [c] := by
  unfold rtrim
  rw [List.reverse_append]
  show ((c :: l.reverse).dropWhile (· == 48)).reverse = _
  by_cases h : c = 48
  · rw [if_pos h, List.dropWhile_cons_of_pos (by simpa using h)]
  · rw [if_neg h, List.dropWhile_cons_of_neg (by simpa using h)]
    simp

set_option maxRecDepth 100000 in
set_option maxHeartbeats 1000000 in
theorem trimRight_walk (l : List UInt8) (w : World) (hs : l.length ≤ 1000) :
    Calls Tryz.prog 169 #[.string (S l), .string ⟨#[48]⟩] w fun e w' => e = .returned (.string (S (rtrim l))) ∧ Below w.heap.size w w' := by
  have hone : (⟨#[48]⟩ : ByteArray).size = 1 := rfl
  go_enter Tryz.func169, Tryz.ntmps169
  go_wp2_with fail
  go_loopw [5] (fun i wr => ∃ k : Nat, i = .int .i64 k ∧ k ≤ l.length ∧ rtrim l = rtrim (l.take k) ∧ Below w.heap.size w wr) (fun i _ => (intOf i).toNat)
  case atStart => exact ⟨l.length, rfl, Nat.le_refl _, by rw [List.take_length], Below.refl _ _⟩
  case round =>
    obtain ⟨k, rfl, hk, ht, hb⟩ := hrel
    have HT := Lib.hid ht
    clear ht
    by_cases h0 : k = 0
    · subst h0
      go_wp2_with fail
      go_ret
      refine ⟨?_, hb⟩
      rw [HT.out]
      rfl
    · obtain ⟨m, rfl⟩ : ∃ m, k = m + 1 := ⟨k - 1, by omega⟩
      have hk0 : (0 : Int) < (m : Int) + 1 := by omega
      have hm : m < l.length := by omega
      obtain ⟨c, hc⟩ : ∃ c, l[m]'hm = c := ⟨_, rfl⟩
      have e : l.take (m + 1) = l.take m ++ [c] := by rw [List.take_succ_eq_append_getElem hm, hc]
      have HE := Lib.hid e
      clear e
      by_cases h48 : c = 48
      · have hq : ∀ h h', ((((⟨#[48]⟩ : ByteArray)[0]'h).toNat : Int) == ((l[m]'h').toNat : Int)) = true := fun h h' => by
          rw [hc, h48]
          rfl
        have HC := Lib.hid h48
        clear h48 hc
        go_wp2_with fail
        refine wp_loop_rounds 2 ?_
        rw [rounds_succ]
        go_wp2_with fail
        go_quiet (fail)
        go_wp2_with fail
        rw [rounds_succ]
        go_wp2_with fail
        refine ⟨⟨m, by go_num, by omega, ?_, below_drewN hb _⟩, by simp [intOf]⟩
        rw [HT.out, HE.out, rtrim_snoc, if_pos HC.out]
      · have hq : ∀ h h', ((((⟨#[48]⟩ : ByteArray)[0]'h).toNat : Int) == ((l[m]'h').toNat : Int)) = false := fun h h' => by
          rw [hc]
          have : ¬ (48 : Int) = (c.toNat : Int) := fun k => h48 (nought_of k.symm)
          exact beq_eq_false_iff_ne.2 this
        have HC := Lib.hid h48
        clear h48 hc
        go_wp2_with fail
        refine wp_loop_rounds 2 ?_
        rw [rounds_succ]
        go_wp2_with fail
        go_quiet (fail)
        go_wp2_with fail
        rw [rounds_succ]
        go_wp2_with fail
        go_ret
        refine ⟨?_, below_drewN hb _⟩
        rw [HT.out, HE.out, rtrim_snoc, if_neg HC.out, ← HE.out]
        rfl
end Go.Proofs.YthipbglnaalhmaaGreatDoor

namespace Go.Proofs.YthipbglnaalhmaaGreatDoor
open Go.RowKit
attribute [local simp] S_extract S_append

/-- What stands behind the first point, without noughts at its end. -/
def fmtTail (ip d : List UInt8) : Option (List UInt8) :=
  if rtrim d = [] then some ip else if allDig (rtrim d) then some (ip ++ 46 :: rtrim d) else none
def fmtDec (l : List UInt8) : Option (List UInt8) :=
  if hasDot l = true then
    if hasDot (after l) = true then none
    else match fmtInt (before l) with
      | none => none
      | some ip => fmtTail ip (after l)
  else fmtInt l

theorem own_open {w : World} {base n : Nat} {e : TypeId} {v : Value} {xs : List Value} (h : w.ownsRow base e 1 v n xs) (hn : 0 < n) :
    ∃ g cap, v = .slice (some ⟨g, 0, none⟩) n cap ∧ n ≤ cap ∧ cap ≤ maxLen ∧ ∀ j u, xs[j]? = some u → w.cell? ⟨g, j, none⟩ = some u := by
  obtain ⟨hl, h1 | ⟨g, cap, cur, rfl, hb, hh, hc1, hc2, hc3, hc4⟩⟩ := h
  · omega
  · have ho : w.ownsRow base e 1 (.slice (some ⟨g, 0, none⟩) n cap) n xs := ⟨hl, .inr ⟨g, cap, cur, rfl, hb, hh, hc1, hc2, hc3, hc4⟩⟩
    refine ⟨g, cap, rfl, hc1, hc2, fun j u hu => ?_⟩
    have := ho.cells (g := g) rfl j u hu
    have e : (⟨g, 0, none⟩ : Addr).add j = ⟨g, j, none⟩ := by unfold Addr.add; split <;> simp_all
    rw [e] at this
    exact this

theorem parts_none {l : List UInt8} (n : Nat) (h : ¬ hasDot l = true) : parts n l = [l] := by
  cases n with
  | zero => rfl
  | succ n => unfold parts; rw [if_neg h]
theorem parts_some {l : List UInt8} (h : hasDot l = true) : parts l.length l = before l :: parts (l.length - 1) (after l) := by
  obtain ⟨r, h1, _⟩ := split_dot h
  have hl : l.length = (l.length - 1) + 1 := by rw [h1]; simp; omega
  rw [hl]
  conv => lhs; unfold parts
  rw [if_pos h]
  rfl
theorem parts_two {l : List UInt8} (h : hasDot l = true) (n : Nat) (hn : l.length ≤ n) : 2 ≤ (parts n l).length := by
  obtain ⟨r, h1, _⟩ := split_dot h
  have hl : 0 < l.length := by rw [h1]; simp; omega
  obtain ⟨m, rfl⟩ : ∃ m, n = m + 1 := ⟨n - 1, by omega⟩
  conv => rhs; unfold parts
  rw [if_pos h]
  cases m with
  | zero => simp [parts]
  | succ m => unfold parts; split <;> simp
theorem before_le (l : List UInt8) : (before l).length ≤ l.length := (List.takeWhile_sublist _).length_le
theorem after_lt {l : List UInt8} (h : hasDot l = true) : (after l).length ≤ l.length - 1 := by
  obtain ⟨r, h1, h2, _⟩ := split_dot h
  rw [h2, h1]
  simp
theorem fmt_length (l o : List UInt8) (h : fmtInt l = some o) : o.length ≤ 2 * l.length + 1 := by
  unfold fmtInt at h
  split at h
  · cases h
  · split at h
    · cases h
      have h1 := grouped_length (cutOf (bodyOf l))
      have h2 : (cutOf (bodyOf l)).length ≤ l.length := by
        have h3 : (bodyOf l).length ≤ l.length := by unfold bodyOf; split <;> simp
        refine Nat.le_trans ?_ h3
        unfold cutOf
        split
        · exact (List.dropWhile_sublist _).length_le
        · exact Nat.le_refl _
      have h4 : (signOf l).length ≤ 1 := by unfold signOf; split <;> simp
      simp
      omega
    · cases h

set_option maxRecDepth 100000 in
set_option maxHeartbeats 1000000 in
theorem fmtDec_walk (l : List UInt8) (w : World) (hs : l.length ≤ 1000) :
    Calls Tryz.prog 132 #[.string (S l)] w (FmtPost (fmtDec l) w) := by
  by_cases hd : hasDot l = true
  · have hp := parts_some hd
    by_cases hd2 : hasDot (after l) = true
    · have hlen : 2 < (parts l.length l).length := by
        rw [hp]
        have := parts_two hd2 (l.length - 1) (after_lt hd)
        simp
        omega
      have HF : Hid (fmtDec l = none) := by unfold fmtDec Hid; rw [if_pos hd, if_pos hd2]
      clear hp
      go_enter Tryz.func132, Tryz.ntmps132
      go_wp2_with fail
      refine (split_walk l _ hs).mono ?_
      rintro e w1 ⟨v, rfl, hown, hb⟩
      obtain ⟨g, cap, rfl, hc1, hc2, hc⟩ := own_open hown (by omega)
      have hlen' : (2 : Int) < (parts l.length l).length := by omega
      generalize (parts l.length l).length = n at *
      unfold maxLen at hc2
      clear hc hown
      go_wp2_with (go_at_call 93; ((with_reducible refine (errorsNew_walk _ _).mono ?_); rintro e w1 ⟨a, rfl, hb2⟩))
      go_ret2
      unfold FmtPost
      rw [HF.out]
      exact ⟨⟨a, rfl⟩, bt hb hb2⟩
    · rw [parts_none _ hd2] at hp
      have hbl : (before l).length ≤ 1000 := Nat.le_trans (before_le l) hs
      have hal : (after l).length ≤ 1000 := by have := after_lt hd; omega
      have hdec : fmtDec l = match fmtInt (before l) with
        | none => none
        | some ip => fmtTail ip (after l) := by unfold fmtDec; rw [if_pos hd, if_neg hd2]
      have HDC := Lib.hid hdec
      clear hdec
      go_enter Tryz.func132, Tryz.ntmps132
      go_wp2_with fail
      refine (split_walk l _ hs).mono ?_
      rw [hp]
      rintro e w1 ⟨v, rfl, hown, hb⟩
      obtain ⟨g, cap, rfl, hc1, hc2, hc⟩ := own_open hown (by simp)
      have c0 := hc 0 (.string (S (before l))) rfl
      have c1 := hc 1 (.string (S (after l))) rfl
      unfold maxLen at hc2
      clear hc hown hp hd hd2
      generalize before l = bf at *
      generalize after l = af at *
      go_wp2_with fail
      refine (fmtInt_walk bf _ hbl).mono ?_
      intro e w2 hpost
      unfold FmtPost at hpost
      cases ho : fmtInt bf with
      | none =>
        rw [ho] at hpost HDC
        have HF : Hid (fmtDec l = none) := HDC
        obtain ⟨⟨a, rfl⟩, hb2⟩ := hpost
        clear HDC
        go_wp2_with fail
        go_ret2
        unfold FmtPost
        rw [HF.out]
        exact ⟨⟨a, rfl⟩, bt hb hb2⟩
      | some o =>
        rw [ho] at hpost HDC
        have HF : Hid (fmtDec l = fmtTail o af) := HDC
        have hol := fmt_length _ _ ho
        obtain ⟨rfl, hb2⟩ := hpost
        clear HDC
        have c1' : w2.cell? ⟨g, 1, none⟩ = some (.string (S af)) := (hb2.cell (p := ⟨g, 1, none⟩) (World.block_lt_of_cell? w1 _ c1)).trans c1
        clear c1 c0
        have hrl : (rtrim af).length ≤ 1000 := by
          have : (rtrim af).length ≤ af.length := by
            unfold rtrim
            rw [List.length_reverse]
            refine Nat.le_trans (List.dropWhile_sublist _).length_le ?_
            simp
          omega
        by_cases hr : rtrim af = []
        · have HR := Lib.hid hr
          clear hr
          go_wp2_with (go_at_call 169; ((with_reducible refine (trimRight_walk af _ hal).mono ?_); rintro e w3 ⟨rfl, hb3⟩; rw [HR.out]))
          go_ret2
          unfold FmtPost
          rw [HF.out]
          simp only [fmtTail]
          rw [if_pos HR.out]
          exact ⟨rfl, bt (bt hb hb2) hb3⟩
        · have hrne : (((rtrim af).length : Int) == 0) = false := by
            have : (rtrim af).length ≠ 0 := fun k => hr (List.length_eq_zero_iff.1 k)
            exact beq_eq_false_iff_ne.2 (by omega)
          have hne : (rtrim af).isEmpty = false := by simpa using hr
          have HR := Lib.hid hr
          have HN := Lib.hid hne
          clear hr hne
          have hsz : (S (rtrim af)).size ≤ 9223372036854775807 := by rw [S_size]; omega
          by_cases had : allDig (rtrim af) = true
          · have hd1 : (!(S (rtrim af)).data.toList.isEmpty && allDig (S (rtrim af)).data.toList) = true := by rw [S_data, HN.out, had]; rfl
            have HA := Lib.hid had
            clear had
            have hlit : (⟨#[46]⟩ : ByteArray) = S [46] := rfl
            go_wp2_with (first
              | (go_at_call 169; ((with_reducible refine (trimRight_walk af _ hal).mono ?_); rintro e w3 ⟨rfl, hb3⟩))
              | (go_at_call 163; ((with_reducible refine (onlyDigits_walk _ _ hsz).mono ?_); rintro e' w4 ⟨rfl, hb4⟩; rw [hd1])))
            go_ret2
            unfold FmtPost
            rw [HF.out]
            simp only [fmtTail]
            rw [if_neg HR.out, if_pos HA.out]
            exact ⟨rfl, bt (bt (bt hb hb2) hb3) hb4⟩
          · have hd1 : (!(S (rtrim af)).data.toList.isEmpty && allDig (S (rtrim af)).data.toList) = false := by
              rw [S_data, HN.out]
              simpa using had
            have HA := Lib.hid had
            clear had
            go_wp2_with (first
              | (go_at_call 169; ((with_reducible refine (trimRight_walk af _ hal).mono ?_); rintro e w3 ⟨rfl, hb3⟩))
              | (go_at_call 163; ((with_reducible refine (onlyDigits_walk _ _ hsz).mono ?_); rintro e' w4 ⟨rfl, hb4⟩; rw [hd1]))
              | (go_at_call 93; ((with_reducible refine (errorsNew_walk _ _).mono ?_); rintro e w5 ⟨a, rfl, hb5⟩)))
            go_ret2
            unfold FmtPost
            rw [HF.out]
            simp only [fmtTail]
            rw [if_neg HR.out, if_neg HA.out]
            exact ⟨⟨a, rfl⟩, bt (bt (bt (bt hb hb2) hb3) hb4) hb5⟩
  · have hp := parts_none l.length hd
    have HF : Hid (fmtDec l = fmtInt l) := by unfold fmtDec Hid; rw [if_neg hd]
    go_enter Tryz.func132, Tryz.ntmps132
    go_wp2_with fail
    refine (split_walk l _ hs).mono ?_
    rw [hp]
    rintro e w1 ⟨v, rfl, hown, hb⟩
    obtain ⟨g, cap, rfl, hc1, hc2, hc⟩ := own_open hown (by simp)
    have c0 := hc 0 (.string (S l)) rfl
    unfold maxLen at hc2
    clear hc hown hp
    go_wp2_with fail
    refine (fmtInt_walk l _ hs).mono ?_
    intro e w2 hpost
    unfold FmtPost at hpost
    cases ho : fmtInt l with
    | none =>
      rw [ho] at hpost HF
      obtain ⟨⟨a, rfl⟩, hb2⟩ := hpost
      go_wp2_with fail
      go_ret2
      unfold FmtPost
      rw [HF.out]
      exact ⟨⟨a, rfl⟩, bt hb hb2⟩
    | some o =>
      rw [ho] at hpost HF
      obtain ⟨rfl, hb2⟩ := hpost
      go_wp2_with fail
      go_ret2
      unfold FmtPost
      rw [HF.out]
      exact ⟨rfl, bt hb hb2⟩
end Go.Proofs.YthipbglnaalhmaaGreatDoor

namespace Go.Proofs.YthipbglnaalhmaaGreatDoor
open Go.RowKit

/-- w' is w, grown; of the old blocks only those of D may have been written. -/
structure Ext (D : Nat → Prop) (w w' : World) : Prop where
  os : w'.os = w.os
  tape : w'.tape = w.tape
  output : w'.output = w.output
  size : w.heap.size ≤ w'.heap.size
  block : ∀ k, k < w.heap.size → ¬ D k → w'.heap[k]? = w.heap[k]?

theorem Ext.refl (D : Nat → Prop) (w : World) : Ext D w w := ⟨rfl, rfl, rfl, Nat.le_refl _, fun _ _ _ => rfl⟩
theorem Ext.trans {D : Nat → Prop} {a b c : World} (h : Ext D a b) (k : Ext D b c) : Ext D a c :=
  ⟨k.os.trans h.os, k.tape.trans h.tape, k.output.trans h.output, Nat.le_trans h.size k.size, fun i hi hd => (k.block i (Nat.lt_of_lt_of_le hi h.size) hd).trans (h.block i hi hd)⟩
theorem Ext.mono {D D' : Nat → Prop} {w w' : World} (h : Ext D w w') (hd : ∀ k, k < w.heap.size → D k → D' k) : Ext D' w w' :=
  ⟨h.os, h.tape, h.output, h.size, fun k hk hn => h.block k hk (fun x => hn (hd k hk x))⟩
theorem Ext.of_below {D : Nat → Prop} {w w' : World} (h : Below w.heap.size w w') : Ext D w w' := ⟨h.os, h.tape, h.output, h.size, fun k hk _ => h.block k hk⟩
/-- Below some number B, everything from B on being of D. -/
theorem Ext.of_below' {D : Nat → Prop} {B : Nat} {w w' : World} (h : Below B w w') (hd : ∀ k, k < w.heap.size → ¬ D k → k < B) : Ext D w w' := ⟨h.os, h.tape, h.output, h.size, fun k hk hn => h.block k (hd k hk hn)⟩
theorem Ext.below {D : Nat → Prop} {B : Nat} {w w' : World} (h : Ext D w w') (hB : B ≤ w.heap.size) (hd : ∀ k, D k → B ≤ k) : Below B w w' :=
  ⟨h.os, h.tape, h.output, h.size, fun k hk => h.block k (Nat.lt_of_lt_of_le hk hB) (fun x => by have := hd k x; omega)⟩
theorem Ext.then_below {D : Nat → Prop} {a b c : World} (h : Ext D a b) (k : Below b.heap.size b c) : Ext D a c := h.trans (Ext.of_below k)
/-- What comes behind may write D's blocks and new ones. -/
theorem Ext.trans' {D D' : Nat → Prop} {a b c : World} (h : Ext D a b) (k : Ext D' b c) (hd : ∀ i, i < a.heap.size → D' i → D i) : Ext D a c :=
  ⟨k.os.trans h.os, k.tape.trans h.tape, k.output.trans h.output, Nat.le_trans h.size k.size, fun i hi hn => (k.block i (Nat.lt_of_lt_of_le hi h.size) (fun x => hn (hd i hi x))).trans (h.block i hi hn)⟩
theorem Ext.setCell {D : Nat → Prop} {a w : World} (h : Ext D a w) {p : Addr} (hp : p.block < a.heap.size → D p.block) (u : Value) : Ext D a (w.setCell p u) :=
  ⟨h.os, h.tape, h.output, by simpa [World.setCell] using h.size, fun k hk hn => by
    rw [Below.heap_setCell _ _ _ _ (fun e => hn (by rw [e] at hk ⊢; exact hp hk))]
    exact h.block k hk hn⟩
theorem Ext.alloc {D : Nat → Prop} {a w : World} (h : Ext D a w) (o : Obj) : Ext D a (w.alloc o) := h.then_below ((Below.refl _ _).alloc (Nat.le_refl _) _)
theorem Ext.drewN {D : Nat → Prop} {a w : World} (h : Ext D a w) (n : Nat) : Ext D a (w.drewN n) := ⟨h.os, h.tape, h.output, h.size, h.block⟩
theorem Ext.drew {D : Nat → Prop} {a w : World} (h : Ext D a w) : Ext D a w.drew := ⟨h.os, h.tape, h.output, h.size, h.block⟩
theorem one_drew {w : World} {g : Nat} : (w.drew).heap[g]? = w.heap[g]? := rfl
theorem one_other {w : World} {g : Nat} {a : Addr} {u : Value} (h : g ≠ a.block) : (w.setCell a u).heap[g]? = w.heap[g]? := Below.heap_setCell _ _ _ _ h
theorem heap_size_alloc (w : World) (o : Obj) : (w.alloc o).heap.size = w.heap.size + 1 := by show (w.heap.push o).size = _; rw [Array.size_push]
theorem heap_get (w : World) (o : Obj) (k : Nat) : (w.alloc o).heap[k]? = if k = w.heap.size then some o else w.heap[k]? := by show (w.heap.push o)[k]? = _; rw [Array.getElem?_push]
theorem heap_here (w : World) (o : Obj) : (w.alloc o).heap[w.heap.size]? = some o := heap_alloc_new w o
theorem heap_old {w : World} {o : Obj} {k : Nat} {x : Obj} (h : w.heap[k]? = some x) : (w.alloc o).heap[k]? = some x := (Below.heap_alloc w o k (iter_lt h)).trans h

end Go.Proofs.YthipbglnaalhmaaGreatDoor

namespace Go.Proofs.YthipbglnaalhmaaGreatDoor
open Go.RowKit

set_option maxRecDepth 100000 in
set_option maxHeartbeats 1000000 in
theorem fmtIntC_walk (l : List UInt8) (b1 b2 b3 : Nat) (x : ByteArray) (y : Bool) (w : World) (hs : l.length ≤ 1000) (h1 : w.heap[b1]? = some (.cells #[.string (S l)] 9 (0, 0)))
    (h2 : w.heap[b2]? = some (.cells #[.string x] 9 (0, 0))) (h3 : w.heap[b3]? = some (.cells #[.bool y] 4 (0, 0))) (hne : b2 ≠ b3) :
    Calls Tryz.prog 129 #[.pointer (some ⟨b1, 0, none⟩), .pointer (some ⟨b2, 0, none⟩), .pointer (some ⟨b3, 0, none⟩)] w fun e w' => e = .returned (.tuple #[]) ∧ Ext (fun k => k = b2 ∨ k = b3) w w' ∧
      w'.heap[b2]? = some (.cells #[.string (S ((fmtInt l).getD []))] 9 (0, 0)) ∧ w'.heap[b3]? = some (.cells #[.bool (fmtInt l).isSome] 4 (0, 0)) := by
  have c1 := one_cell h1
  have hl2 := iter_lt h2
  have hl3 := iter_lt h3
  have H2 := Lib.hid h2
  have H3 := Lib.hid h3
  clear h1 h2 h3
  go_enter Tryz.func129, Tryz.ntmps129
  go_wp2_with fail
  refine (fmtInt_walk l _ hs).mono ?_
  intro e w1 hpost
  unfold FmtPost at hpost
  cases ho : fmtInt l with
  | none =>
    rw [ho] at hpost
    obtain ⟨⟨a, rfl⟩, hb⟩ := hpost
    have k2 := (hb.block b2 hl2).trans H2.out
    have k3 := (hb.block b3 hl3).trans H3.out
    have c2 := one_cell k2
    have c3 := one_cell k3
    have f2 := one_free k2 0
    have f3 := one_free k3 0
    have K2 := Lib.hid k2
    have K3 := Lib.hid k3
    have HO := Lib.hid ho
    clear k2 k3 ho
    go_wp2_with fail
    go_region
    go_wp2_with fail
    go_end0
    refine ⟨rfl, ((((Ext.of_below hb).setCell (p := ⟨b2, 0, none⟩) (fun _ => .inl rfl) _).setCell (p := ⟨b3, 0, none⟩) (fun _ => .inr rfl) _).drew), ?_, ?_⟩
    · rw [one_drew, one_other hne, HO.out]
      exact one_set K2.out
    · rw [one_drew, HO.out]
      exact one_set ((one_other (a := ⟨b2, 0, none⟩) hne.symm).trans K3.out)
  | some o =>
    rw [ho] at hpost
    obtain ⟨rfl, hb⟩ := hpost
    have k2 := (hb.block b2 hl2).trans H2.out
    have k3 := (hb.block b3 hl3).trans H3.out
    have c2 := one_cell k2
    have c3 := one_cell k3
    have f2 := one_free k2 0
    have f3 := one_free k3 0
    have K2 := Lib.hid k2
    have K3 := Lib.hid k3
    have HO := Lib.hid ho
    clear k2 k3 ho
    go_wp2_with fail
    go_region
    go_wp2_with fail
    go_end0
    refine ⟨rfl, ((((Ext.of_below hb).setCell (p := ⟨b2, 0, none⟩) (fun _ => .inl rfl) _).setCell (p := ⟨b3, 0, none⟩) (fun _ => .inr rfl) _).drew), ?_, ?_⟩
    · rw [one_drew, one_other hne, HO.out]
      exact one_set K2.out
    · rw [one_drew, HO.out]
      exact one_set ((one_other (a := ⟨b2, 0, none⟩) hne.symm).trans K3.out)

set_option maxRecDepth 100000 in
theorem callCInt : ∀ (caps : Array Value) (w : World), (callFunc 129 caps).run Tryz.prog w = .ok (.enter 129 caps) w := fun _ _ => by rfl

set_option maxRecDepth 100000 in
set_option maxHeartbeats 1000000 in
theorem implFmtInt_walk (l : List UInt8) (w : World) (hs : l.length ≤ 1000) :
    Calls Tryz.prog 83 #[.string (S l)] w fun e w' => e = .returned (.tuple #[.string (S ((fmtInt l).getD [])), .bool (fmtInt l).isSome]) ∧ Below w.heap.size w w' := by
  have hmf : ∀ (fn : Fn) (first cap : Array Value) (w : World), (Instr.makeFunc fn first cap).run Tryz.prog w = .ok (.func fn first cap) w := fun _ _ _ _ => rfl
  go_enter Tryz.func83, Tryz.ntmps83
  go_wp2_with fail
  refine (safe_ret 129 _ _ (fun w' => Below w.heap.size w w' ∧ w'.heap[w.heap.size + 1]? = some (.cells #[.string (S ((fmtInt l).getD []))] 9 (0, 0)) ∧ w'.heap[w.heap.size + 1 + 1]? = some (.cells #[.bool (fmtInt l).isSome] 4 (0, 0))) (callCInt _) ?_).mono ?_
  · refine (fmtIntC_walk l _ _ _ ⟨#[]⟩ false _ hs ?_ ?_ ?_ ?_).mono ?_
    · simp only [heap_get, heap_size_alloc]
      rw [if_neg (by omega), if_neg (by omega), if_neg (by omega), if_pos trivial]
    · simp only [heap_get, heap_size_alloc]
      rw [if_neg (by omega), if_neg (by omega), if_pos trivial]
    · simp only [heap_get, heap_size_alloc]
      rw [if_neg (by omega), if_pos trivial]
    · omega
    · rintro e w1 ⟨rfl, he, k2, k3⟩
      have hz := he.size
      simp only [heap_size_alloc] at hz
      refine ⟨rfl, ?_, ?_, ?_, ?_⟩
      · rw [he.block _ (by simp only [heap_size_alloc]; omega) (by simp only [heap_size_alloc]; omega)]
        simp only [heap_get, heap_size_alloc]
        rw [if_pos trivial]
      · refine Below.setCell (Below.setCell ?_ (by simp only [heap_size_alloc]; omega) _) (by simp only [heap_size_alloc]; omega) _
        exact ((((Below.refl _ w).alloc (Nat.le_refl _) _).alloc (by simp only [heap_size_alloc]; omega) _).alloc (by simp only [heap_size_alloc]; omega) _).alloc (by simp only [heap_size_alloc]; omega) _ |>.trans (he.below (by simp only [heap_size_alloc]; omega) (by rintro k (rfl | rfl) <;> omega))
      · rw [one_other (by simp only [heap_size_alloc]; omega), one_other (by simp only [heap_size_alloc]; omega)]
        exact k2
      · rw [one_other (by simp only [heap_size_alloc]; omega), one_other (by simp only [heap_size_alloc]; omega)]
        exact k3
  · rintro e w1 ⟨rfl, hb, k2, k3⟩
    have c2 := one_cell k2
    have c3 := one_cell k3
    have f2 := one_free k2 0
    have f3 := one_free k3 0
    have K2 := Lib.hid k2
    have K3 := Lib.hid k3
    clear k2 k3
    cases ho : fmtInt l with
    | none =>
      rw [ho] at c2 c3
      have HO := Lib.hid ho
      clear ho
      go_wp2_with fail
      have e2 := (one_other (u := .bool false) (w := w1.setCell ⟨w.heap.size + 1, 0, none⟩ (.string ⟨#[]⟩)) (g := w.heap.size + 1) (a := ⟨w.heap.size + 1 + 1, 0, none⟩) (by simp)).trans (one_set (u := .string ⟨#[]⟩) K2.out)
      have e3 := one_set (u := .bool false) ((one_other (u := .string ⟨#[]⟩) (w := w1) (g := w.heap.size + 1 + 1) (a := ⟨w.heap.size + 1, 0, none⟩) (by simp)).trans K3.out)
      have d2 := one_cell e2
      have d3 := one_cell e3
      rw [HO.out]
      exact bodyPost_ret (v := .tuple #[.string (S []), .bool false]) (by simp [results, Tryz.results83, go_sem, d2, d3]; rfl) rfl ⟨rfl, (hb.setCell (p := ⟨w.heap.size + 1, 0, none⟩) (by simp) _).setCell (p := ⟨w.heap.size + 1 + 1, 0, none⟩) (by simp; omega) _⟩
    | some o =>
      rw [ho] at c2 c3
      have HO := Lib.hid ho
      clear ho
      go_wp2_with fail
      have e2 := (one_other (u := .bool true) (w := w1.setCell ⟨w.heap.size + 1, 0, none⟩ (.string (S o))) (g := w.heap.size + 1) (a := ⟨w.heap.size + 1 + 1, 0, none⟩) (by simp)).trans (one_set (u := .string (S o)) K2.out)
      have e3 := one_set (u := .bool true) ((one_other (u := .string (S o)) (w := w1) (g := w.heap.size + 1 + 1) (a := ⟨w.heap.size + 1, 0, none⟩) (by simp)).trans K3.out)
      have d2 := one_cell e2
      have d3 := one_cell e3
      rw [HO.out]
      exact bodyPost_ret (v := .tuple #[.string (S o), .bool true]) (by simp [results, Tryz.results83, go_sem, d2, d3]) rfl ⟨rfl, (hb.setCell (p := ⟨w.heap.size + 1, 0, none⟩) (by simp) _).setCell (p := ⟨w.heap.size + 1 + 1, 0, none⟩) (by simp; omega) _⟩

set_option maxRecDepth 100000 in
set_option maxHeartbeats 1000000 in
theorem fmtDecC_walk (l : List UInt8) (b1 b2 b3 : Nat) (x : ByteArray) (y : Bool) (w : World) (hs : l.length ≤ 1000) (h1 : w.heap[b1]? = some (.cells #[.string (S l)] 9 (0, 0)))
    (h2 : w.heap[b2]? = some (.cells #[.string x] 9 (0, 0))) (h3 : w.heap[b3]? = some (.cells #[.bool y] 4 (0, 0))) (hne : b2 ≠ b3) :
    Calls Tryz.prog 131 #[.pointer (some ⟨b1, 0, none⟩), .pointer (some ⟨b2, 0, none⟩), .pointer (some ⟨b3, 0, none⟩)] w fun e w' => e = .returned (.tuple #[]) ∧ Ext (fun k => k = b2 ∨ k = b3) w w' ∧
      w'.heap[b2]? = some (.cells #[.string (S ((fmtDec l).getD []))] 9 (0, 0)) ∧ w'.heap[b3]? = some (.cells #[.bool (fmtDec l).isSome] 4 (0, 0)) := by
  have c1 := one_cell h1
  have hl2 := iter_lt h2
  have hl3 := iter_lt h3
  have H2 := Lib.hid h2
  have H3 := Lib.hid h3
  clear h1 h2 h3
  go_enter Tryz.func131, Tryz.ntmps131
  go_wp2_with fail
  refine (fmtDec_walk l _ hs).mono ?_
  intro e w1 hpost
  unfold FmtPost at hpost
  cases ho : fmtDec l with
  | none =>
    rw [ho] at hpost
    obtain ⟨⟨a, rfl⟩, hb⟩ := hpost
    have k2 := (hb.block b2 hl2).trans H2.out
    have k3 := (hb.block b3 hl3).trans H3.out
    have c2 := one_cell k2
    have c3 := one_cell k3
    have f2 := one_free k2 0
    have f3 := one_free k3 0
    have K2 := Lib.hid k2
    have K3 := Lib.hid k3
    have HO := Lib.hid ho
    clear k2 k3 ho
    go_wp2_with fail
    go_region
    go_wp2_with fail
    go_end0
    refine ⟨rfl, ((((Ext.of_below hb).setCell (p := ⟨b2, 0, none⟩) (fun _ => .inl rfl) _).setCell (p := ⟨b3, 0, none⟩) (fun _ => .inr rfl) _).drew), ?_, ?_⟩
    · rw [one_drew, one_other hne, HO.out]
      exact one_set K2.out
    · rw [one_drew, HO.out]
      exact one_set ((one_other (a := ⟨b2, 0, none⟩) hne.symm).trans K3.out)
  | some o =>
    rw [ho] at hpost
    obtain ⟨rfl, hb⟩ := hpost
    have k2 := (hb.block b2 hl2).trans H2.out
    have k3 := (hb.block b3 hl3).trans H3.out
    have c2 := one_cell k2
    have c3 := one_cell k3
    have f2 := one_free k2 0
    have f3 := one_free k3 0
    have K2 := Lib.hid k2
    have K3 := Lib.hid k3
    have HO := Lib.hid ho
    clear k2 k3 ho
    go_wp2_with fail
    go_region
    go_wp2_with fail
    go_end0
    refine ⟨rfl, ((((Ext.of_below hb).setCell (p := ⟨b2, 0, none⟩) (fun _ => .inl rfl) _).setCell (p := ⟨b3, 0, none⟩) (fun _ => .inr rfl) _).drew), ?_, ?_⟩
    · rw [one_drew, one_other hne, HO.out]
      exact one_set K2.out
    · rw [one_drew, HO.out]
      exact one_set ((one_other (a := ⟨b2, 0, none⟩) hne.symm).trans K3.out)

set_option maxRecDepth 100000 in
theorem callCDec : ∀ (caps : Array Value) (w : World), (callFunc 131 caps).run Tryz.prog w = .ok (.enter 131 caps) w := fun _ _ => by rfl

set_option maxRecDepth 100000 in
set_option maxHeartbeats 1000000 in
theorem implFmtDec_walk (l : List UInt8) (w : World) (hs : l.length ≤ 1000) :
    Calls Tryz.prog 84 #[.string (S l)] w fun e w' => e = .returned (.tuple #[.string (S ((fmtDec l).getD [])), .bool (fmtDec l).isSome]) ∧ Below w.heap.size w w' := by
  have hmf : ∀ (fn : Fn) (first cap : Array Value) (w : World), (Instr.makeFunc fn first cap).run Tryz.prog w = .ok (.func fn first cap) w := fun _ _ _ _ => rfl
  go_enter Tryz.func84, Tryz.ntmps84
  go_wp2_with fail
  refine (safe_ret 131 _ _ (fun w' => Below w.heap.size w w' ∧ w'.heap[w.heap.size + 1]? = some (.cells #[.string (S ((fmtDec l).getD []))] 9 (0, 0)) ∧ w'.heap[w.heap.size + 1 + 1]? = some (.cells #[.bool (fmtDec l).isSome] 4 (0, 0))) (callCDec _) ?_).mono ?_
  · refine (fmtDecC_walk l _ _ _ ⟨#[]⟩ false _ hs ?_ ?_ ?_ ?_).mono ?_
    · simp only [heap_get, heap_size_alloc]
      rw [if_neg (by omega), if_neg (by omega), if_neg (by omega), if_pos trivial]
    · simp only [heap_get, heap_size_alloc]
      rw [if_neg (by omega), if_neg (by omega), if_pos trivial]
    · simp only [heap_get, heap_size_alloc]
      rw [if_neg (by omega), if_pos trivial]
    · omega
    · rintro e w1 ⟨rfl, he, k2, k3⟩
      have hz := he.size
      simp only [heap_size_alloc] at hz
      refine ⟨rfl, ?_, ?_, ?_, ?_⟩
      · rw [he.block _ (by simp only [heap_size_alloc]; omega) (by simp only [heap_size_alloc]; omega)]
        simp only [heap_get, heap_size_alloc]
        rw [if_pos trivial]
      · refine Below.setCell (Below.setCell ?_ (by simp only [heap_size_alloc]; omega) _) (by simp only [heap_size_alloc]; omega) _
        exact ((((Below.refl _ w).alloc (Nat.le_refl _) _).alloc (by simp only [heap_size_alloc]; omega) _).alloc (by simp only [heap_size_alloc]; omega) _).alloc (by simp only [heap_size_alloc]; omega) _ |>.trans (he.below (by simp only [heap_size_alloc]; omega) (by rintro k (rfl | rfl) <;> omega))
      · rw [one_other (by simp only [heap_size_alloc]; omega), one_other (by simp only [heap_size_alloc]; omega)]
        exact k2
      · rw [one_other (by simp only [heap_size_alloc]; omega), one_other (by simp only [heap_size_alloc]; omega)]
        exact k3
  · rintro e w1 ⟨rfl, hb, k2, k3⟩
    have c2 := one_cell k2
    have c3 := one_cell k3
    have f2 := one_free k2 0
    have f3 := one_free k3 0
    have K2 := Lib.hid k2
    have K3 := Lib.hid k3
    clear k2 k3
    cases ho : fmtDec l with
    | none =>
      rw [ho] at c2 c3
      have HO := Lib.hid ho
      clear ho
      go_wp2_with fail
      have e2 := (one_other (u := .bool false) (w := w1.setCell ⟨w.heap.size + 1, 0, none⟩ (.string ⟨#[]⟩)) (g := w.heap.size + 1) (a := ⟨w.heap.size + 1 + 1, 0, none⟩) (by simp)).trans (one_set (u := .string ⟨#[]⟩) K2.out)
      have e3 := one_set (u := .bool false) ((one_other (u := .string ⟨#[]⟩) (w := w1) (g := w.heap.size + 1 + 1) (a := ⟨w.heap.size + 1, 0, none⟩) (by simp)).trans K3.out)
      have d2 := one_cell e2
      have d3 := one_cell e3
      rw [HO.out]
      exact bodyPost_ret (v := .tuple #[.string (S []), .bool false]) (by simp [results, Tryz.results84, go_sem, d2, d3]; rfl) rfl ⟨rfl, (hb.setCell (p := ⟨w.heap.size + 1, 0, none⟩) (by simp) _).setCell (p := ⟨w.heap.size + 1 + 1, 0, none⟩) (by simp; omega) _⟩
    | some o =>
      rw [ho] at c2 c3
      have HO := Lib.hid ho
      clear ho
      go_wp2_with fail
      have e2 := (one_other (u := .bool true) (w := w1.setCell ⟨w.heap.size + 1, 0, none⟩ (.string (S o))) (g := w.heap.size + 1) (a := ⟨w.heap.size + 1 + 1, 0, none⟩) (by simp)).trans (one_set (u := .string (S o)) K2.out)
      have e3 := one_set (u := .bool true) ((one_other (u := .string (S o)) (w := w1) (g := w.heap.size + 1 + 1) (a := ⟨w.heap.size + 1, 0, none⟩) (by simp)).trans K3.out)
      have d2 := one_cell e2
      have d3 := one_cell e3
      rw [HO.out]
      exact bodyPost_ret (v := .tuple #[.string (S o), .bool true]) (by simp [results, Tryz.results84, go_sem, d2, d3]) rfl ⟨rfl, (hb.setCell (p := ⟨w.heap.size + 1, 0, none⟩) (by simp) _).setCell (p := ⟨w.heap.size + 1 + 1, 0, none⟩) (by simp; omega) _⟩

end Go.Proofs.YthipbglnaalhmaaGreatDoor
