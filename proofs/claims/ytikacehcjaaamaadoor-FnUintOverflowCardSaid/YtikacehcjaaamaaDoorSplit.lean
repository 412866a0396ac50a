/-
  zzIndex and zzSplit at a point, zzTrimRight of noughts.
-/
import Derived.Test.YtikacehcjaaamaaDoorFmtInt
import Derived.Deep.QuietTactic
import Derived.BigQuiet
namespace Go.Proofs.YtikacehcjaaamaaDoor
open Go.RowKit
attribute [local simp] S_extract S_append

def hasDot (l : List UInt8) : Bool := l.any (· == 46)
def before (l : List UInt8) : List UInt8 := l.takeWhile (· != 46)
def after (l : List UInt8) : List UInt8 := (l.dropWhile (· != 46)).tail

def dotAt (l : List UInt8) : Int := if hasDot l = true then (before l).length else -1

theorem not_dot {a : List UInt8} (h : hasDot a = false) : ∀ x ∈ a, (x != 46) = true := by
  intro x hx
  simp only [hasDot, List.any_eq_false] at h
  simpa using h x hx
theorem before_app {a r : List UInt8} (h : hasDot a = false) : before (a ++ 46 :: r) = a := by
  unfold before
  rw [List.takeWhile_append_of_pos (not_dot h)]
  simp
theorem after_app {a r : List UInt8} (h : hasDot a = false) : after (a ++ 46 :: r) = r := by
  unfold after
  rw [List.dropWhile_append_of_pos (not_dot h)]
  simp
theorem has_app (a r : List UInt8) : hasDot (a ++ 46 :: r) = true := by simp [hasDot]
theorem dotAt_app {a r : List UInt8} (h : hasDot a = false) : dotAt (a ++ 46 :: r) = a.length := by
  unfold dotAt
  rw [if_pos (has_app a r), before_app h]
theorem dot_take {l : List UInt8} {k : Nat} (hlt : k < l.length) (hd : hasDot (l.take k) = false) (hc : l[k]'hlt = 46) : dotAt l = k := by
  have hl : l.take k ++ 46 :: l.drop (k + 1) = l := by
    conv => rhs; rw [← List.take_append_drop k l]
    rw [List.drop_eq_getElem_cons hlt, hc]
  have := dotAt_app (r := l.drop (k + 1)) hd
  rw [hl, List.length_take] at this
  rw [this]
  congr 1
  omega

set_option maxRecDepth 100000 in
set_option maxHeartbeats 400000 in
theorem index_walk (l : List UInt8) (w : World) (hs : l.length ≤ 1000) :
    Calls Tryd.prog 50 #[.string (S l), .string ⟨#[46]⟩] w fun e w' => e = .returned (.int .i64 (dotAt l)) ∧ w = w' := by
  go_enter Tryd.func50, Tryd.ntmps50
  go_wp2
  go_loop [5] (fun i => ∃ k : Nat, i = .int .i64 k ∧ k ≤ l.length ∧ hasDot (l.take k) = false) (fun i => l.length - (intOf i).toNat)
  case atStart => exact ⟨0, rfl, Nat.zero_le _, rfl⟩
  case round =>
    obtain ⟨k, rfl, hk, hd⟩ := hrel
    have HD := Lib.hid hd
    clear hd
    have hone : (⟨#[46]⟩ : ByteArray).size = 1 := rfl
    by_cases hlt : k < l.length
    · have h1 : ((k : Int) + 1 ≤ (l.length : Int)) := by omega
      obtain ⟨c, hc⟩ : ∃ c, l[k]'hlt = c := ⟨_, rfl⟩
      have ht : (l.take (k + 1)).drop k = [c] := by
        rw [List.drop_take, List.drop_eq_getElem_cons hlt, hc]
        simp
      have HC := Lib.hid hc
      clear hc
      by_cases h46 : c = 46
      · have hb : ([c] == [46]) = true := by rw [h46]; rfl
        have hfin := dot_take hlt HD.out (HC.out.trans h46)
        have HF := Lib.hid hfin
        clear hfin h46
        go_wp2
        go_ret
        rw [HF.out]
        exact ⟨rfl, rfl⟩
      · have hb : ([c] == [46]) = false := by simpa using h46
        have H4 := Lib.hid h46
        clear h46
        go_wp2
        refine ⟨⟨k + 1, by go_num, by omega, ?_⟩, by simp [intOf]; omega⟩
        have e : l.take (k + 1) = l.take k ++ [c] := by rw [List.take_succ_eq_append_getElem hlt, HC.out]
        rw [e]
        have h2 := HD.out
        unfold hasDot at h2 ⊢
        rw [List.any_append, h2]
        simpa using H4.out
    · have h1 : ¬ ((k : Int) + 1 ≤ (l.length : Int)) := by omega
      have e : dotAt l = -1 := by
        have := HD.out
        rw [List.take_of_length_le (by omega)] at this
        unfold dotAt
        rw [this]
        rfl
      have HE := Lib.hid e
      clear e
      go_wp2
      go_ret
      rw [HE.out]
      exact ⟨rfl, rfl⟩

/-- The parts between the points. -/
def parts (n : Nat) (l : List UInt8) : List (List UInt8) :=
  match n with
  | 0 => [l]
  | n + 1 => if hasDot l = true then before l :: parts n (after l) else [l]

theorem info9 : (Tryd.prog.info? 9).map (fun i => (i.zero, i.size, i.bytes)) = some (some (.string ⟨#[]⟩), 1, 16) := by kernel_rfl
def strs (xs : List (List UInt8)) : List Value := xs.map fun x => .string (S x)

def strLen : Value → Nat | .string s => s.size | _ => 0
theorem take_of_app {l a r : List UInt8} (h : l = a ++ 46 :: r) : l.take a.length = a := by subst h; simp
theorem drop_of_app {l a r : List UInt8} (h : l = a ++ 46 :: r) : l.drop (a.length + 1) = r := by subst h; simp
theorem split_dot {l : List UInt8} (h : hasDot l = true) : ∃ r, l = before l ++ 46 :: r ∧ after l = r ∧ dotAt l = (before l).length := by
  have hl := List.takeWhile_append_dropWhile (p := (· != 46)) (l := l)
  cases hd : l.dropWhile (· != 46) with
  | nil =>
    rw [hd, List.append_nil] at hl
    exfalso
    simp only [hasDot, List.any_eq_true] at h
    obtain ⟨x, hx, hx2⟩ := h
    rw [← hl] at hx
    have hall := List.all_takeWhile (p := fun (c : UInt8) => c != 46) (l := l)
    rw [List.all_eq_true] at hall
    have := hall x hx
    simp_all
  | cons c r =>
    have hc : c = 46 := by
      have := List.head_dropWhile_not (p := fun (c : UInt8) => c != 46) (l := l) (by rw [hd]; simp)
      simp only [hd, List.head_cons] at this
      simpa using this
    subst hc
    refine ⟨r, ?_, ?_, ?_⟩
    · rw [hd] at hl
      exact hl.symm
    · unfold after; rw [hd]; rfl
    · unfold dotAt; rw [if_pos h]

theorem one_new (w : World) (v : Value) (T : TypeId) : ∀ (j : Nat) (u : Value), [v][j]? = some u → (w.alloc (.cells #[v] T)).cell? ((⟨w.heap.size, 0, none⟩ : Addr).add j) = some u := by
  intro j u hu
  match j, hu with
  | 0, hu =>
    simp at hu
    subst hu
    have : (⟨w.heap.size, 0, none⟩ : Addr).add 0 = ⟨w.heap.size, 0, none⟩ := rfl
    rw [this]
    exact one_cell (heap_alloc_new w _)
  | j + 1, hu => simp at hu

set_option maxRecDepth 100000 in
set_option maxHeartbeats 1000000 in
theorem split_walk (l : List UInt8) (w : World) (hs : l.length ≤ 1000) :
    Calls Tryd.prog 41 #[.string (S l), .string ⟨#[46]⟩] w fun e w' => ∃ v, e = .returned v ∧ w'.ownsRow w.heap.size 9 1 v (parts l.length l).length (strs (parts l.length l)) ∧ Below w.heap.size w w' := by
  obtain ⟨i0, hi, hz0, hz1, hz2⟩ := info_parts info9
  have hone : (⟨#[46]⟩ : ByteArray).size = 1 := rfl
  go_enter Tryd.func41, Tryd.ntmps41
  go_wp2_with fail
  go_loopw [0, 5] (fun s0 v wr => ∃ (rest : List UInt8) (acc : List (List UInt8)) (n : Nat), s0 = .string (S rest) ∧ rest.length ≤ n ∧ n ≤ l.length ∧ acc.length + n ≤ l.length ∧ parts l.length l = acc ++ parts n rest ∧ wr.ownsRow w.heap.size 9 1 v acc.length (strs acc) ∧ Below w.heap.size w wr) (fun s0 _ _ => strLen s0)
  case atStart => exact ⟨l, [], l.length, rfl, Nat.le_refl _, Nat.le_refl _, by simp, rfl, World.ownsRow_nil _ _ _ _, Below.refl _ _⟩
  case round =>
    obtain ⟨rest, acc, n, rfl, hn, hnl, hacc, hp, hown, hb⟩ := hrel
    have HP := Lib.hid hp
    have hrl : rest.length ≤ 1000 := by omega
    clear hp
    by_cases hd : hasDot rest = true
    · obtain ⟨r, h1, h2, h3⟩ := split_dot hd
      have hlen : rest.length = (before rest).length + 1 + r.length := by
        have := congrArg List.length h1
        simp at this
        omega
      obtain ⟨m, rfl⟩ : ∃ m, n = m + 1 := ⟨n - 1, by omega⟩
      have ep : parts (m + 1) rest = before rest :: parts m r := by
        conv => lhs; unfold parts
        rw [if_pos hd, h2]
      have e1 : rest.take (before rest).length = before rest := take_of_app h1
      have e2 : rest.drop ((before rest).length + 1) = r := drop_of_app h1
      have HE := Lib.hid h3
      have HEP := Lib.hid ep
      have HL := Lib.hid hlen
      have hb1 : (before rest).length ≤ 1000 := by omega
      have hb2 : ((before rest).length : Int) + 1 ≤ rest.length := by omega
      clear ep hd h1 h2 h3 hlen
      generalize before rest = bf at *
      go_wp2_with (first
        | (go_at_call 50; ((with_reducible refine (index_walk rest _ hrl).mono ?_); rintro e w1 ⟨rfl, rfl⟩; rw [HE.out]))
        | (at_builtin; refine wpList_append_own _ rfl _ _ 68 rfl w.heap.size 9 i0 (.string ⟨#[]⟩) 1 16 Tryd.underlying68 hi hz0 hz1 hz2 rfl (by decide) _ _ _ rfl (hown.alloc _) ⟨wr.heap.size, 0, none⟩ 1 1 [.string (S bf)] rfl rfl ?c1 ?c2 ?c3 ?c4 ?c5 ?_))
      case c1 => exact one_new _ _ _
      case c2 => intro u hu; simp at hu; subst hu; rfl
      case c3 => unfold maxLen; omega
      case c4 => omega
      case c5 => have := hb.size; simp; omega
      intro v' w2 hown' hgrow _
      go_wp2_with fail
      refine ⟨⟨r, acc ++ [bf], m, rfl, by have := HL.out; omega, by omega, by simp; omega, ?_, ?_, (hb.alloc hb.size _).grown hgrow (by have := hb.size; simp; omega) (fun k hk => (hown.lt k hk).1)⟩, ?_⟩
      · rw [HP.out, HEP.out]
        simp
      · simpa [strs] using hown'
      · have := HL.out
        simp [strLen]
        omega
    · have e : dotAt rest = -1 := by unfold dotAt; rw [if_neg hd]
      have ep : parts n rest = [rest] := by
        cases n with
        | zero => rfl
        | succ n => unfold parts; rw [if_neg hd]
      have HE := Lib.hid e
      have HEP := Lib.hid ep
      clear e ep hd
      go_wp2_with (first
        | (go_at_call 50; ((with_reducible refine (index_walk rest _ hrl).mono ?_); rintro e w1 ⟨rfl, rfl⟩; rw [HE.out]))
        | (at_builtin; refine wpList_append_own _ rfl _ _ 68 rfl w.heap.size 9 i0 (.string ⟨#[]⟩) 1 16 Tryd.underlying68 hi hz0 hz1 hz2 rfl (by decide) _ _ _ rfl (hown.alloc _) ⟨wr.heap.size, 0, none⟩ 1 1 [.string (S rest)] rfl rfl ?c1 ?c2 ?c3 ?c4 ?c5 ?_))
      case c1 => exact one_new _ _ _
      case c2 => intro u hu; simp at hu; subst hu; rfl
      case c3 => unfold maxLen; omega
      case c4 => omega
      case c5 => have := hb.size; simp; omega
      intro v' w2 hown' hgrow _
      go_wp2_with fail
      go_ret
      refine ⟨v', rfl, ?_, (hb.alloc hb.size _).grown hgrow (by have := hb.size; simp; omega) (fun k hk => (hown.lt k hk).1)⟩
      rw [HP.out, HEP.out]
      simpa [strs] using hown'

theorem below_drewN {B : Nat} {w W : World} (h : Below B w W) (n : Nat) : Below B w (W.drewN n) := ⟨h.os, h.tape, h.output, h.size, h.block⟩

def rtrim (l : List UInt8) : List UInt8 := (l.reverse.dropWhile (· == 48)).reverse
theorem rtrim_snoc (l : List UInt8) (c : UInt8) : rtrim (l ++ [c]) = if c = 48 then rtrim l else l ++ [c] := by
  unfold rtrim
  rw [List.reverse_append]
  show ((c :: l.reverse).dropWhile (· == 48)).reverse = _
  by_cases h : c = 48
  · rw [if_pos h, List.dropWhile_cons_of_pos (by simpa using h)]
  · rw [if_neg h, List.dropWhile_cons_of_neg (by simpa using h)]
    simp

set_option maxRecDepth 100000 in
set_option maxHeartbeats 1000000 in
theorem trimRight_walk (l : List UInt8) (w : World) (hs : l.length ≤ 1000) :
    Calls Tryd.prog 42 #[.string (S l), .string ⟨#[48]⟩] w fun e w' => e = .returned (.string (S (rtrim l))) ∧ Below w.heap.size w w' := by
  have hone : (⟨#[48]⟩ : ByteArray).size = 1 := rfl
  go_enter Tryd.func42, Tryd.ntmps42
  go_wp2_with fail
  go_loopw [5] (fun i wr => ∃ k : Nat, i = .int .i64 k ∧ k ≤ l.length ∧ rtrim l = rtrim (l.take k) ∧ Below w.heap.size w wr) (fun i _ => (intOf i).toNat)
  case atStart => exact ⟨l.length, rfl, Nat.le_refl _, by rw [List.take_length], Below.refl _ _⟩
  case round =>
    obtain ⟨k, rfl, hk, ht, hb⟩ := hrel
    have HT := Lib.hid ht
    clear ht
    by_cases h0 : k = 0
    · subst h0
      go_wp2_with fail
      go_ret
      refine ⟨?_, hb⟩
      rw [HT.out]
      rfl
    · obtain ⟨m, rfl⟩ : ∃ m, k = m + 1 := ⟨k - 1, by omega⟩
      have hk0 : (0 : Int) < (m : Int) + 1 := by omega
      have hm : m < l.length := by omega
      obtain ⟨c, hc⟩ : ∃ c, l[m]'hm = c := ⟨_, rfl⟩
      have e : l.take (m + 1) = l.take m ++ [c] := by rw [List.take_succ_eq_append_getElem hm, hc]
      have HE := Lib.hid e
      clear e
      by_cases h48 : c = 48
      · have hq : ∀ h h', ((((⟨#[48]⟩ : ByteArray)[0]'h).toNat : Int) == ((l[m]'h').toNat : Int)) = true := fun h h' => by
          rw [hc, h48]
          rfl
        have HC := Lib.hid h48
        clear h48 hc
        go_wp2_with fail
        refine wp_loop_rounds 2 ?_
        rw [rounds_succ]
        go_wp2_with fail
        go_quiet (fail)
        go_wp2_with fail
        rw [rounds_succ]
        go_wp2_with fail
        refine ⟨⟨m, by go_num, by omega, ?_, below_drewN hb _⟩, by simp [intOf]⟩
        rw [HT.out, HE.out, rtrim_snoc, if_pos HC.out]
      · have hq : ∀ h h', ((((⟨#[48]⟩ : ByteArray)[0]'h).toNat : Int) == ((l[m]'h').toNat : Int)) = false := fun h h' => by
          rw [hc]
          have : ¬ (48 : Int) = (c.toNat : Int) := fun k => h48 (nought_of k.symm)
          exact beq_eq_false_iff_ne.2 this
        have HC := Lib.hid h48
        clear h48 hc
        go_wp2_with fail
        refine wp_loop_rounds 2 ?_
        rw [rounds_succ]
        go_wp2_with fail
        go_quiet (fail)
        go_wp2_with fail
        rw [rounds_succ]
        go_wp2_with fail
        go_ret
        refine ⟨?_, below_drewN hb _⟩
        rw [HT.out, HE.out, rtrim_snoc, if_neg HC.out, ← HE.out]
        rfl
end Go.Proofs.YtikacehcjaaamaaDoor
