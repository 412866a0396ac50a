/-
  Max and Min of numbers and of texts.
  impl.MaxInts and its kin.
  The reference's numbers: trim, signed, Digits, Read, OfUint, Text.
  The reference's numbers: OfUint, Text.
  laws.formatAwake: true.
-/
import Derived.Test.YtapfolgiafnllaaGreatDoorImplFmtZ
namespace Go.Proofs.YtapfolgiafnllaaGreatDoor
open Go.RowKit

/-- A slice's elements stand in memory. -/
def Rd (w : World) (A : Option Addr) (vs : List Value) : Prop := vs = [] ∨ ∃ x, A = some x ∧ ∀ j u, vs[j]? = some u → w.cell? (x.add j) = some u

def pickMaxI (m v : Int) : Int := if m < v then v else m
def pickMinI (m v : Int) : Int := if v < m then v else m
def less (a b : List UInt8) : Bool := Op.bytesLess a b
def pickMaxS (m v : List UInt8) : List UInt8 := if !(less v m || v == m) then v else m
def pickMinS (m v : List UInt8) : List UInt8 := if less v m then v else m
def foldH {α : Type} (f : α → α → α) (m : α) (l : List α) : α := l.foldl f m

end Go.Proofs.YtapfolgiafnllaaGreatDoor

namespace Go.Proofs.YtapfolgiafnllaaGreatDoor
open Go.RowKit

theorem Rd_drewN {w : World} {A : Option Addr} {vs : List Value} (h : Rd w A vs) (n : Nat) : Rd (w.drewN n) A vs := h
theorem rd_tail {α : Type} (enc : α → Value) {a b : α} {zs : List α} {x : Addr} {c : Nat} {w : World}
    (hr : ∀ j u, ((a :: b :: zs).map enc)[j]? = some u → w.cell? (x.add j) = some u) (hc : zs.length + 2 ≤ c) :
    Rd w (if c = 2 then some x else some ⟨x.block, x.off + 2, none⟩) (zs.map enc) := by
  by_cases h : c = 2
  · left
    have : zs.length = 0 := by omega
    rw [List.length_eq_zero_iff.1 this]
    rfl
  · right
    refine ⟨⟨x.block, x.off + 2, none⟩, by rw [if_neg h], fun j u hu => ?_⟩
    have := hr (j + 2) u (by simpa using hu)
    have e : x.add (j + 2) = (⟨x.block, x.off + 2, none⟩ : Addr).add j := by
      unfold Addr.add
      rw [if_neg (by omega)]
      by_cases h0 : j = 0
      · subst h0; rfl
      · rw [if_neg h0]
        simp
        omega
    rw [← e]
    exact this

end Go.Proofs.YtapfolgiafnllaaGreatDoor

namespace Go.Proofs.YtapfolgiafnllaaGreatDoor
open Go.RowKit
attribute [local simp] S_extract S_append

def u8s (ds : List Nat) : List Value := ds.map fun (d : Nat) => Value.int .u8 (d : Int)
theorem u8s_length (ds : List Nat) : (u8s ds).length = ds.length := by simp [u8s]
/-- A list without noughts at its end. -/
def trimN (ds : List Nat) : List Nat := (ds.reverse.dropWhile (· == 0)).reverse
theorem trimN_snoc (l : List Nat) (c : Nat) : trimN (l ++ [c]) = if c = 0 then trimN l else l ++ [c] := by
  unfold trimN
  rw [List.reverse_append]
  show ((c :: l.reverse).dropWhile (· == 0)).reverse = _
  by_cases h : c = 0
  · rw [if_pos h, List.dropWhile_cons_of_pos (by simpa using h)]
  · rw [if_neg h, List.dropWhile_cons_of_neg (by simpa using h)]
    simp

/-- A reference number in memory: its sign and its digits, the lowest one first. -/
def NumIs (w : World) (v : Value) (neg : Bool) (ds : List Nat) : Prop :=
  ∃ A c, v = .agg #[.bool neg, .slice A ds.length c] ∧ ds.length ≤ c ∧ c ≤ 9223372036854775807 ∧ Rd w A (u8s ds)

theorem Rd.below {w w' : World} {A : Option Addr} {vs : List Value} (h : Rd w A vs) (hb : Below w.heap.size w w') : Rd w' A vs := by
  rcases h with h | ⟨x, rfl, h⟩
  · exact .inl h
  · exact .inr ⟨x, rfl, fun j u hu => (hb.cell (World.block_lt_of_cell? w _ (h j u hu))).trans (h j u hu)⟩
theorem NumIs.below {w w' : World} {v : Value} {neg : Bool} {ds : List Nat} (h : NumIs w v neg ds) (hb : Below w.heap.size w w') : NumIs w' v neg ds := by
  obtain ⟨A, c, h1, h2, h3, h4⟩ := h
  exact ⟨A, c, h1, h2, h3, h4.below hb⟩
theorem Rd.prefix {w : World} {A : Option Addr} {xs ys : List Value} (h : Rd w A (xs ++ ys)) : Rd w A xs := by
  rcases h with h | ⟨x, rfl, h⟩
  · exact .inl (List.append_eq_nil_iff.1 h).1
  · exact .inr ⟨x, rfl, fun j u hu => h j u (by
      rw [List.getElem?_append_left (List.getElem?_eq_some_iff.1 hu).1]
      exact hu)⟩

def TrimNRel (A : Option Addr) (c : Nat) (ds : List Nat) (v : Value) : Prop := ∃ us : List Nat, v = .slice A us.length c ∧ trimN ds = trimN us ∧ ∃ r, ds = us ++ r
def lenOf : Value → Nat | .slice _ n _ => n | _ => 0

set_option maxRecDepth 100000 in
set_option maxHeartbeats 1000000 in
theorem trim_walk (A : Option Addr) (c : Nat) (ds : List Nat) (w : World) (hc : ds.length ≤ c) (hm : c ≤ 9223372036854775807) (hr : Rd w A (u8s ds)) :
    Calls Tryz.prog 51 #[.slice A ds.length c] w fun e w' => e = .returned (.slice A (trimN ds).length c) ∧ w = w' := by
  have HR := Lib.hid hr
  clear hr
  go_enter Tryz.func51, Tryz.ntmps51
  go_wp2_with fail
  go_loop [0] (fun v => TrimNRel A c ds v) (fun v => lenOf v)
  case atStart => exact ⟨ds, rfl, rfl, [], by simp⟩
  case round =>
    obtain ⟨us, rfl, ht, r, hd⟩ := hrel
    have HT := Lib.hid ht
    have HD := Lib.hid hd
    have hul : us.length ≤ ds.length := by rw [hd]; simp
    clear ht hd
    by_cases hue : us = []
    · subst hue
      have e : trimN ds = [] := by rw [HT.out]; rfl
      have HE := Lib.hid e
      clear e
      go_wp2_with fail
      go_ret
      rw [HE.out]
      exact ⟨rfl, rfl⟩
    · obtain ⟨t, q, rfl⟩ : ∃ t q, us = t ++ [q] := by
        rw [← List.dropLast_concat_getLast hue]
        exact ⟨_, _, rfl⟩
      have hlen : (t ++ [q]).length = t.length + 1 := by simp
      have hcell : ∃ x, A = some x ∧ w.cell? (x.add t.length) = some (.int .u8 q) := by
        rcases HR.out with h | ⟨x, rfl, h⟩
        · have := congrArg List.length h
          rw [u8s_length, List.length_nil] at this
          omega
        · refine ⟨x, rfl, h _ _ ?_⟩
          have := HD.out
          rw [this]
          simp [u8s]
      obtain ⟨x, rfl, hcell⟩ := hcell
      have hk0 : (0 : Int) < (t.length : Int) + 1 := by omega
      have hk1 : (0 : Int) ≤ (t.length : Int) := by omega
      clear HR hue
      by_cases hq : q = 0
      · subst hq
        go_wp2_with fail
        refine ⟨⟨t, rfl, ?_, [0] ++ r, by rw [HD.out]; simp⟩, by simp [lenOf]⟩
        rw [HT.out, trimN_snoc, if_pos rfl]
      · have hqb : ((q : Int) == 0) = false := beq_eq_false_iff_ne.2 (by omega)
        have e : trimN ds = t ++ [q] := by rw [HT.out, trimN_snoc, if_neg hq]
        have HE := Lib.hid e
        clear e
        go_wp2_with fail
        go_ret
        rw [HE.out, hlen]
        exact ⟨rfl, rfl⟩

theorem trimN_prefix (ds : List Nat) : ∃ r, ds = trimN ds ++ r := by
  have h := List.takeWhile_append_dropWhile (p := (· == 0)) (l := ds.reverse)
  refine ⟨(ds.reverse.takeWhile (· == 0)).reverse, ?_⟩
  have h2 := congrArg List.reverse h
  rw [List.reverse_append, List.reverse_reverse] at h2
  exact h2.symm
theorem trimN_length (ds : List Nat) : (trimN ds).length ≤ ds.length := by
  obtain ⟨r, h⟩ := trimN_prefix ds
  have := congrArg List.length h
  rw [List.length_append] at this
  omega
theorem u8s_append (a b : List Nat) : u8s (a ++ b) = u8s a ++ u8s b := by simp [u8s]
theorem Rd.trimN {w : World} {A : Option Addr} {ds : List Nat} (h : Rd w A (u8s ds)) : Rd w A (u8s (trimN ds)) := by
  obtain ⟨r, hr⟩ := trimN_prefix ds
  rw [hr, u8s_append] at h
  exact h.prefix

/-- What a function gives that returns a number alone. -/
def NumPost (w : World) (neg : Bool) (ds : List Nat) (e : Ending) (w' : World) : Prop := ∃ v, e = .returned v ∧ NumIs w' v neg ds ∧ Below w.heap.size w w'

set_option maxRecDepth 100000 in
set_option maxHeartbeats 1000000 in
theorem signed_walk (neg : Bool) (A : Option Addr) (c : Nat) (ds : List Nat) (w : World) (hc : ds.length ≤ c) (hm : c ≤ 9223372036854775807) (hr : Rd w A (u8s ds)) :
    Calls Tryz.prog 39 #[.bool neg, .slice A ds.length c] w (NumPost w (neg && !(trimN ds).isEmpty) (trimN ds)) := by
  have htl := trimN_length ds
  have hre : Rd w A (u8s (trimN ds)) := hr.trimN
  have HRE := Lib.hid hre
  clear hre
  cases neg with
  | false =>
    go_enter Tryz.func39, Tryz.ntmps39
    go_wp2_with (go_at_call 51; ((with_reducible refine (trim_walk A c ds _ hc hm ?_).mono ?_); (exact hr.below ((Below.refl _ _).alloc (Nat.le_refl _) _)); rintro e w1 ⟨rfl, rfl⟩))
    exact bodyPost_ret (v := .agg #[.bool false, .slice A (trimN ds).length c]) (by simp [results, Tryz.results39, go_sem]) rfl
      ⟨_, rfl, ⟨A, c, rfl, by omega, hm, HRE.out.below ((Below.refl _ _).alloc (Nat.le_refl _) _)⟩, (Below.refl _ _).alloc (Nat.le_refl _) _⟩
  | true =>
    cases he : (trimN ds).isEmpty with
    | true =>
      have h0 : trimN ds = [] := by simpa using he
      have hn : decide ((0 : Int) < ((trimN ds).length : Int)) = false := by rw [h0]; rfl
      have hn' : decide (0 < (trimN ds).length) = false := by rw [h0]; rfl
      clear h0
      go_enter Tryz.func39, Tryz.ntmps39
      go_wp2_with (go_at_call 51; ((with_reducible refine (trim_walk A c ds _ hc hm ?_).mono ?_); (exact hr.below ((Below.refl _ _).alloc (Nat.le_refl _) _)); rintro e w1 ⟨rfl, rfl⟩))
      exact bodyPost_ret (v := .agg #[.bool false, .slice A (trimN ds).length c]) (by simp [results, Tryz.results39, go_sem]) rfl
        ⟨_, rfl, ⟨A, c, rfl, by omega, hm, HRE.out.below ((Below.refl _ _).alloc (Nat.le_refl _) _)⟩, (Below.refl _ _).alloc (Nat.le_refl _) _⟩
    | false =>
      have h0 : 0 < (trimN ds).length := by
        cases h : trimN ds with
        | nil => rw [h] at he; exact absurd he (by decide)
        | cons a b => simp
      have hn : decide ((0 : Int) < ((trimN ds).length : Int)) = true := decide_eq_true (by omega)
      have hn' : decide (0 < (trimN ds).length) = true := decide_eq_true h0
      clear h0
      go_enter Tryz.func39, Tryz.ntmps39
      go_wp2_with (go_at_call 51; ((with_reducible refine (trim_walk A c ds _ hc hm ?_).mono ?_); (exact hr.below ((Below.refl _ _).alloc (Nat.le_refl _) _)); rintro e w1 ⟨rfl, rfl⟩))
      exact bodyPost_ret (v := .agg #[.bool true, .slice A (trimN ds).length c]) (by simp [results, Tryz.results39, go_sem]) rfl
        ⟨_, rfl, ⟨A, c, rfl, by omega, hm, HRE.out.below ((Below.refl _ _).alloc (Nat.le_refl _) _)⟩, (Below.refl _ _).alloc (Nat.le_refl _) _⟩

/-- What a function gives that returns a number and a bool. -/
def Num2Post (w : World) (neg : Bool) (ds : List Nat) (ok : Bool) (e : Ending) (w' : World) : Prop := ∃ v, e = .returned (.tuple #[v, .bool ok]) ∧ NumIs w' v neg ds ∧ Below w.heap.size w w'

def digN (u : UInt8) : Nat := u.toNat - 48
def digsOf (l : List UInt8) : List Nat := l.reverse.map digN
theorem own_rd {w : World} {base : Nat} {e : TypeId} {v : Value} {xs : List Value} {n : Nat} (h : w.ownsRow base e 1 v n xs) (hx : xs.length = n) :
    ∃ A c, v = .slice A n c ∧ n ≤ c ∧ c ≤ 9223372036854775807 ∧ Rd w A xs := by
  by_cases hn : n = 0
  · subst hn
    have : xs = [] := List.length_eq_zero_iff.1 hx
    subst this
    rcases h.2 with ⟨rfl, _⟩ | ⟨g, cap, cur, rfl, _, _, h1, h2, _⟩
    · exact ⟨none, 0, rfl, Nat.le_refl _, by decide, .inl rfl⟩
    · exact ⟨_, cap, rfl, h1, by unfold maxLen at h2; omega, .inl rfl⟩
  · obtain ⟨g, cap, rfl, h1, h2, h3⟩ := own_open h (by omega)
    refine ⟨some ⟨g, 0, none⟩, cap, rfl, h1, by unfold maxLen at h2; omega, .inr ⟨_, rfl, fun j u hu => ?_⟩⟩
    have e : (⟨g, 0, none⟩ : Addr).add j = ⟨g, j, none⟩ := by unfold Addr.add; split <;> simp_all
    rw [e]
    exact h3 j u hu

def digitsRes (l : List UInt8) : List Nat := if allDig l = true then trimN (digsOf l) else []
def digitsOk (l : List UInt8) : Bool := allDig l && !l.isEmpty

/-- Digits: the loop's relation: k bytes from behind have been read. -/
def DigRel (l : List UInt8) (w : World) (d i : Value) (wr : World) : Prop :=
  ∃ k : Nat, i = .int .i64 ((l.length : Int) - 1 - k) ∧ k ≤ l.length ∧ wr.ownsRow (w.heap.size + 1) 5 1 d k (u8s (digsOf (l.drop (l.length - k)))) ∧ allDig (l.drop (l.length - k)) = true ∧ Below w.heap.size w wr ∧
    wr.heap[w.heap.size]? = some (.cells #[.bool false, .slice none 0 0] 25 (0, 0))

theorem digits_no {l : List UInt8} (h : allDig l = false) : digitsOk l = false := by unfold digitsOk; rw [h]; rfl
theorem digits_nil {l : List UInt8} (h : allDig l = false) : digitsRes l = [] := by unfold digitsRes; rw [if_neg (by rw [h]; decide)]
theorem num_cell0 {w : World} {g : Nat} {a b : Value} {T : TypeId} (h : w.heap[g]? = some (.cells #[a, b] T (0, 0))) : w.cell? ⟨g, 0, none⟩ = some a := by simp [World.cell?, h]
theorem num_cell1 {w : World} {g : Nat} {a b : Value} {T : TypeId} (h : w.heap[g]? = some (.cells #[a, b] T (0, 0))) : w.cell? ⟨g, 1, none⟩ = some b := by simp [World.cell?, h]

theorem cell_other {w : World} {a p : Addr} {u : Value} (h : a.block ≠ p.block) : (w.setCell p u).cell? a = w.cell? a :=
  World.cell?_of_block (w := w) (Below.heap_setCell w p u a.block h)
/-- The digits of a number lie in no block of a number's two cells. -/
theorem rd_apart {w : World} {b : Nat} {x : Bool} {A : Option Addr} {n c : Nat} {T : TypeId} {B : Option Addr} {ds : List Nat} (hk : w.heap[b]? = some (.cells #[.bool x, .slice A n c] T (0, 0))) (h : Rd w B (u8s ds)) :
    u8s ds = [] ∨ ∃ a, B = some a ∧ a.block ≠ b ∧ ∀ j u, (u8s ds)[j]? = some u → w.cell? (a.add j) = some u := by
  rcases h with h | ⟨a, rfl, h⟩
  · exact .inl h
  · by_cases h0 : u8s ds = []
    · exact .inl h0
    · right
      refine ⟨a, rfl, fun hb => ?_, h⟩
      cases ds with
      | nil => exact h0 rfl
      | cons d t =>
        have h1 := h 0 (.int .u8 d) rfl
        have e : a.add 0 = a := by unfold Addr.add; rw [if_pos rfl]
        rw [e] at h1
        have hc : w.cell? a = if a.spot.isSome then none else #[Value.bool x, Value.slice A n c][a.off]? := by simp [World.cell?, hb, hk]
        rw [hc] at h1
        split at h1
        · cases h1
        · match h2 : a.off with
          | 0 => rw [h2] at h1; simp at h1
          | 1 => rw [h2] at h1; simp at h1
          | k + 2 => rw [h2] at h1; simp at h1
theorem add_block (a : Addr) (j : Nat) : (a.add j).block = a.block := by unfold Addr.add; split <;> rfl
theorem rd_set1 {w : World} {b : Nat} {x : Bool} {A : Option Addr} {n c : Nat} {T : TypeId} {B : Option Addr} {ds : List Nat} {o : Nat} {u : Value}
    (hk : w.heap[b]? = some (.cells #[.bool x, .slice A n c] T (0, 0))) (h : Rd w B (u8s ds)) : Rd (w.setCell ⟨b, o, none⟩ u) B (u8s ds) := by
  rcases rd_apart hk h with h | ⟨a, rfl, hne, h⟩
  · exact .inl h
  · exact .inr ⟨a, rfl, fun j v hv => by rw [cell_other (by rw [add_block]; exact hne)]; exact h j v hv⟩
theorem rd_set2 {w : World} {b : Nat} {x : Bool} {A : Option Addr} {n c : Nat} {T : TypeId} {B : Option Addr} {ds : List Nat} {u v : Value}
    (hk : w.heap[b]? = some (.cells #[.bool x, .slice A n c] T (0, 0))) (h : Rd w B (u8s ds)) : Rd ((w.setCell ⟨b, 0, none⟩ u).setCell ⟨b, 1, none⟩ v) B (u8s ds) := by
  rcases rd_apart hk h with h | ⟨a, rfl, hne, h⟩
  · exact .inl h
  · exact .inr ⟨a, rfl, fun j v hv => by rw [cell_other (by rw [add_block]; exact hne), cell_other (by rw [add_block]; exact hne)]; exact h j v hv⟩

set_option maxRecDepth 100000 in
set_option maxHeartbeats 1000000 in
theorem digits_walk (l : List UInt8) (w : World) (hs : l.length ≤ 140737488355328) :
    Calls Tryz.prog 85 #[.string (S l)] w (Num2Post w false (digitsRes l) (digitsOk l)) := by
  obtain ⟨i0, hi, hz0, hz1, hz2⟩ := info_parts infoByte
  go_enter Tryz.func85, Tryz.ntmps85
  go_wp2_with fail
  go_loopw [4, 5] (fun d i wr => DigRel l w d i wr) (fun _ i _ => (intOf i + 1).toNat)
  case atStart =>
    refine ⟨0, by simp, Nat.zero_le _, ?_, by simp [allDig], (Below.refl _ _).alloc (Nat.le_refl _) _, heap_here _ _⟩
    simp [digsOf, u8s]
    exact World.ownsRow_nil _ _ _ _
  case round =>
    obtain ⟨k, rfl, hk, hown, had, hb, hcell⟩ := hrel
    have HC := Lib.hid hcell
    have HA := Lib.hid had
    clear hcell had
    by_cases hlt : k < l.length
    · have hp : l.length - k - 1 < l.length := by omega
      obtain ⟨m, hm⟩ : ∃ m : Nat, (l.length : Int) - 1 - k = m ∧ m < l.length ∧ m + k + 1 = l.length := ⟨l.length - k - 1, by omega, by omega, by omega⟩
      obtain ⟨hm1, hm2, hm3⟩ := hm
      rw [hm1]
      obtain ⟨c, hc⟩ : ∃ c, l[m]'hm2 = c := ⟨_, rfl⟩
      have hdr : l.drop (l.length - k - 1) = c :: l.drop (l.length - k) := by
        have e1 : l.length - k - 1 = m := by omega
        have e2 : l.length - k = m + 1 := by omega
        rw [e1, e2, List.drop_eq_getElem_cons hm2, hc]
      have HDR := Lib.hid hdr
      have hm0 : (0 : Int) ≤ (m : Int) := by omega
      have hcc : (allDig (c :: l.drop (l.length - k)) = (48 ≤ c && c ≤ 57)) := by
        have := HA.out
        simp only [allDig] at this
        simp [allDig, this]
      rw [dig_byte] at hcc
      have HCC := Lib.hid hcc
      clear hcc hdr hm1 hp
      have hbad : (((c.toNat : Int) < 48) ∨ ((57 : Int) < (c.toNat : Int))) → allDig l = false := by
        intro h
        have h1 : allDig (l.drop (l.length - k - 1)) = false := by
          rw [HDR.out, HCC.out]
          rcases h with h | h <;> simp [h]
        have h2 := List.take_append_drop (l.length - k - 1) l
        rw [← h2]
        unfold allDig at *
        rw [List.all_append, h1, Bool.and_false]
      by_cases h1 : (c.toNat : Int) < 48
      · have h1b : decide ((c.toNat : Int) < 48) = true := decide_eq_true h1
        have HB := Lib.hid (hbad (.inl h1))
        have c0 := num_cell0 HC.out
        have c1 := num_cell1 HC.out
        have f0 := one_free HC.out 0
        have f1 := one_free HC.out 1
        clear hbad
        go_wp2_with fail
        exact bodyPost_ret (v := .tuple #[.agg #[.bool false, .slice none 0 0], .bool false]) (by simp [results, Tryz.results85, go_sem, c0, c1]) rfl
          ⟨.agg #[.bool false, .slice none 0 0], by rw [digits_no HB.out], ⟨none, 0, by rw [digits_nil HB.out]; rfl, by rw [digits_nil HB.out]; exact Nat.le_refl _, by decide, .inl (by rw [digits_nil HB.out]; rfl)⟩,
            (hb.setCell (p := ⟨w.heap.size, 0, none⟩) (Nat.le_refl _) _).setCell (p := ⟨w.heap.size, 1, none⟩) (Nat.le_refl _) _⟩
      · have h1b : decide ((c.toNat : Int) < 48) = false := decide_eq_false h1
        by_cases h2 : (57 : Int) < (c.toNat : Int)
        · have h2b : decide ((57 : Int) < (c.toNat : Int)) = true := decide_eq_true h2
          have HB := Lib.hid (hbad (.inr h2))
          have c0 := num_cell0 HC.out
          have c1 := num_cell1 HC.out
          have f0 := one_free HC.out 0
          have f1 := one_free HC.out 1
          clear hbad
          go_wp2_with fail
          exact bodyPost_ret (v := .tuple #[.agg #[.bool false, .slice none 0 0], .bool false]) (by simp [results, Tryz.results85, go_sem, c0, c1]) rfl
            ⟨.agg #[.bool false, .slice none 0 0], by rw [digits_no HB.out], ⟨none, 0, by rw [digits_nil HB.out]; rfl, by rw [digits_nil HB.out]; exact Nat.le_refl _, by decide, .inl (by rw [digits_nil HB.out]; rfl)⟩,
              (hb.setCell (p := ⟨w.heap.size, 0, none⟩) (Nat.le_refl _) _).setCell (p := ⟨w.heap.size, 1, none⟩) (Nat.le_refl _) _⟩
        · have h2b : decide ((57 : Int) < (c.toNat : Int)) = false := decide_eq_false h2
          clear hbad
          go_wp2_with (at_builtin; refine wpList_append_own _ rfl _ _ 23 rfl (w.heap.size + 1) 5 i0 (.int .u8 0) 1 1 Tryz.underlying23 hi hz0 hz1 hz2 rfl (by decide) _ _ _ rfl (hown.alloc _) ⟨wr.heap.size, 0, none⟩ 1 1 [.int .u8 ((c.toNat : Int) - 48)] rfl rfl ?c1 ?c2 ?c3 ?c4 ?c5 ?_)
          case c2 => rfl
          case c3 => unfold maxLen; omega
          case c4 => omega
          case c5 => have := hb.size; have := iter_lt HC.out; simp; omega
          intro v' w2 hown' hgrow _
          have hk2 : w2.heap[w.heap.size]? = some (.cells #[.bool false, .slice none 0 0] 25 (0, 0)) := by
            rw [hgrow.block _ (by have := iter_lt HC.out; rw [heap_size_alloc]; omega) (fun e => by have := (hown.lt _ e.symm).1; omega), Below.heap_alloc _ _ _ (iter_lt HC.out)]
            exact HC.out
          have HK2 := Lib.hid hk2
          clear hk2
          go_wp2_with fail
          refine ⟨⟨k + 1, by rw [show (l.length : Int) - 1 - ((k + 1 : Nat) : Int) = (m : Int) - 1 from by omega], by omega, ?_, ?_, (hb.alloc hb.size _).grown hgrow (by have := hb.size; rw [heap_size_alloc]; omega) (fun k hk => by have := (hown.lt k hk).1; omega), HK2.out⟩, ?_⟩
          · have e : l.length - (k + 1) = l.length - k - 1 := by omega
            rw [e, HDR.out]
            have e2 : digsOf (c :: l.drop (l.length - k)) = digsOf (l.drop (l.length - k)) ++ [digN c] := by simp [digsOf]
            have e3 : ((digN c : Nat) : Int) = (c.toNat : Int) - 48 := by unfold digN; omega
            rw [e2, u8s_append]
            have e4 : u8s [digN c] = [Value.int .u8 ((c.toNat : Int) - 48)] := by simp [u8s, e3]
            rw [e4]
            exact hown'
          · have e : l.length - (k + 1) = l.length - k - 1 := by omega
            rw [e, HDR.out, HCC.out, h1b, h2b]
            rfl
          · have hgo : (l.length : Int) - 1 - (k : Int) = m := by omega
            simp [intOf]
    · have hkl : k = l.length := by omega
      subst hkl
      have e0 : l.length - l.length = 0 := Nat.sub_self _
      have hA := HA.out
      rw [e0, List.drop_zero] at hA hown
      have hlen : (u8s (digsOf l)).length = l.length := by simp [u8s, digsOf]
      obtain ⟨A, c, rfl, hc1, hc2, hrd⟩ := own_rd hown hlen
      have hdl : (digsOf l).length = l.length := by simp [digsOf]
      have hneg : ((l.length : Int) - 1 - (l.length : Int)) = -1 := by omega
      rw [hneg]
      have e1 : digitsRes l = trimN (digsOf l) := by unfold digitsRes; rw [if_pos hA]
      have e2 : digitsOk l = !l.isEmpty := by unfold digitsOk; rw [hA]; simp
      have HE1 := Lib.hid e1
      have HE2 := Lib.hid e2
      have HRD := Lib.hid hrd
      clear hneg e1 e2 hA hrd hown hlen e0 HA
      go_wp2_with fail
      rw [← hdl]
      refine (signed_walk false A c (digsOf l) _ (by omega) hc2 HRD.out).mono ?_
      rintro e w2 ⟨v, rfl, ⟨A2, c2, rfl, h1, h2, h3⟩, hb2⟩
      have hk2 : w2.heap[w.heap.size]? = some (.cells #[.bool false, .slice none 0 0] 25 (0, 0)) := (hb2.block _ (iter_lt HC.out)).trans HC.out
      have c0 := num_cell0 hk2
      have c1 := num_cell1 hk2
      have f0 := one_free hk2 0
      have f1 := one_free hk2 1
      have HK2 := Lib.hid hk2
      clear hk2
      go_wp2_with fail
      have k0 := cells_set (cells_set HK2.out 0 (.bool false)) 1 (.slice A2 (trimN (digsOf l)).length c2)
      have d0 := num_cell0 k0
      have d1 := num_cell1 k0
      exact bodyPost_ret (v := .tuple #[.agg #[.bool false, .slice A2 (trimN (digsOf l)).length c2], .bool (!l.isEmpty)]) (by simp [results, Tryz.results85, go_sem, d0, d1]) rfl
        ⟨.agg #[.bool false, .slice A2 (trimN (digsOf l)).length c2], by rw [HE2.out], ⟨A2, c2, by rw [HE1.out], by rw [HE1.out]; exact h1, h2, by rw [HE1.out]; exact rd_set2 HK2.out h3⟩,
          ((hb.trans (hb2.mono hb.size)).setCell (p := ⟨w.heap.size, 0, none⟩) (Nat.le_refl _) _).setCell (p := ⟨w.heap.size, 1, none⟩) (Nat.le_refl _) _⟩

/-- What Read gives: the number of a text as Text writes it. -/
def readBody (l : List UInt8) : List UInt8 := if 1 < l.length ∧ l.head? = some 45 then l.tail else l
def readNeg (l : List UInt8) : Bool := decide (1 < l.length) && (l.head? == some 45)
def readOk (l : List UInt8) : Bool :=
  digitsOk (readBody l) && !(decide (1 < (readBody l).length) && ((readBody l).head? == some 48)) && !(readNeg l && (readBody l == [48]))
def readDs (l : List UInt8) : List Nat := if readOk l = true then digitsRes (readBody l) else []
def readSign (l : List UInt8) : Bool := readOk l && readNeg l

theorem below_set2 {w w1 : World} (h : Below w.heap.size w w1) (u v : Value) (o : Obj) : Below w.heap.size w (((w1.setCell ⟨w.heap.size, 0, none⟩ u).setCell ⟨w.heap.size, 1, none⟩ v).alloc o) := by
  have h2 := (h.setCell (p := ⟨w.heap.size, 0, none⟩) (Nat.le_refl _) u).setCell (p := ⟨w.heap.size, 1, none⟩) (Nat.le_refl _) v
  exact h2.alloc h2.size o
theorem read_no {l : List UInt8} (h : readOk l = false) : readDs l = [] ∧ readSign l = false := by
  unfold readDs readSign
  rw [h]
  exact ⟨rfl, rfl⟩

set_option maxRecDepth 100000 in
set_option maxHeartbeats 1000000 in
theorem read_walk (l : List UInt8) (w : World) (hs : l.length ≤ 140737488355328) :
    Calls Tryz.prog 40 #[.string (S l)] w (Num2Post w (readSign l) (readDs l) (readOk l)) := by
  have hbl : (readBody l).length ≤ l.length := by unfold readBody; split <;> simp
  match l, hs, hbl with
  | [], hs, hbl =>
    have HN : Hid (readOk [] = false) := by unfold Hid; rfl
    go_enter Tryz.func40, Tryz.ntmps40
    go_wp2_with fail
    refine (digits_walk [] _ (by simp)).mono ?_
    rintro e w1 ⟨dv, rfl, ⟨A, c, rfl, hc1, hc2, hrd⟩, hb⟩
    have hk0 : w1.heap[w.heap.size]? = some (.cells #[.bool false, .slice none 0 0] 25 (0, 0)) := (hb.block _ (by rw [heap_size_alloc]; omega)).trans (heap_here _ _)
    have hb0 : Below w.heap.size w w1 := ((Below.refl _ _).alloc (Nat.le_refl _) _).trans (hb.mono (by rw [heap_size_alloc]; omega))
    have m0 := num_cell0 hk0
    have m1 := num_cell1 hk0
    have f0 := one_free hk0 0
    have f1 := one_free hk0 1
    have hlt0 := iter_lt hk0
    have HK := Lib.hid hk0
    have hok : digitsOk [] = false := rfl
    clear hk0 hrd hb
    go_wp2_with fail
    have k0 := heap_old (o := .cells #[.bool false, .slice A (digitsRes []).length c] 25) (cells_set (cells_set HK.out 0 (.bool false)) 1 (.slice none 0 0))
    have d0 := num_cell0 k0
    have d1 := num_cell1 k0
    exact bodyPost_ret (v := .tuple #[.agg #[.bool false, .slice none 0 0], .bool false]) (by simp [results, Tryz.results40, go_sem, d0, d1]) rfl
      ⟨.agg #[.bool false, .slice none 0 0], by rw [HN.out], ⟨none, 0, by rw [(read_no HN.out).1, (read_no HN.out).2]; rfl, by rw [(read_no HN.out).1]; exact Nat.le_refl _, by decide, .inl (by rw [(read_no HN.out).1]; rfl)⟩,
        below_set2 hb0 _ _ _⟩
  | [a], hs, hbl =>
    have hB : readBody ([a]) = a :: [] := by simp [readBody]
    have hG : readNeg ([a]) = false := by simp [readNeg]
    have hlen : (a :: []).length ≤ 140737488355328 := by rw [← hB]; exact Nat.le_trans hbl hs
    have HB := Lib.hid hB
    have HG := Lib.hid hG
    clear hB hG
    go_enter Tryz.func40, Tryz.ntmps40
    go_wp2_with fail
    refine (digits_walk (a :: []) _ hlen).mono ?_
    rintro e w1 ⟨dv, rfl, ⟨A, c, rfl, hc1, hc2, hrd⟩, hb⟩
    have hk0 : w1.heap[w.heap.size]? = some (.cells #[.bool false, .slice none 0 0] 25 (0, 0)) := (hb.block _ (by rw [heap_size_alloc]; omega)).trans (heap_here _ _)
    have hb0 : Below w.heap.size w w1 := ((Below.refl _ _).alloc (Nat.le_refl _) _).trans (hb.mono (by rw [heap_size_alloc]; omega))
    have m0 := num_cell0 hk0
    have m1 := num_cell1 hk0
    have f0 := one_free hk0 0
    have f1 := one_free hk0 1
    have hlt0 := iter_lt hk0
    have HK := Lib.hid hk0
    have HR := Lib.hid hrd
    clear hk0 hrd hb
    cases hok : digitsOk (a :: []) with
    | false =>
      have HN : Hid (readOk ([a]) = false) := by unfold Hid readOk; rw [HB.out, HG.out, hok]; simp
      go_wp2_with fail
      have k0 := heap_old (o := .cells #[.bool false, .slice A (digitsRes (a :: [])).length c] 25) (cells_set (cells_set HK.out 0 (.bool false)) 1 (.slice none 0 0))
      have d0 := num_cell0 k0
      have d1 := num_cell1 k0
      exact bodyPost_ret (v := .tuple #[.agg #[.bool false, .slice none 0 0], .bool false]) (by simp [results, Tryz.results40, go_sem, d0, d1]) rfl
        ⟨.agg #[.bool false, .slice none 0 0], by rw [HN.out], ⟨none, 0, by rw [(read_no HN.out).1, (read_no HN.out).2]; rfl, by rw [(read_no HN.out).1]; exact Nat.le_refl _, by decide, .inl (by rw [(read_no HN.out).1]; rfl)⟩,
          below_set2 hb0 _ _ _⟩
    | true =>
      have HY : Hid (readOk ([a]) = true ∧ readDs ([a]) = digitsRes (a :: []) ∧ readSign ([a]) = false) := by
        have h0 : readOk ([a]) = true := by unfold readOk; rw [HB.out, HG.out, hok]; simp
        unfold Hid readDs readSign
        rw [h0, HB.out, HG.out]
        exact ⟨rfl, rfl, rfl⟩
      go_wp2_with fail
      have k0 := heap_old (o := .cells #[.bool false, .slice A (digitsRes (a :: [])).length c] 25) (cells_set (cells_set HK.out 0 (.bool false)) 1 (.slice A (digitsRes (a :: [])).length c))
      have d0 := num_cell0 k0
      have d1 := num_cell1 k0
      exact bodyPost_ret (v := .tuple #[.agg #[.bool false, .slice A (digitsRes (a :: [])).length c], .bool true]) (by simp [results, Tryz.results40, go_sem, d0, d1]) rfl
        ⟨.agg #[.bool false, .slice A (digitsRes (a :: [])).length c], by rw [HY.out.1], ⟨A, c, by rw [HY.out.2.1, HY.out.2.2], by rw [HY.out.2.1]; exact hc1, hc2, by rw [HY.out.2.1]; exact (rd_set2 HK.out HR.out).below ((Below.refl _ _).alloc (Nat.le_refl _) _)⟩,
          below_set2 hb0 _ _ _⟩
  | a :: b :: t, hs, hbl =>
    have hl0 : decide ((1 : Int) < (t.length : Int) + 1 + 1) = true := decide_eq_true (by omega)
    by_cases ha : a = 45
    · subst ha
      have hB : readBody (45 :: b :: t) = b :: t := by simp [readBody]
      have hG : readNeg (45 :: b :: t) = true := by simp [readNeg]
      have hlen : (b :: t).length ≤ 140737488355328 := by rw [← hB]; exact Nat.le_trans hbl hs
      have HB := Lib.hid hB
      have HG := Lib.hid hG
      clear hB hG
      go_enter Tryz.func40, Tryz.ntmps40
      go_wp2_with fail
      refine (digits_walk (b :: t) _ hlen).mono ?_
      rintro e w1 ⟨dv, rfl, ⟨A, c, rfl, hc1, hc2, hrd⟩, hb⟩
      have hk0 : w1.heap[w.heap.size]? = some (.cells #[.bool false, .slice none 0 0] 25 (0, 0)) := (hb.block _ (by rw [heap_size_alloc]; omega)).trans (heap_here _ _)
      have hb0 : Below w.heap.size w w1 := ((Below.refl _ _).alloc (Nat.le_refl _) _).trans (hb.mono (by rw [heap_size_alloc]; omega))
      have m0 := num_cell0 hk0
      have m1 := num_cell1 hk0
      have f0 := one_free hk0 0
      have f1 := one_free hk0 1
      have hlt0 := iter_lt hk0
      have HK := Lib.hid hk0
      have HR := Lib.hid hrd
      clear hk0 hrd hb
      cases hok : digitsOk (b :: t) with
      | false =>
        have HN : Hid (readOk (45 :: b :: t) = false) := by unfold Hid readOk; rw [HB.out, HG.out, hok]; simp
        go_wp2_with fail
        have k0 := heap_old (o := .cells #[.bool false, .slice A (digitsRes (b :: t)).length c] 25) (cells_set (cells_set HK.out 0 (.bool false)) 1 (.slice none 0 0))
        have d0 := num_cell0 k0
        have d1 := num_cell1 k0
        exact bodyPost_ret (v := .tuple #[.agg #[.bool false, .slice none 0 0], .bool false]) (by simp [results, Tryz.results40, go_sem, d0, d1]) rfl
          ⟨.agg #[.bool false, .slice none 0 0], by rw [HN.out], ⟨none, 0, by rw [(read_no HN.out).1, (read_no HN.out).2]; rfl, by rw [(read_no HN.out).1]; exact Nat.le_refl _, by decide, .inl (by rw [(read_no HN.out).1]; rfl)⟩,
            below_set2 hb0 _ _ _⟩
      | true =>
        by_cases hl : 1 < (b :: t).length
        · have hl1 : decide ((1 : Int) < (t.length : Int) + 1) = true := decide_eq_true (by have h9 : 1 < (b :: t).length := hl; simp only [List.length_cons] at h9; omega)
          by_cases h48 : b = 48
          · have h48b : ((b.toNat : Int) == 48) = true := by rw [h48]; rfl
            have HN : Hid (readOk (45 :: b :: t) = false) := by unfold Hid readOk; rw [HB.out, HG.out, hok]; simp [h48]
            clear h48
            go_wp2_with fail
            have k0 := heap_old (o := .cells #[.bool false, .slice A (digitsRes (b :: t)).length c] 25) (cells_set (cells_set HK.out 0 (.bool false)) 1 (.slice none 0 0))
            have d0 := num_cell0 k0
            have d1 := num_cell1 k0
            exact bodyPost_ret (v := .tuple #[.agg #[.bool false, .slice none 0 0], .bool false]) (by simp [results, Tryz.results40, go_sem, d0, d1]) rfl
              ⟨.agg #[.bool false, .slice none 0 0], by rw [HN.out], ⟨none, 0, by rw [(read_no HN.out).1, (read_no HN.out).2]; rfl, by rw [(read_no HN.out).1]; exact Nat.le_refl _, by decide, .inl (by rw [(read_no HN.out).1]; rfl)⟩,
                below_set2 hb0 _ _ _⟩
          · have h48b : ((b.toNat : Int) == 48) = false := beq_eq_false_iff_ne.2 (fun k => h48 (nought_of k))
            have hne : ((b :: t) == [48]) = false := by
              have h9 : ¬ (b :: t) = [48] := fun e => h48 (List.cons.inj e).1
              exact beq_eq_false_iff_ne.2 h9
            have HY : Hid (readOk (45 :: b :: t) = true ∧ readDs (45 :: b :: t) = digitsRes (b :: t) ∧ readSign (45 :: b :: t) = true) := by
              have h0 : readOk (45 :: b :: t) = true := by unfold readOk; rw [HB.out, HG.out, hok, hne]; simp [h48]
              unfold Hid readDs readSign
              rw [h0, HB.out, HG.out]
              exact ⟨rfl, rfl, rfl⟩
            go_wp2_with fail
            have k0 := heap_old (o := .cells #[.bool true, .slice A (digitsRes (b :: t)).length c] 25) (cells_set (cells_set HK.out 0 (.bool true)) 1 (.slice A (digitsRes (b :: t)).length c))
            have d0 := num_cell0 k0
            have d1 := num_cell1 k0
            exact bodyPost_ret (v := .tuple #[.agg #[.bool true, .slice A (digitsRes (b :: t)).length c], .bool true]) (by simp [results, Tryz.results40, go_sem, d0, d1]) rfl
              ⟨.agg #[.bool true, .slice A (digitsRes (b :: t)).length c], by rw [HY.out.1], ⟨A, c, by rw [HY.out.2.1, HY.out.2.2], by rw [HY.out.2.1]; exact hc1, hc2, by rw [HY.out.2.1]; exact (rd_set2 HK.out HR.out).below ((Below.refl _ _).alloc (Nat.le_refl _) _)⟩,
                below_set2 hb0 _ _ _⟩
        · have hl9 : ¬ 1 < t.length + 1 := hl
          have hl1 : decide ((1 : Int) < (t.length : Int) + 1) = false := decide_eq_false (by omega)
          by_cases h48 : b = 48
          · have htn : t = [] := List.length_eq_zero_iff.1 (by omega)
            have hne : ((b :: t) == [48]) = true := by rw [h48, htn]; rfl
            have HN : Hid (readOk (45 :: b :: t) = false) := by unfold Hid readOk; rw [HB.out, HG.out, hok, hne]; simp
            clear htn h48
            go_wp2_with fail
            have k0 := heap_old (o := .cells #[.bool false, .slice A (digitsRes (b :: t)).length c] 25) (cells_set (cells_set HK.out 0 (.bool false)) 1 (.slice none 0 0))
            have d0 := num_cell0 k0
            have d1 := num_cell1 k0
            exact bodyPost_ret (v := .tuple #[.agg #[.bool false, .slice none 0 0], .bool false]) (by simp [results, Tryz.results40, go_sem, d0, d1]) rfl
              ⟨.agg #[.bool false, .slice none 0 0], by rw [HN.out], ⟨none, 0, by rw [(read_no HN.out).1, (read_no HN.out).2]; rfl, by rw [(read_no HN.out).1]; exact Nat.le_refl _, by decide, .inl (by rw [(read_no HN.out).1]; rfl)⟩,
                below_set2 hb0 _ _ _⟩
          · have hne : ((b :: t) == [48]) = false := by
              have h9 : ¬ (b :: t) = [48] := fun e => h48 (List.cons.inj e).1
              exact beq_eq_false_iff_ne.2 h9
            have HY : Hid (readOk (45 :: b :: t) = true ∧ readDs (45 :: b :: t) = digitsRes (b :: t) ∧ readSign (45 :: b :: t) = true) := by
              have h0 : readOk (45 :: b :: t) = true := by unfold readOk; rw [HB.out, HG.out, hok, hne]; simp [h48]
              unfold Hid readDs readSign
              rw [h0, HB.out, HG.out]
              exact ⟨rfl, rfl, rfl⟩
            go_wp2_with fail
            have k0 := heap_old (o := .cells #[.bool true, .slice A (digitsRes (b :: t)).length c] 25) (cells_set (cells_set HK.out 0 (.bool true)) 1 (.slice A (digitsRes (b :: t)).length c))
            have d0 := num_cell0 k0
            have d1 := num_cell1 k0
            exact bodyPost_ret (v := .tuple #[.agg #[.bool true, .slice A (digitsRes (b :: t)).length c], .bool true]) (by simp [results, Tryz.results40, go_sem, d0, d1]) rfl
              ⟨.agg #[.bool true, .slice A (digitsRes (b :: t)).length c], by rw [HY.out.1], ⟨A, c, by rw [HY.out.2.1, HY.out.2.2], by rw [HY.out.2.1]; exact hc1, hc2, by rw [HY.out.2.1]; exact (rd_set2 HK.out HR.out).below ((Below.refl _ _).alloc (Nat.le_refl _) _)⟩,
                below_set2 hb0 _ _ _⟩
    · have hab : ((a.toNat : Int) == 45) = false := by
        have : ¬ ((a.toNat : Int) = 45) := fun k => ha (UInt8.toNat_inj.1 (show a.toNat = 45 by omega))
        exact beq_eq_false_iff_ne.2 this
      have hB : readBody (a :: b :: t) = a :: b :: t := by simp [readBody, ha]
      have hG : readNeg (a :: b :: t) = false := by simp [readNeg, ha]
      have hlen : (a :: b :: t).length ≤ 140737488355328 := by rw [← hB]; exact Nat.le_trans hbl hs
      have HB := Lib.hid hB
      have HG := Lib.hid hG
      clear hB hG
      go_enter Tryz.func40, Tryz.ntmps40
      go_wp2_with fail
      refine (digits_walk (a :: b :: t) _ hlen).mono ?_
      rintro e w1 ⟨dv, rfl, ⟨A, c, rfl, hc1, hc2, hrd⟩, hb⟩
      have hk0 : w1.heap[w.heap.size]? = some (.cells #[.bool false, .slice none 0 0] 25 (0, 0)) := (hb.block _ (by rw [heap_size_alloc]; omega)).trans (heap_here _ _)
      have hb0 : Below w.heap.size w w1 := ((Below.refl _ _).alloc (Nat.le_refl _) _).trans (hb.mono (by rw [heap_size_alloc]; omega))
      have m0 := num_cell0 hk0
      have m1 := num_cell1 hk0
      have f0 := one_free hk0 0
      have f1 := one_free hk0 1
      have hlt0 := iter_lt hk0
      have HK := Lib.hid hk0
      have HR := Lib.hid hrd
      clear hk0 hrd hb
      cases hok : digitsOk (a :: b :: t) with
      | false =>
        have HN : Hid (readOk (a :: b :: t) = false) := by unfold Hid readOk; rw [HB.out, HG.out, hok]; simp
        go_wp2_with fail
        have k0 := heap_old (o := .cells #[.bool false, .slice A (digitsRes (a :: b :: t)).length c] 25) (cells_set (cells_set HK.out 0 (.bool false)) 1 (.slice none 0 0))
        have d0 := num_cell0 k0
        have d1 := num_cell1 k0
        exact bodyPost_ret (v := .tuple #[.agg #[.bool false, .slice none 0 0], .bool false]) (by simp [results, Tryz.results40, go_sem, d0, d1]) rfl
          ⟨.agg #[.bool false, .slice none 0 0], by rw [HN.out], ⟨none, 0, by rw [(read_no HN.out).1, (read_no HN.out).2]; rfl, by rw [(read_no HN.out).1]; exact Nat.le_refl _, by decide, .inl (by rw [(read_no HN.out).1]; rfl)⟩,
            below_set2 hb0 _ _ _⟩
      | true =>
        have hl : 1 < (a :: b :: t).length := by simp
        have hl1 : decide ((1 : Int) < (t.length : Int) + 1 + 1) = true := decide_eq_true (by have h9 : 1 < (a :: b :: t).length := hl; simp only [List.length_cons] at h9; omega)
        by_cases h48 : a = 48
        · have h48b : ((a.toNat : Int) == 48) = true := by rw [h48]; rfl
          have HN : Hid (readOk (a :: b :: t) = false) := by unfold Hid readOk; rw [HB.out, HG.out, hok]; simp [h48]
          clear h48
          go_wp2_with fail
          have k0 := heap_old (o := .cells #[.bool false, .slice A (digitsRes (a :: b :: t)).length c] 25) (cells_set (cells_set HK.out 0 (.bool false)) 1 (.slice none 0 0))
          have d0 := num_cell0 k0
          have d1 := num_cell1 k0
          exact bodyPost_ret (v := .tuple #[.agg #[.bool false, .slice none 0 0], .bool false]) (by simp [results, Tryz.results40, go_sem, d0, d1]) rfl
            ⟨.agg #[.bool false, .slice none 0 0], by rw [HN.out], ⟨none, 0, by rw [(read_no HN.out).1, (read_no HN.out).2]; rfl, by rw [(read_no HN.out).1]; exact Nat.le_refl _, by decide, .inl (by rw [(read_no HN.out).1]; rfl)⟩,
              below_set2 hb0 _ _ _⟩
        · have h48b : ((a.toNat : Int) == 48) = false := beq_eq_false_iff_ne.2 (fun k => h48 (nought_of k))
          have hne : ((a :: b :: t) == [48]) = false := by
            have h9 : ¬ (a :: b :: t) = [48] := fun e => h48 (List.cons.inj e).1
            exact beq_eq_false_iff_ne.2 h9
          have HY : Hid (readOk (a :: b :: t) = true ∧ readDs (a :: b :: t) = digitsRes (a :: b :: t) ∧ readSign (a :: b :: t) = false) := by
            have h0 : readOk (a :: b :: t) = true := by unfold readOk; rw [HB.out, HG.out, hok, hne]; simp [h48]
            unfold Hid readDs readSign
            rw [h0, HB.out, HG.out]
            exact ⟨rfl, rfl, rfl⟩
          go_wp2_with fail
          have k0 := heap_old (o := .cells #[.bool false, .slice A (digitsRes (a :: b :: t)).length c] 25) (cells_set (cells_set HK.out 0 (.bool false)) 1 (.slice A (digitsRes (a :: b :: t)).length c))
          have d0 := num_cell0 k0
          have d1 := num_cell1 k0
          exact bodyPost_ret (v := .tuple #[.agg #[.bool false, .slice A (digitsRes (a :: b :: t)).length c], .bool true]) (by simp [results, Tryz.results40, go_sem, d0, d1]) rfl
            ⟨.agg #[.bool false, .slice A (digitsRes (a :: b :: t)).length c], by rw [HY.out.1], ⟨A, c, by rw [HY.out.2.1, HY.out.2.2], by rw [HY.out.2.1]; exact hc1, hc2, by rw [HY.out.2.1]; exact (rd_set2 HK.out HR.out).below ((Below.refl _ _).alloc (Nat.le_refl _) _)⟩,
              below_set2 hb0 _ _ _⟩
end Go.Proofs.YtapfolgiafnllaaGreatDoor

namespace Go.Proofs.YtapfolgiafnllaaGreatDoor
open Go.RowKit
attribute [local simp] S_extract S_append

/-- Decimal digits, the lowest one first. -/
def dec10 (n : Nat) : List Nat := if h : n = 0 then [] else n % 10 :: dec10 (n / 10)
termination_by n
decreasing_by omega
theorem dec10_zero : dec10 0 = [] := by unfold dec10; rfl
theorem dec10_pos {n : Nat} (h : n ≠ 0) : dec10 n = n % 10 :: dec10 (n / 10) := by
  conv => lhs; unfold dec10
  rw [dif_neg h]

theorem dec10_length : ∀ (k n : Nat), n < 10 ^ k → (dec10 n).length ≤ k
  | 0, n, h => by
    have : n = 0 := by simpa using h
    subst this
    rw [dec10_zero]
    simp
  | k + 1, n, h => by
    by_cases h0 : n = 0
    · subst h0
      rw [dec10_zero]
      simp
    · rw [dec10_pos h0, List.length_cons]
      have := dec10_length k (n / 10) (by rw [Nat.pow_succ] at h; omega)
      omega

def OfRel (n : Nat) (w : World) (u d : Value) (wr : World) : Prop :=
  ∃ (m : Nat) (ds : List Nat), u = .int .u64 m ∧ m ≤ n ∧ dec10 n = ds ++ dec10 m ∧ wr.ownsRow (w.heap.size + 1) 5 1 d ds.length (u8s ds) ∧ Below w.heap.size w wr ∧
    wr.heap[w.heap.size]? = some (.cells #[.bool false, .slice none 0 0] 25 (0, 0))
def natOf : Value → Nat | .int _ n => n.toNat | _ => 0

set_option maxRecDepth 100000 in
set_option maxHeartbeats 1000000 in
theorem ofUint_walk (n : Nat) (w : World) (hn : n < 18446744073709551616) :
    Calls Tryz.prog 7 #[.int .u64 n] w (NumPost w false (dec10 n)) := by
  obtain ⟨i0, hi, hz0, hz1, hz2⟩ := info_parts infoByte
  go_enter Tryz.func7, Tryz.ntmps7
  go_wp2_with fail
  go_loopw [0, 3] (fun u d wr => OfRel n w u d wr) (fun u _ _ => natOf u)
  case atStart => exact ⟨n, [], rfl, Nat.le_refl _, by simp, World.ownsRow_nil _ _ _ _, (Below.refl _ _).alloc (Nat.le_refl _) _, heap_here _ _⟩
  case round =>
    obtain ⟨m, ds, rfl, hm, hd, hown, hb, hk⟩ := hrel
    have hdl : ds.length ≤ 20 := by
      have h1 := dec10_length 20 n (by omega)
      rw [hd, List.length_append] at h1
      omega
    have HD := Lib.hid hd
    have HK := Lib.hid hk
    clear hd hk
    by_cases h0 : m = 0
    · subst h0
      have hds : dec10 n = ds := by rw [HD.out, dec10_zero, List.append_nil]
      obtain ⟨A, c, rfl, hc1, hc2, hrd⟩ := own_rd hown (u8s_length ds)
      have c0 := num_cell0 HK.out
      have c1 := num_cell1 HK.out
      have f0 := one_free HK.out 0
      have f1 := one_free HK.out 1
      have HDS := Lib.hid hds
      have HRD := Lib.hid hrd
      clear hds hrd hown
      go_wp2_with fail
      have k0 := cells_set (cells_set HK.out 0 (.bool false)) 1 (.slice A ds.length c)
      have d0 := num_cell0 k0
      have d1 := num_cell1 k0
      exact bodyPost_ret (v := .agg #[.bool false, .slice A ds.length c]) (by simp [results, Tryz.results7, go_sem, d0, d1]) rfl
        ⟨.agg #[.bool false, .slice A ds.length c], rfl, ⟨A, c, by rw [HDS.out], by rw [HDS.out]; exact hc1, hc2, by rw [HDS.out]; exact rd_set2 HK.out HRD.out⟩,
          (hb.setCell (p := ⟨w.heap.size, 0, none⟩) (Nat.le_refl _) _).setCell (p := ⟨w.heap.size, 1, none⟩) (Nat.le_refl _) _⟩
    · have h0' : (0 : Int) < (m : Int) := by omega
      have hm64 : (m : Int) ≤ 18446744073709551615 := by omega
      have hstep : dec10 n = (ds ++ [m % 10]) ++ dec10 (m / 10) := by rw [HD.out, dec10_pos h0]; simp
      have HS := Lib.hid hstep
      clear hstep
      go_wp2_with (at_builtin; refine wpList_append_own _ rfl _ _ 23 rfl (w.heap.size + 1) 5 i0 (.int .u8 0) 1 1 Tryz.underlying23 hi hz0 hz1 hz2 rfl (by decide) _ _ _ rfl (hown.alloc _) ⟨wr.heap.size, 0, none⟩ 1 1 [.int .u8 ((m : Int) % 10)] rfl rfl ?c1 ?c2 ?c3 ?c4 ?c5 ?_)
      case c1 => exact one_new _ _ _
      case c2 => intro u hu; simp at hu; subst hu; rfl
      case c3 => unfold maxLen; omega
      case c4 => omega
      case c5 => have := hb.size; have := iter_lt HK.out; simp; omega
      intro v' w2 hown' hgrow _
      have hk2 : w2.heap[w.heap.size]? = some (.cells #[.bool false, .slice none 0 0] 25 (0, 0)) := by
        rw [hgrow.block _ (by have := iter_lt HK.out; rw [heap_size_alloc]; omega) (fun e => by have := (hown.lt _ e.symm).1; omega), Below.heap_alloc _ _ _ (iter_lt HK.out)]
        exact HK.out
      have HK2 := Lib.hid hk2
      clear hk2
      go_wp2_with fail
      refine ⟨⟨m / 10, ds ++ [m % 10], by go_num, by omega, HS.out, ?_, (hb.alloc hb.size _).grown hgrow (by have := hb.size; rw [heap_size_alloc]; omega) (fun k hk => by have := (hown.lt k hk).1; omega), HK2.out⟩, ?_⟩
      · rw [u8s_append, List.length_append]
        exact hown'
      · simp [natOf]
        omega

/-- The decimal text of a number. -/
def signText (neg : Bool) : List UInt8 := if neg = true then [45] else []
def numText (neg : Bool) (ds : List Nat) : List UInt8 :=
  if ds = [] then [48] else signText neg ++ ds.reverse.map fun d => UInt8.ofNat (48 + d)

set_option maxRecDepth 100000 in
theorem conv_bytes {w : World} {base n : Nat} {v : Value} {l : List UInt8} (h : w.ownsRow base 5 1 v n (Lib.byteCells l)) :
    (convert 23 9 v).run Tryz.prog w = .ok (.string (S l)) w := by
  have hl : l.length = n := by have := h.1; rw [Lib.byteCells_length] at this; omega
  rcases h.2 with ⟨rfl, rfl⟩ | ⟨g, cap, cur, rfl, _⟩
  · obtain rfl : l = [] := List.eq_nil_of_length_eq_zero hl
    exact run_convert_bytes_nil w _ _ Tryz.underlying23 Tryz.underlying5 0 0 _ Tryz.underlying9
  · have := run_convert_bytes_arg (P := Tryz.prog) w 23 5 Tryz.underlying23 Tryz.underlying5 g 0 n cap (l.map fun b => (b.toNat : Int)) (by simpa using hl) (fun i hi => ?_) 9 Tryz.underlying9
    · rw [this]
      congr 2
      unfold strOfNums S
      congr 2
      rw [List.map_map]
      conv => rhs; rw [← List.map_id l]
      apply List.map_congr_left
      intro b _
      simp
    · have hc := h.cells (g := g) rfl i (.int .u8 ((l.map fun b => (b.toNat : Int)).getD i 0)) (by
        have hi2 : i < l.length := by omega
        simp [Lib.byteCells, List.getElem?_eq_getElem hi2, List.getD_eq_getElem?_getD])
      have ha : (⟨g, 0, none⟩ : Addr).add i = ⟨g, 0 + i, none⟩ := by unfold Addr.add; split <;> simp_all
      rwa [ha] at hc

/-- The first k characters of a number's text. -/
def chars (neg : Bool) (ds : List Nat) (k : Nat) : List UInt8 := signText neg ++ (ds.reverse.take k).map fun d => UInt8.ofNat (48 + d)
def TextRel (neg : Bool) (ds : List Nat) (A : Option Addr) (c : Nat) (w : World) (s i : Value) (wr : World) : Prop :=
  ∃ k : Nat, i = .int .i64 ((ds.length : Int) - 1 - k) ∧ k ≤ ds.length ∧ wr.ownsRow (w.heap.size + 1) 5 1 s (chars neg ds k).length (Lib.byteCells (chars neg ds k)) ∧ Below w.heap.size w wr ∧
    wr.heap[w.heap.size]? = some (.cells #[.bool neg, .slice A ds.length c] 25 (0, 0))

set_option maxRecDepth 100000 in
set_option maxHeartbeats 1000000 in
theorem text_walk (v : Value) (neg : Bool) (ds : List Nat) (w : World) (hv : NumIs w v neg ds) (hd : ∀ d ∈ ds, d < 10) (hl : ds.length ≤ 1000000) :
    Calls Tryz.prog 10 #[v] w fun e w' => e = .returned (.string (S (numText neg ds))) ∧ Below w.heap.size w w' := by
  obtain ⟨i0, hi, hz0, hz1, hz2⟩ := info_parts infoByte
  obtain ⟨A, c, rfl, hc, hm, hr⟩ := hv
  by_cases h0 : ds = []
  · subst h0
    go_enter Tryz.func10, Tryz.ntmps10
    go_wp2_with fail
    go_ret
    exact ⟨rfl, (Below.refl _ _).alloc (Nat.le_refl _) _⟩
  · have h0' : 0 < ds.length := by cases ds with | nil => exact absurd rfl h0 | cons a b => simp
    have hlen : ((ds.length : Int) == 0) = false := beq_eq_false_iff_ne.2 (by omega)
    have HR := Lib.hid hr
    have HD := Lib.hid hd
    clear hr hd
    go_enter Tryz.func10, Tryz.ntmps10
    go_upto_if 10 with fail
    go_cut [3] (fun v wx => wx.ownsRow (w.heap.size + 1) 5 1 v (signText neg).length (Lib.byteCells (signText neg)) ∧ Below w.heap.size w wx ∧ wx.heap[w.heap.size]? = some (.cells #[.bool neg, .slice A ds.length c] 25 (0, 0)))
    case first =>
      have hk := heap_here w (.cells #[.bool neg, .slice A ds.length c] 25)
      have HK := Lib.hid hk
      clear hk
      cases neg with
      | false =>
        go_wp2_with fail
        go_meet
        exact ⟨World.ownsRow_nil _ _ _ _, (Below.refl _ _).alloc (Nat.le_refl _) _, HK.out⟩
      | true =>
        go_wp2_with (at_builtin; refine wpList_append_own _ rfl _ _ 23 rfl (w.heap.size + 1) 5 i0 (.int .u8 0) 1 1 Tryz.underlying23 hi hz0 hz1 hz2 rfl (by decide) _ _ _ rfl (World.ownsRow_nil _ _ _ _) ⟨w.heap.size + 1, 0, none⟩ 1 1 [.int .u8 45] rfl rfl ?c1 ?c2 ?c3 ?c4 ?c5 ?_)
        case c1 => have := one_new (w.alloc (.cells #[.bool true, .slice A ds.length c] 25)) (.int .u8 45) 5; rw [heap_size_alloc] at this; exact this
        case c2 => intro u hu; simp at hu; subst hu; rfl
        case c3 => unfold maxLen; omega
        case c4 => omega
        case c5 => simp
        intro v' w2 hown' hgrow _
        go_wp2_with fail
        go_meet
        refine ⟨hown', (((Below.refl _ _).alloc (Nat.le_refl _) _).alloc (by rw [heap_size_alloc]; omega) _).grown hgrow (by simp only [heap_size_alloc]; omega) (fun k hk => by simp [Value.ownBlock] at hk), ?_⟩
        rw [hgrow.block _ (by simp only [heap_size_alloc]; omega) (by simp [Value.ownBlock]), Below.heap_alloc _ _ _ (by rw [heap_size_alloc]; omega)]
        exact HK.out
    case rest =>
      obtain ⟨hown, hb, hk⟩ := hcut
      have hlen3 : (signText neg).length ≤ 1 := by unfold signText; split <;> simp
      have HK := Lib.hid hk
      have c0 := num_cell0 hk
      have c1 := num_cell1 hk
      clear hk
      go_wp2_with fail
      have HW := Lib.hid hown
      clear hown c0 c1
      go_loopw [3, 4] (fun s i wr => TextRel neg ds A c w s i wr) (fun _ i _ => (intOf i + 1).toNat)
      case atStart => exact ⟨0, by simp, Nat.zero_le _, by simpa [chars] using HW.out, hb, HK.out⟩
      case round =>
        obtain ⟨k, rfl, hk, hown, hbr, hkr⟩ := hrel
        have c0 := num_cell0 hkr
        have c1 := num_cell1 hkr
        have HK2 := Lib.hid hkr
        clear hkr HW HK
        by_cases hlt : k < ds.length
        · obtain ⟨m, hm0, hm1, hm2⟩ : ∃ m : Nat, (ds.length : Int) - 1 - k = m ∧ m < ds.length ∧ m + k + 1 = ds.length := ⟨ds.length - k - 1, by omega, by omega, by omega⟩
          obtain ⟨d, hd⟩ : ∃ d, ds[m]'hm1 = d := ⟨_, rfl⟩
          have hd10 : d < 10 := HD.out d (by rw [← hd]; exact List.getElem_mem _)
          have hcell : ∃ x, A = some x ∧ wr.cell? (x.add m) = some (.int .u8 d) := by
            rcases HR.out.below hbr with h | ⟨x, rfl, h⟩
            · have := congrArg List.length h
              rw [u8s_length, List.length_nil] at this
              omega
            · exact ⟨x, rfl, h m _ (by simp [u8s, List.getElem?_eq_getElem hm1, hd])⟩
          obtain ⟨x, rfl, hcell⟩ := hcell
          have hsnoc : chars neg ds (k + 1) = chars neg ds k ++ [UInt8.ofNat (48 + d)] := by
            unfold chars
            have hk3 : k < ds.reverse.length := by simpa using hlt
            rw [List.take_succ_eq_append_getElem hk3, List.map_append, List.append_assoc]
            congr 2
            have : ds.reverse[k]'hk3 = d := by
              rw [List.getElem_reverse, ← hd]
              congr 1
              omega
            simp [this]
          have hchl : (chars neg ds k).length ≤ 1000001 := by
            unfold chars
            simp
            omega
          have hd0 : (0 : Int) ≤ (d : Int) := by omega
          have hd1 : (d : Int) < 10 := by omega
          have hm3 : (0 : Int) ≤ (m : Int) := by omega
          have hm4 : (m : Int) < (ds.length : Int) := by omega
          have HSN := Lib.hid hsnoc
          have HD3 := Lib.hid hd
          have HM0 := Lib.hid hm0
          rw [hm0]
          clear hsnoc hd hm0 HR HD
          go_wp2_with (at_builtin; refine wpList_append_own _ rfl _ _ 23 rfl (w.heap.size + 1) 5 i0 (.int .u8 0) 1 1 Tryz.underlying23 hi hz0 hz1 hz2 rfl (by decide) _ _ _ rfl (hown.alloc _) ⟨wr.heap.size, 0, none⟩ 1 1 [.int .u8 (48 + (d : Int))] rfl rfl ?c1 ?c2 ?c3 ?c4 ?c5 ?_)
          case c1 => exact one_new _ _ _
          case c2 => intro u hu; simp at hu; subst hu; rfl
          case c3 => unfold maxLen; omega
          case c4 => omega
          case c5 => have := hbr.size; have := iter_lt HK2.out; simp; omega
          intro v' w2 hown' hgrow _
          have hk2 : w2.heap[w.heap.size]? = some (.cells #[.bool neg, .slice (some x) ds.length c] 25 (0, 0)) := by
            rw [hgrow.block _ (by have := iter_lt HK2.out; rw [heap_size_alloc]; omega) (fun e => by have := (hown.lt _ e.symm).1; omega), Below.heap_alloc _ _ _ (iter_lt HK2.out)]
            exact HK2.out
          have HK3 := Lib.hid hk2
          clear hk2
          go_wp2_with fail
          refine ⟨⟨k + 1, by rw [show (ds.length : Int) - 1 - ((k + 1 : Nat) : Int) = (m : Int) - 1 from by omega], by omega, ?_, (hbr.alloc hbr.size _).grown hgrow (by have := hbr.size; rw [heap_size_alloc]; omega) (fun k hk => by have := (hown.lt k hk).1; omega), HK3.out⟩, ?_⟩
          · rw [HSN.out, Lib.byteCells_append, List.length_append]
            have e4 : Lib.byteCells [UInt8.ofNat (48 + d)] = [Value.int .u8 (48 + (d : Int))] := by
              simp [Lib.byteCells]
              omega
            rw [e4]
            exact hown'
          · simp [intOf]
        · have hkl : k = ds.length := by omega
          subst hkl
          have hfin : numText neg ds = chars neg ds ds.length := by
            unfold numText chars
            rw [if_neg h0, List.take_of_length_le (by simp)]
          have hneg : ((ds.length : Int) - 1 - (ds.length : Int)) = -1 := by omega
          have hconv := conv_bytes hown
          have HF := Lib.hid hfin
          rw [hneg]
          clear hfin hneg
          go_wp2_with fail
          go_ret
          rw [HF.out]
          exact ⟨rfl, hbr⟩
end Go.Proofs.YtapfolgiafnllaaGreatDoor

namespace Go.Proofs.YtapfolgiafnllaaGreatDoor
open Go.RowKit

theorem S_lit (l : List UInt8) : (⟨l.toArray⟩ : ByteArray) = S l := rfl
theorem awake_int : fmtInt [49, 50, 51, 52, 53, 54, 55] = some [49, 39, 50, 51, 52, 39, 53, 54, 55] := by decide
theorem awake_dec : fmtDec [45, 49, 48, 48, 48, 46, 50, 53, 48, 48] = some [45, 49, 39, 48, 48, 48, 46, 50, 53] := by decide

theorem two_new (w : World) (a b : Int) (T : TypeId) : ∀ (j : Nat) (u : Value), ([a, b].map (fun x => Value.int .i64 x))[j]? = some u → (w.alloc (.cells #[.int .i64 a, .int .i64 b] T)).cell? ((⟨w.heap.size, 0, none⟩ : Addr).add j) = some u := by
  intro j u hu
  have hh := heap_here w (.cells #[.int .i64 a, .int .i64 b] T)
  match j, hu with
  | 0, hu => simp at hu; subst hu; show (w.alloc _).cell? ⟨w.heap.size, 0, none⟩ = _; simp only [World.cell?, hh]; rfl
  | 1, hu => simp at hu; subst hu; show (w.alloc _).cell? ⟨w.heap.size, 1, none⟩ = _; simp only [World.cell?, hh]; rfl
  | j + 2, hu => simp at hu

end Go.Proofs.YtapfolgiafnllaaGreatDoor
