/-
  zzIndex and zzSplit at a point, zzTrimRight of noughts.
  cosmosmath.FormatDec: a decimal with its digits in groups, or an error.
  A world that has grown, some blocks written.
  impl.FormatInt and impl.FormatDec.
-/
import Derived.Test.YtapfolgiafnllaaGreatDoorFmtIntZ
import Derived.Deep.QuietTactic
import Derived.BigQuiet
namespace Go.Proofs.YtapfolgiafnllaaGreatDoor
open Go.RowKit
attribute [local simp] S_extract S_append

def hasDot (l : List UInt8) : Bool := l.any (· == 46)
def before (l : List UInt8) : List UInt8 := l.takeWhile (· != 46)
def after (l : List UInt8) : List UInt8 := (l.dropWhile (· != 46)).tail

def dotAt (l : List UInt8) : Int := if hasDot l = true then (before l).length else -1

theorem not_dot {a : List UInt8} (h : hasDot a = false) : ∀ x ∈ a, (x != 46) = true := by
  intro x hx
  simp only [hasDot, List.any_eq_false] at h
  simpa using h x hx
theorem before_app {a r : List UInt8} (h : hasDot a = false) : before (a ++ 46 :: r) = a := by
  unfold before
  rw [List.takeWhile_append_of_pos (not_dot h)]
  simp
theorem after_app {a r : List UInt8} (h : hasDot a = false) : after (a ++ 46 :: r) = r := by
  unfold after
  rw [List.dropWhile_append_of_pos (not_dot h)]
  simp
theorem has_app (a r : List UInt8) : hasDot (a ++ 46 :: r) = true := by simp [hasDot]
theorem dotAt_app {a r : List UInt8} (h : hasDot a = false) : dotAt (a ++ 46 :: r) = a.length := by
  unfold dotAt
  rw [if_pos (has_app a r), before_app h]
theorem dot_take {l : List UInt8} {k : Nat} (hlt : k < l.length) (hd : hasDot (l.take k) = false) (hc : l[k]'hlt = 46) : dotAt l = k := by
  have hl : l.take k ++ 46 :: l.drop (k + 1) = l := by
    conv => rhs; rw [← List.take_append_drop k l]
    rw [List.drop_eq_getElem_cons hlt, hc]
  have := dotAt_app (r := l.drop (k + 1)) hd
  rw [hl, List.length_take] at this
  rw [this]
  congr 1
  omega

/-- The parts between the points. -/
def parts (n : Nat) (l : List UInt8) : List (List UInt8) :=
  match n with
  | 0 => [l]
  | n + 1 => if hasDot l = true then before l :: parts n (after l) else [l]

theorem info9 : (Tryz.prog.info? 9).map (fun i => (i.zero, i.size, i.bytes)) = some (some (.string ⟨#[]⟩), 1, 16) := by kernel_rfl
def strs (xs : List (List UInt8)) : List Value := xs.map fun x => .string (S x)

def strLen : Value → Nat | .string s => s.size | _ => 0
theorem take_of_app {l a r : List UInt8} (h : l = a ++ 46 :: r) : l.take a.length = a := by subst h; simp
theorem drop_of_app {l a r : List UInt8} (h : l = a ++ 46 :: r) : l.drop (a.length + 1) = r := by subst h; simp
theorem split_dot {l : List UInt8} (h : hasDot l = true) : ∃ r, l = before l ++ 46 :: r ∧ after l = r ∧ dotAt l = (before l).length := by
  have hl := List.takeWhile_append_dropWhile (p := (· != 46)) (l := l)
  cases hd : l.dropWhile (· != 46) with
  | nil =>
    rw [hd, List.append_nil] at hl
    exfalso
    simp only [hasDot, List.any_eq_true] at h
    obtain ⟨x, hx, hx2⟩ := h
    rw [← hl] at hx
    have hall := List.all_takeWhile (p := fun (c : UInt8) => c != 46) (l := l)
    rw [List.all_eq_true] at hall
    have := hall x hx
    simp_all
  | cons c r =>
    have hc : c = 46 := by
      have := List.head_dropWhile_not (p := fun (c : UInt8) => c != 46) (l := l) (by rw [hd]; simp)
      simp only [hd, List.head_cons] at this
      simpa using this
    subst hc
    refine ⟨r, ?_, ?_, ?_⟩
    · rw [hd] at hl
      exact hl.symm
    · unfold after; rw [hd]; rfl
    · unfold dotAt; rw [if_pos h]

theorem one_new (w : World) (v : Value) (T : TypeId) : ∀ (j : Nat) (u : Value), [v][j]? = some u → (w.alloc (.cells #[v] T)).cell? ((⟨w.heap.size, 0, none⟩ : Addr).add j) = some u := by
  intro j u hu
  match j, hu with
  | 0, hu =>
    simp at hu
    subst hu
    have : (⟨w.heap.size, 0, none⟩ : Addr).add 0 = ⟨w.heap.size, 0, none⟩ := rfl
    rw [this]
    exact one_cell (heap_alloc_new w _)
  | j + 1, hu => simp at hu

theorem below_drewN {B : Nat} {w W : World} (h : Below B w W) (n : Nat) : Below B w (W.drewN n) := ⟨h.os, h.tape, h.output, h.size, h.block⟩

def rtrim (l : List UInt8) : List UInt8 := (l.reverse.dropWhile (· == 48)).reverse
theorem rtrim_snoc (l : List UInt8) (c : UInt8) : rtrim (l ++ [c]) = if c = 48 then rtrim l else l ++ [c] := by
  unfold rtrim
  rw [List.reverse_append]
  show ((c :: l.reverse).dropWhile (· == 48)).reverse = _
  by_cases h : c = 48
  · rw [if_pos h, List.dropWhile_cons_of_pos (by simpa using h)]
  · rw [if_neg h, List.dropWhile_cons_of_neg (by simpa using h)]
    simp

end Go.Proofs.YtapfolgiafnllaaGreatDoor

namespace Go.Proofs.YtapfolgiafnllaaGreatDoor
open Go.RowKit
attribute [local simp] S_extract S_append

/-- What stands behind the first point, without noughts at its end. -/
def fmtTail (ip d : List UInt8) : Option (List UInt8) :=
  if rtrim d = [] then some ip else if allDig (rtrim d) then some (ip ++ 46 :: rtrim d) else none
def fmtDec (l : List UInt8) : Option (List UInt8) :=
  if hasDot l = true then
    if hasDot (after l) = true then none
    else match fmtInt (before l) with
      | none => none
      | some ip => fmtTail ip (after l)
  else fmtInt l

theorem own_open {w : World} {base n : Nat} {e : TypeId} {v : Value} {xs : List Value} (h : w.ownsRow base e 1 v n xs) (hn : 0 < n) :
    ∃ g cap, v = .slice (some ⟨g, 0, none⟩) n cap ∧ n ≤ cap ∧ cap ≤ maxLen ∧ ∀ j u, xs[j]? = some u → w.cell? ⟨g, j, none⟩ = some u := by
  obtain ⟨hl, h1 | ⟨g, cap, cur, rfl, hb, hh, hc1, hc2, hc3, hc4⟩⟩ := h
  · omega
  · have ho : w.ownsRow base e 1 (.slice (some ⟨g, 0, none⟩) n cap) n xs := ⟨hl, .inr ⟨g, cap, cur, rfl, hb, hh, hc1, hc2, hc3, hc4⟩⟩
    refine ⟨g, cap, rfl, hc1, hc2, fun j u hu => ?_⟩
    have := ho.cells (g := g) rfl j u hu
    have e : (⟨g, 0, none⟩ : Addr).add j = ⟨g, j, none⟩ := by unfold Addr.add; split <;> simp_all
    rw [e] at this
    exact this

theorem parts_none {l : List UInt8} (n : Nat) (h : ¬ hasDot l = true) : parts n l = [l] := by
  cases n with
  | zero => rfl
  | succ n => unfold parts; rw [if_neg h]
theorem parts_some {l : List UInt8} (h : hasDot l = true) : parts l.length l = before l :: parts (l.length - 1) (after l) := by
  obtain ⟨r, h1, _⟩ := split_dot h
  have hl : l.length = (l.length - 1) + 1 := by rw [h1]; simp; omega
  rw [hl]
  conv => lhs; unfold parts
  rw [if_pos h]
  rfl
theorem parts_two {l : List UInt8} (h : hasDot l = true) (n : Nat) (hn : l.length ≤ n) : 2 ≤ (parts n l).length := by
  obtain ⟨r, h1, _⟩ := split_dot h
  have hl : 0 < l.length := by rw [h1]; simp; omega
  obtain ⟨m, rfl⟩ : ∃ m, n = m + 1 := ⟨n - 1, by omega⟩
  conv => rhs; unfold parts
  rw [if_pos h]
  cases m with
  | zero => simp [parts]
  | succ m => unfold parts; split <;> simp
theorem before_le (l : List UInt8) : (before l).length ≤ l.length := (List.takeWhile_sublist _).length_le
theorem after_lt {l : List UInt8} (h : hasDot l = true) : (after l).length ≤ l.length - 1 := by
  obtain ⟨r, h1, h2, _⟩ := split_dot h
  rw [h2, h1]
  simp
theorem fmt_length (l o : List UInt8) (h : fmtInt l = some o) : o.length ≤ 2 * l.length + 1 := by
  unfold fmtInt at h
  split at h
  · cases h
  · split at h
    · cases h
      have h1 := grouped_length (cutOf (bodyOf l))
      have h2 : (cutOf (bodyOf l)).length ≤ l.length := by
        have h3 : (bodyOf l).length ≤ l.length := by unfold bodyOf; split <;> simp
        refine Nat.le_trans ?_ h3
        unfold cutOf
        split
        · exact (List.dropWhile_sublist _).length_le
        · exact Nat.le_refl _
      have h4 : (signOf l).length ≤ 1 := by unfold signOf; split <;> simp
      simp
      omega
    · cases h

end Go.Proofs.YtapfolgiafnllaaGreatDoor

namespace Go.Proofs.YtapfolgiafnllaaGreatDoor
open Go.RowKit

/-- w' is w, grown; of the old blocks only those of D may have been written. -/
structure Ext (D : Nat → Prop) (w w' : World) : Prop where
  os : w'.os = w.os
  tape : w'.tape = w.tape
  output : w'.output = w.output
  size : w.heap.size ≤ w'.heap.size
  block : ∀ k, k < w.heap.size → ¬ D k → w'.heap[k]? = w.heap[k]?

theorem Ext.refl (D : Nat → Prop) (w : World) : Ext D w w := ⟨rfl, rfl, rfl, Nat.le_refl _, fun _ _ _ => rfl⟩
theorem Ext.trans {D : Nat → Prop} {a b c : World} (h : Ext D a b) (k : Ext D b c) : Ext D a c :=
  ⟨k.os.trans h.os, k.tape.trans h.tape, k.output.trans h.output, Nat.le_trans h.size k.size, fun i hi hd => (k.block i (Nat.lt_of_lt_of_le hi h.size) hd).trans (h.block i hi hd)⟩
theorem Ext.mono {D D' : Nat → Prop} {w w' : World} (h : Ext D w w') (hd : ∀ k, k < w.heap.size → D k → D' k) : Ext D' w w' :=
  ⟨h.os, h.tape, h.output, h.size, fun k hk hn => h.block k hk (fun x => hn (hd k hk x))⟩
theorem Ext.of_below {D : Nat → Prop} {w w' : World} (h : Below w.heap.size w w') : Ext D w w' := ⟨h.os, h.tape, h.output, h.size, fun k hk _ => h.block k hk⟩
/-- Below some number B, everything from B on being of D. -/
theorem Ext.of_below' {D : Nat → Prop} {B : Nat} {w w' : World} (h : Below B w w') (hd : ∀ k, k < w.heap.size → ¬ D k → k < B) : Ext D w w' := ⟨h.os, h.tape, h.output, h.size, fun k hk hn => h.block k (hd k hk hn)⟩
theorem Ext.below {D : Nat → Prop} {B : Nat} {w w' : World} (h : Ext D w w') (hB : B ≤ w.heap.size) (hd : ∀ k, D k → B ≤ k) : Below B w w' :=
  ⟨h.os, h.tape, h.output, h.size, fun k hk => h.block k (Nat.lt_of_lt_of_le hk hB) (fun x => by have := hd k x; omega)⟩
theorem Ext.then_below {D : Nat → Prop} {a b c : World} (h : Ext D a b) (k : Below b.heap.size b c) : Ext D a c := h.trans (Ext.of_below k)
/-- What comes behind may write D's blocks and new ones. -/
theorem Ext.trans' {D D' : Nat → Prop} {a b c : World} (h : Ext D a b) (k : Ext D' b c) (hd : ∀ i, i < a.heap.size → D' i → D i) : Ext D a c :=
  ⟨k.os.trans h.os, k.tape.trans h.tape, k.output.trans h.output, Nat.le_trans h.size k.size, fun i hi hn => (k.block i (Nat.lt_of_lt_of_le hi h.size) (fun x => hn (hd i hi x))).trans (h.block i hi hn)⟩
theorem Ext.setCell {D : Nat → Prop} {a w : World} (h : Ext D a w) {p : Addr} (hp : p.block < a.heap.size → D p.block) (u : Value) : Ext D a (w.setCell p u) :=
  ⟨h.os, h.tape, h.output, by simpa [World.setCell] using h.size, fun k hk hn => by
    rw [Below.heap_setCell _ _ _ _ (fun e => hn (by rw [e] at hk ⊢; exact hp hk))]
    exact h.block k hk hn⟩
theorem Ext.alloc {D : Nat → Prop} {a w : World} (h : Ext D a w) (o : Obj) : Ext D a (w.alloc o) := h.then_below ((Below.refl _ _).alloc (Nat.le_refl _) _)
theorem Ext.drewN {D : Nat → Prop} {a w : World} (h : Ext D a w) (n : Nat) : Ext D a (w.drewN n) := ⟨h.os, h.tape, h.output, h.size, h.block⟩
theorem Ext.drew {D : Nat → Prop} {a w : World} (h : Ext D a w) : Ext D a w.drew := ⟨h.os, h.tape, h.output, h.size, h.block⟩
theorem one_drew {w : World} {g : Nat} : (w.drew).heap[g]? = w.heap[g]? := rfl
theorem one_other {w : World} {g : Nat} {a : Addr} {u : Value} (h : g ≠ a.block) : (w.setCell a u).heap[g]? = w.heap[g]? := Below.heap_setCell _ _ _ _ h
theorem heap_size_alloc (w : World) (o : Obj) : (w.alloc o).heap.size = w.heap.size + 1 := by show (w.heap.push o).size = _; rw [Array.size_push]
theorem heap_get (w : World) (o : Obj) (k : Nat) : (w.alloc o).heap[k]? = if k = w.heap.size then some o else w.heap[k]? := by show (w.heap.push o)[k]? = _; rw [Array.getElem?_push]
theorem heap_here (w : World) (o : Obj) : (w.alloc o).heap[w.heap.size]? = some o := heap_alloc_new w o
theorem heap_old {w : World} {o : Obj} {k : Nat} {x : Obj} (h : w.heap[k]? = some x) : (w.alloc o).heap[k]? = some x := (Below.heap_alloc w o k (iter_lt h)).trans h

end Go.Proofs.YtapfolgiafnllaaGreatDoor

namespace Go.Proofs.YtapfolgiafnllaaGreatDoor
open Go.RowKit

end Go.Proofs.YtapfolgiafnllaaGreatDoor
