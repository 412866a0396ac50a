/-
  cosmosmath.FormatInt: the text with its digits in groups, or an error.
-/
import Derived.Test.YtapfolgiafnllaaGreatDoorBuildZ
import Derived.Deep.DeepCutAuto
import Derived.Deep.CutBlock
namespace Go.Proofs.YtapfolgiafnllaaGreatDoor
open Go.RowKit

/-- Groups of three, a mark between. -/
def grp3 : List UInt8 → List UInt8
  | a :: b :: c :: r => if r = [] then [a, b, c] else a :: b :: c :: 39 :: grp3 r
  | l => l

def grouped (v : List UInt8) : List UInt8 :=
  if v.length ≤ 3 then v
  else if v.length % 3 = 0 then grp3 v
  else v.take (v.length % 3) ++ 39 :: grp3 (v.drop (v.length % 3))

def signOf (s : List UInt8) : List UInt8 := if s.head? = some 45 then [45] else []
def bodyOf (s : List UInt8) : List UInt8 := if s.head? = some 45 then s.tail else s
def cutOf (v : List UInt8) : List UInt8 := if 1 < v.length then v.dropWhile (· == 48) else v
def fmtInt (s : List UInt8) : Option (List UInt8) :=
  if s = [] then none
  else if !(cutOf (bodyOf s)).isEmpty && allDig (cutOf (bodyOf s)) then some (signOf s ++ grouped (cutOf (bodyOf s))) else none

/-- What FormatInt returns. -/
def FmtPost (o : Option (List UInt8)) (w : World) (e : Ending) (w' : World) : Prop :=
  (match o with
    | some l => e = .returned (.tuple #[.string (S l), .nilIface])
    | none => ∃ a, e = .returned (.tuple #[.string ⟨#[]⟩, .iface 117 (.pointer (some a))])) ∧ Below w.heap.size w w'

attribute [local simp] S_extract S_append

theorem bt {w w1 w2 : World} (h : Below w.heap.size w w1) (k : Below w1.heap.size w1 w2) : Below w.heap.size w w2 := h.trans (k.mono h.size)

theorem nought45 {u : UInt8} (h : ((u.toNat : Int) == 45) = true) : u = 45 := by
  apply UInt8.toNat_inj.1
  show u.toNat = 45
  have := eq_of_beq h
  omega

theorem grp3_length : ∀ (n : Nat) (v : List UInt8), v.length ≤ n → (grp3 v).length ≤ 2 * v.length := by
  intro n
  induction n with
  | zero => intro v h; cases v with | nil => simp [grp3] | cons a t => simp at h
  | succ n ih =>
    intro v h
    match v, h with
    | [], _ => simp [grp3]
    | [a], _ => simp [grp3]
    | [a, b], _ => simp [grp3]
    | a :: b :: c :: r, h =>
      have := ih r (by simp at h; omega)
      unfold grp3
      split
      · simp
        omega
      · simp
        omega
theorem grouped_length (v : List UInt8) : (grouped v).length ≤ 2 * v.length := by
  unfold grouped
  split
  · omega
  · split
    · exact grp3_length _ _ (Nat.le_refl _)
    · have := grp3_length _ (v.drop (v.length % 3)) (Nat.le_refl _)
      simp at *
      omega
theorem grp3_step (a b c : UInt8) (r : List UInt8) : grp3 (a :: b :: c :: r) = [a, b, c] ++ (if r = [] then [] else 39 :: grp3 r) := by
  conv => lhs; unfold grp3
  split <;> simp

end Go.Proofs.YtapfolgiafnllaaGreatDoor
