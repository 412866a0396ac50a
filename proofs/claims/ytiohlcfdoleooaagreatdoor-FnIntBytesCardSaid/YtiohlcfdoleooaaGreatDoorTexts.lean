/-
  The text functions that FormatInt and FormatDec lean on: zzInSet, zzTrimLeft, hasOnlyDigits, errors.New.
-/
import Derived.Test.YtiohlcfdoleooaaGreatDoorSafe
import Derived.Test.YtiohlcfdoleooaaGreatDoorStr
namespace Go.Proofs.YtiohlcfdoleooaaGreatDoor
open Go.RowKit

def setIter (W : World) (b : Nat) (s : ByteArray) (pos : Nat) : World := { W with heap := W.heap.setIfInBounds b (.stringIter s pos) }
theorem setIter_heap {W : World} {b : Nat} (h : b < W.heap.size) (s : ByteArray) (pos : Nat) : (setIter W b s pos).heap[b]? = some (.stringIter s pos) := by
  simp [setIter, h]
theorem setIter_below {B : Nat} {w W : World} (h : Below B w W) {b : Nat} (hb : B ≤ b) (s : ByteArray) (pos : Nat) : Below B w (setIter W b s pos) :=
  h.trans ⟨rfl, rfl, rfl, by simp [setIter], fun k hk => by simp only [setIter]; rw [Array.getElem?_setIfInBounds_ne (by omega)]⟩
theorem iter_lt {W : World} {b : Nat} {o : Obj} (h : W.heap[b]? = some o) : b < W.heap.size := (Array.getElem?_eq_some_iff.1 h).1

theorem next_at {P : Program} {W : World} {b : Nat} {s : ByteArray} {pos : Nat} (h : W.heap[b]? = some (.stringIter s pos)) (hp : pos < s.size) (ty : TypeId) :
    (Instr.next (.pointer (some ⟨b, 0, none⟩)) true ty).run P W =
      .ok (.tuple #[.bool true, .int .i64 pos, .int .i32 (Utf8.decode s pos).1]) (setIter W b s (pos + (Utf8.decode s pos).2)) := by
  simp only [Instr.next, getObj, setObj, Sem.run_bind, Sem.run, h, Result.andThen, hp, if_true, setIter]
  simp [goInt]
theorem next_end_at {P : Program} {W : World} {b : Nat} {s : ByteArray} {pos : Nat} (h : W.heap[b]? = some (.stringIter s pos)) (hp : ¬ pos < s.size) (ty : TypeId) :
    (Instr.next (.pointer (some ⟨b, 0, none⟩)) true ty).run P W = .ok (.tuple #[.bool false]) W := by
  simp [Instr.next, getObj, Sem.run, h, hp]

def noughtS : ByteArray := ⟨#[48]⟩

theorem nought_of {u : UInt8} (h : (u.toNat : Int) = 48) : u = 48 := by
  apply UInt8.toNat_inj.1
  show u.toNat = 48
  omega

/-- The rune at a place is '0' where the byte is. -/
theorem decode_nought {s : ByteArray} {p : Nat} (h : p < s.size) : ((((Utf8.decode s p).1 : Nat) : Int) == 48) = (s[p]'h == 48) := by
  by_cases ha : (s[p]'h).toNat < 128
  · rw [decode_ascii s p h ha]
    by_cases e : s[p]'h = 48
    · rw [e]; decide
    · have : ¬ ((s[p]'h).toNat : Int) = 48 := fun k => e (nought_of k)
      rw [beq_eq_false_iff_ne.2 e, beq_eq_false_iff_ne.2 this]
  · have hh := (decode_high s p h (by omega)).1
    have e : ¬ s[p]'h = 48 := by intro k; rw [k] at ha; exact ha (by decide)
    have : ¬ (((Utf8.decode s p).1 : Nat) : Int) = 48 := by omega
    rw [beq_eq_false_iff_ne.2 e, beq_eq_false_iff_ne.2 this]

def trimmed (s : ByteArray) : List UInt8 := s.data.toList.dropWhile (· == 48)

def allDig (l : List UInt8) : Bool := l.all fun c => 48 ≤ c && c ≤ 57

theorem dig_byte (u : UInt8) : (48 ≤ u && u ≤ 57) = (!(decide ((u.toNat : Int) < 48)) && !(decide (57 < (u.toNat : Int)))) := by
  rw [Bool.eq_iff_iff]
  simp [UInt8.le_iff_toNat_le]
  omega

theorem decode_high' {s : ByteArray} {p : Nat} (h : p < s.size) (hd : (48 ≤ (s[p]'h) && (s[p]'h) ≤ 57) = false) : ((((Utf8.decode s p).1 : Nat) : Int) < 48) ∨ (57 < (((Utf8.decode s p).1 : Nat) : Int)) := by
  by_cases ha : (s[p]'h).toNat < 128
  · rw [decode_ascii s p h ha]
    rw [dig_byte] at hd
    simp at hd
    show (((s[p]'h).toNat : Nat) : Int) < 48 ∨ 57 < (((s[p]'h).toNat : Nat) : Int)
    omega
  · have hh := (decode_high s p h (by omega)).1
    omega

/-- An error of a text: a new one. -/
def NewErr (w : World) (e : Ending) (w' : World) : Prop := ∃ a, e = .returned (.iface 145 (.pointer (some a))) ∧ Below w.heap.size w w'
set_option maxRecDepth 100000 in
theorem errorsNew_walk (s : ByteArray) (w : World) :
    Calls Tryz.prog 154 #[.string s] w (NewErr w) := by
  go_enter Tryz.func154, Tryz.ntmps154
  go_wp2
  go_ret
  exact ⟨_, rfl, (Below.refl _ _).alloc (Nat.le_refl _) _⟩
end Go.Proofs.YtiohlcfdoleooaaGreatDoor
