/-
  impl.safe: what it makes of a closure that returns, and of one that panics.
-/
import Derived.Test.YtapfolgiafnllaaGreatDoorRows
import Derived.WalkKit
import Derived.WalkSpells
import Derived.WalkLawsBesides
import Derived.Lib.Hide
import Derived.Test.YtapfolgiafnllaaGreatDoorStrZ
namespace Go.Proofs.YtapfolgiafnllaaGreatDoor
open Go.RowKit

theorem catch_idle (p : Addr) (b : Bool) (w : World) (hc : w.cell? p = some (.bool b)) (hz : w.frozen? p = false) :
    CallsD Tryz.prog 58 #[.pointer (some p)] .returning w fun e u' w' => e = .returned (.tuple #[]) ∧ u' = .returning ∧ w' = w.setCell p (.bool true) := by
  refine callsD_of_wpS Tryz.func58 rfl fun c₀ cs hu => ?_
  apply wpS_region
  simp [wpOpsS, go_sem, recoverD, hu, Tryz.ntmps58, hc, hz, bodyPostS, results, Tryz.results58]
  cases c₀
  simp_all

theorem catch_panicking (p : Addr) (b : Bool) (u : TypeId) (pv : Value) (older : List PanicEntry) (w : World) (hc : w.cell? p = some (.bool b)) (hz : w.frozen? p = false) :
    CallsD Tryz.prog 58 #[.pointer (some p)] (.panicking ({ v := .iface u pv, recovered := false } :: older)) w fun e u' w' =>
      e = .returned (.tuple #[]) ∧ u' = .panicking ({ v := .iface u pv, recovered := true } :: older) ∧ w' = w.setCell p (.bool false) := by
  refine callsD_of_wpS Tryz.func58 rfl fun c₀ cs hu => ?_
  apply wpS_region
  simp [wpOpsS, go_sem, recoverD, hu, Tryz.ntmps58, hc, hz, bodyPostS, results, Tryz.results58]

theorem one_cell {w : World} {g : Nat} {v : Value} {T : TypeId} (h : w.heap[g]? = some (.cells #[v] T (0, 0))) : w.cell? ⟨g, 0, none⟩ = some v := by simp [World.cell?, h]
theorem one_free {w : World} {g : Nat} {cs : Array Value} {T : TypeId} (h : w.heap[g]? = some (.cells cs T (0, 0))) (o : Nat) : w.frozen? ⟨g, o, none⟩ = false := by simp [World.frozen?, h]
theorem one_set {w : World} {g : Nat} {v u : Value} {T : TypeId} (h : w.heap[g]? = some (.cells #[v] T (0, 0))) : (w.setCell ⟨g, 0, none⟩ u).heap[g]? = some (.cells #[u] T (0, 0)) := by
  simp only [World.setCell, Array.getElem?_modify, h]
  simp

set_option maxRecDepth 100000 in
/-- The closure returns: safe returns true. -/
theorem safe_ret (k : FuncId) (caps : Array Value) (w : World) (Q : World → Prop)
    (hk : ∀ w, (callFunc k caps).run Tryz.prog w = .ok (.enter k caps) w)
    (h : Calls Tryz.prog k caps (w.alloc (.cells #[.bool false] 4)) fun e w' => e = .returned (.tuple #[]) ∧ w'.heap[w.heap.size]? = some (.cells #[.bool false] 4 (0, 0)) ∧ Q ((w'.setCell ⟨w.heap.size, 0, none⟩ (.bool true)).setCell ⟨w.heap.size, 0, none⟩ (.bool true))) :
    Calls Tryz.prog 27 #[.func (.func k) #[] caps] w fun e w' => e = .returned (.bool true) ∧ Q w' := by
  have hmf : ∀ (fn : Fn) (first cap : Array Value) (w : World), (Instr.makeFunc fn first cap).run Tryz.prog w = .ok (.func fn first cap) w := fun _ _ _ _ => rfl
  go_enter_defers Tryz.func27, Tryz.ntmps27
  go_wp2_with ((with_reducible refine h.mono ?_); rintro e w1 ⟨rfl, hb, hq⟩; have hc := one_cell hb; have hz := one_free hb 0; have HB := Lib.hid hb; clear hb)
  have hb2 := one_set (u := .bool true) HB.out
  refine leaves_cons (f := 58) (args := #[.pointer (some ⟨w.heap.size, 0, none⟩)]) (by simp) (by simp [go_sem]) ?_
  refine (catch_idle ⟨w.heap.size, 0, none⟩ true _ (one_cell hb2) (one_free hb2 0)).mono ?_
  rintro e u' w'' ⟨rfl, rfl, rfl⟩
  have hb3 := one_set (u := .bool true) hb2
  simp [Leaves, settle, results, Tryz.results27, go_sem, one_cell hb3, hq]

set_option maxRecDepth 100000 in
/-- The closure panics: safe returns false. -/
theorem safe_panics (k : FuncId) (caps : Array Value) (w : World) (Q : World → Prop)
    (hk : ∀ w, (callFunc k caps).run Tryz.prog w = .ok (.enter k caps) w)
    (h : Calls Tryz.prog k caps (w.alloc (.cells #[.bool false] 4)) fun e w' => ∃ t v, e = .panicked [{ v := .iface t v, recovered := false }] ∧ w'.heap[w.heap.size]? = some (.cells #[.bool false] 4 (0, 0)) ∧ Q (w'.setCell ⟨w.heap.size, 0, none⟩ (.bool false))) :
    Calls Tryz.prog 27 #[.func (.func k) #[] caps] w fun e w' => e = .returned (.bool false) ∧ Q w' := by
  have hmf : ∀ (fn : Fn) (first cap : Array Value) (w : World), (Instr.makeFunc fn first cap).run Tryz.prog w = .ok (.func fn first cap) w := fun _ _ _ _ => rfl
  go_enter_defers Tryz.func27, Tryz.ntmps27
  go_wp2_with ((with_reducible refine h.mono ?_); rintro e w1 ⟨t, v, rfl, hb, hq⟩; have HB := Lib.hid hb; clear hb)
  refine leaves_cons (f := 58) (args := #[.pointer (some ⟨w.heap.size, 0, none⟩)]) (by simp) (by simp [go_sem]) ?_
  refine (catch_panicking ⟨w.heap.size, 0, none⟩ false t v [] _ (one_cell HB.out) (one_free HB.out 0)).mono ?_
  rintro e u' w'' ⟨rfl, rfl, rfl⟩
  have hb3 := one_set (u := .bool false) HB.out
  simp [Leaves, settle, results, Tryz.results27, go_sem, one_cell hb3, hq]
end Go.Proofs.YtapfolgiafnllaaGreatDoor

/-
  The text functions that FormatInt and FormatDec lean on: zzInSet, zzTrimLeft, hasOnlyDigits, errors.New.
-/
namespace Go.Proofs.YtapfolgiafnllaaGreatDoor
open Go.RowKit

def setIter (W : World) (b : Nat) (s : ByteArray) (pos : Nat) : World := { W with heap := W.heap.setIfInBounds b (.stringIter s pos) }
theorem setIter_heap {W : World} {b : Nat} (h : b < W.heap.size) (s : ByteArray) (pos : Nat) : (setIter W b s pos).heap[b]? = some (.stringIter s pos) := by
  simp [setIter, h]
theorem setIter_below {B : Nat} {w W : World} (h : Below B w W) {b : Nat} (hb : B ≤ b) (s : ByteArray) (pos : Nat) : Below B w (setIter W b s pos) :=
  h.trans ⟨rfl, rfl, rfl, by simp [setIter], fun k hk => by simp only [setIter]; rw [Array.getElem?_setIfInBounds_ne (by omega)]⟩
theorem iter_lt {W : World} {b : Nat} {o : Obj} (h : W.heap[b]? = some o) : b < W.heap.size := (Array.getElem?_eq_some_iff.1 h).1

theorem next_at {P : Program} {W : World} {b : Nat} {s : ByteArray} {pos : Nat} (h : W.heap[b]? = some (.stringIter s pos)) (hp : pos < s.size) (ty : TypeId) :
    (Instr.next (.pointer (some ⟨b, 0, none⟩)) true ty).run P W =
      .ok (.tuple #[.bool true, .int .i64 pos, .int .i32 (Utf8.decode s pos).1]) (setIter W b s (pos + (Utf8.decode s pos).2)) := by
  simp only [Instr.next, getObj, setObj, Sem.run_bind, Sem.run, h, Result.andThen, hp, if_true, setIter]
  simp [goInt]
theorem next_end_at {P : Program} {W : World} {b : Nat} {s : ByteArray} {pos : Nat} (h : W.heap[b]? = some (.stringIter s pos)) (hp : ¬ pos < s.size) (ty : TypeId) :
    (Instr.next (.pointer (some ⟨b, 0, none⟩)) true ty).run P W = .ok (.tuple #[.bool false]) W := by
  simp [Instr.next, getObj, Sem.run, h, hp]

def noughtS : ByteArray := ⟨#[48]⟩

theorem nought_of {u : UInt8} (h : (u.toNat : Int) = 48) : u = 48 := by
  apply UInt8.toNat_inj.1
  show u.toNat = 48
  omega

/-- The rune at a place is '0' where the byte is. -/
theorem decode_nought {s : ByteArray} {p : Nat} (h : p < s.size) : ((((Utf8.decode s p).1 : Nat) : Int) == 48) = (s[p]'h == 48) := by
  by_cases ha : (s[p]'h).toNat < 128
  · rw [decode_ascii s p h ha]
    by_cases e : s[p]'h = 48
    · rw [e]; decide
    · have : ¬ ((s[p]'h).toNat : Int) = 48 := fun k => e (nought_of k)
      rw [beq_eq_false_iff_ne.2 e, beq_eq_false_iff_ne.2 this]
  · have hh := (decode_high s p h (by omega)).1
    have e : ¬ s[p]'h = 48 := by intro k; rw [k] at ha; exact ha (by decide)
    have : ¬ (((Utf8.decode s p).1 : Nat) : Int) = 48 := by omega
    rw [beq_eq_false_iff_ne.2 e, beq_eq_false_iff_ne.2 this]

def trimmed (s : ByteArray) : List UInt8 := s.data.toList.dropWhile (· == 48)

def allDig (l : List UInt8) : Bool := l.all fun c => 48 ≤ c && c ≤ 57

theorem dig_byte (u : UInt8) : (48 ≤ u && u ≤ 57) = (!(decide ((u.toNat : Int) < 48)) && !(decide (57 < (u.toNat : Int)))) := by
  rw [Bool.eq_iff_iff]
  simp [UInt8.le_iff_toNat_le]
  omega

theorem decode_high' {s : ByteArray} {p : Nat} (h : p < s.size) (hd : (48 ≤ (s[p]'h) && (s[p]'h) ≤ 57) = false) : ((((Utf8.decode s p).1 : Nat) : Int) < 48) ∨ (57 < (((Utf8.decode s p).1 : Nat) : Int)) := by
  by_cases ha : (s[p]'h).toNat < 128
  · rw [decode_ascii s p h ha]
    rw [dig_byte] at hd
    simp at hd
    show (((s[p]'h).toNat : Nat) : Int) < 48 ∨ 57 < (((s[p]'h).toNat : Nat) : Int)
    omega
  · have hh := (decode_high s p h (by omega)).1
    omega

/-- An error of a text: a new one. -/
def NewErr (w : World) (e : Ending) (w' : World) : Prop := ∃ a, e = .returned (.iface 117 (.pointer (some a))) ∧ Below w.heap.size w w'
set_option maxRecDepth 100000 in
theorem errorsNew_walk (s : ByteArray) (w : World) :
    Calls Tryz.prog 93 #[.string s] w (NewErr w) := by
  go_enter Tryz.func93, Tryz.ntmps93
  go_wp2
  go_ret
  exact ⟨_, rfl, (Below.refl _ _).alloc (Nat.le_refl _) _⟩
end Go.Proofs.YtapfolgiafnllaaGreatDoor
