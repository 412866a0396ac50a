/-
  The text functions that FormatInt and FormatDec lean on: zzInSet, zzTrimLeft, hasOnlyDigits, errors.New.
-/
import Derived.Test.YthipbglnaalhmaaGreatDoorSafe
import Derived.Test.YthipbglnaalhmaaGreatDoorStr
namespace Go.Proofs.YthipbglnaalhmaaGreatDoor
open Go.RowKit

def setIter (W : World) (b : Nat) (s : ByteArray) (pos : Nat) : World := { W with heap := W.heap.setIfInBounds b (.stringIter s pos) }
theorem setIter_heap {W : World} {b : Nat} (h : b < W.heap.size) (s : ByteArray) (pos : Nat) : (setIter W b s pos).heap[b]? = some (.stringIter s pos) := by
  simp [setIter, h]
theorem setIter_below {B : Nat} {w W : World} (h : Below B w W) {b : Nat} (hb : B ≤ b) (s : ByteArray) (pos : Nat) : Below B w (setIter W b s pos) :=
  h.trans ⟨rfl, rfl, rfl, by simp [setIter], fun k hk => by simp only [setIter]; rw [Array.getElem?_setIfInBounds_ne (by omega)]⟩
theorem iter_lt {W : World} {b : Nat} {o : Obj} (h : W.heap[b]? = some o) : b < W.heap.size := (Array.getElem?_eq_some_iff.1 h).1

theorem next_at {P : Program} {W : World} {b : Nat} {s : ByteArray} {pos : Nat} (h : W.heap[b]? = some (.stringIter s pos)) (hp : pos < s.size) (ty : TypeId) :
    (Instr.next (.pointer (some ⟨b, 0, none⟩)) true ty).run P W =
      .ok (.tuple #[.bool true, .int .i64 pos, .int .i32 (Utf8.decode s pos).1]) (setIter W b s (pos + (Utf8.decode s pos).2)) := by
  simp only [Instr.next, getObj, setObj, Sem.run_bind, Sem.run, h, Result.andThen, hp, if_true, setIter]
  simp [goInt]
theorem next_end_at {P : Program} {W : World} {b : Nat} {s : ByteArray} {pos : Nat} (h : W.heap[b]? = some (.stringIter s pos)) (hp : ¬ pos < s.size) (ty : TypeId) :
    (Instr.next (.pointer (some ⟨b, 0, none⟩)) true ty).run P W = .ok (.tuple #[.bool false]) W := by
  simp [Instr.next, getObj, Sem.run, h, hp]

def noughtS : ByteArray := ⟨#[48]⟩

set_option maxRecDepth 100000 in
set_option maxHeartbeats 400000 in
theorem inSet_walk (c : Int) (w : World) :
    Calls Tryz.prog 185 #[.int .i32 c, .string ⟨#[48]⟩] w fun e w' => e = .returned (.bool (c == 48)) ∧ Below w.heap.size w w' := by
  go_enter Tryz.func185, Tryz.ntmps185
  go_wp2
  refine wp_loop_rounds 2 ?_
  rw [rounds_succ]
  have hnx : ∀ ty, (Instr.next (.pointer (some ⟨w.heap.size, 0, none⟩)) true ty).run Tryz.prog (w.iter ⟨#[48]⟩ 0) = _ := fun ty => run_next_any w ⟨#[48]⟩ 0 ty (by decide)
  have hd : Utf8.decode ⟨#[48]⟩ 0 = (48, 1) := by decide
  rw [hd] at hnx
  clear hd
  by_cases hc : c = 48
  · subst hc
    go_wp2
    go_ret
    exact ⟨rfl, (Below.refl _ _).alloc (Nat.le_refl _) _⟩
  · have hc1 : (c == 48) = false := by simpa using hc
    go_wp2
    rw [rounds_succ]
    have hn2 : ∀ ty, (Instr.next (.pointer (some ⟨w.heap.size, 0, none⟩)) true ty).run Tryz.prog (w.iter ⟨#[48]⟩ 1) = _ := fun ty => run_next_end w ⟨#[48]⟩ 1 ty (by decide)
    go_wp2
    go_ret
    rw [hc1]
    exact ⟨rfl, (Below.refl _ _).alloc (Nat.le_refl _) _⟩

theorem nought_of {u : UInt8} (h : (u.toNat : Int) = 48) : u = 48 := by
  apply UInt8.toNat_inj.1
  show u.toNat = 48
  omega

/-- The rune at a place is '0' where the byte is. -/
theorem decode_nought {s : ByteArray} {p : Nat} (h : p < s.size) : ((((Utf8.decode s p).1 : Nat) : Int) == 48) = (s[p]'h == 48) := by
  by_cases ha : (s[p]'h).toNat < 128
  · rw [decode_ascii s p h ha]
    by_cases e : s[p]'h = 48
    · rw [e]; decide
    · have : ¬ ((s[p]'h).toNat : Int) = 48 := fun k => e (nought_of k)
      rw [beq_eq_false_iff_ne.2 e, beq_eq_false_iff_ne.2 this]
  · have hh := (decode_high s p h (by omega)).1
    have e : ¬ s[p]'h = 48 := by intro k; rw [k] at ha; exact ha (by decide)
    have : ¬ (((Utf8.decode s p).1 : Nat) : Int) = 48 := by omega
    rw [beq_eq_false_iff_ne.2 e, beq_eq_false_iff_ne.2 this]

def trimmed (s : ByteArray) : List UInt8 := s.data.toList.dropWhile (· == 48)

set_option maxRecDepth 100000 in
set_option maxHeartbeats 400000 in
theorem trimLeft_walk (s : ByteArray) (w : World) (_hs : s.size ≤ 9223372036854775807) :
    Calls Tryz.prog 162 #[.string s, .string ⟨#[48]⟩] w fun e w' => e = .returned (.string ⟨(trimmed s).toArray⟩) ∧ Below w.heap.size w w' := by
  go_enter Tryz.func162, Tryz.ntmps162
  go_wp2
  go_loopw [9] (fun _ wr => ∃ pos : Nat, pos ≤ s.size ∧ wr.heap[w.heap.size]? = some (.stringIter s pos) ∧ Below w.heap.size w wr ∧ trimmed s = (s.data.toList.drop pos).dropWhile (· == 48)) (fun _ wr => s.size - wr.iterPos w.heap.size)
  case atStart => exact ⟨0, Nat.zero_le _, World.iter_heap _ _ _, (Below.refl _ _).alloc (Nat.le_refl _) _, rfl⟩
  case round =>
    obtain ⟨pos, hp, hi, hb, ht⟩ := hrel
    have hlt := iter_lt hi
    by_cases hlp : pos < s.size
    · have hnx := next_at (P := Tryz.prog) hi hlp
      have HI := Lib.hid hi
      have HT := Lib.hid ht
      clear hi ht
      have hc := decode_nought hlp
      by_cases h0 : s[pos]'hlp = 48
      · have h1 : ((s[pos]'hlp) == 48) = true := by rw [h0]; rfl
        rw [h1] at hc
        have H0 := Lib.hid h0
        have HH : Hid ((Utf8.decode s pos).2 = 1) := by
          unfold Hid
          rw [decode_ascii s pos hlp (by rw [h0]; decide)]
        clear h1 h0
        go_wp2_with (go_at_call 185; ((with_reducible refine (inSet_walk _ _).mono ?_); rintro e w1 ⟨rfl, hb1⟩))
        have hpos := HH.out
        have hw1 : w1.heap[w.heap.size]? = some (.stringIter s (pos + 1)) := by
          rw [hb1.block _ (by simpa [setIter] using hlt), hpos]
          exact setIter_heap hlt _ _
        refine ⟨⟨pos + 1, by omega, hw1, ?_, ?_⟩, ?_⟩
        · exact (setIter_below hb (Nat.le_refl _) _ _).trans (hb1.mono (by simp [setIter]; omega))
        · rw [HT.out, List.drop_eq_getElem_cons (by simpa using hlp)]
          exact List.dropWhile_cons_of_pos (by have := H0.out; rw [at_list] at this; simpa using this)
        · have e1 : w1.iterPos w.heap.size = pos + 1 := by simp [World.iterPos, hw1]
          have e2 : wr.iterPos w.heap.size = pos := by simp [World.iterPos, HI.out]
          rw [e1, e2]
          omega
      · have h1 : ((s[pos]'hlp) == 48) = false := beq_eq_false_iff_ne.2 h0
        rw [h1] at hc
        have H0 := Lib.hid h0
        clear h1 h0
        go_wp2_with (go_at_call 185; ((with_reducible refine (inSet_walk _ _).mono ?_); rintro e w1 ⟨rfl, hb1⟩))
        go_ret
        refine ⟨?_, (setIter_below hb (Nat.le_refl _) _ _).trans (hb1.mono (by simp [setIter]; omega))⟩
        show Ending.returned (.string (s.extract pos s.size)) = _
        rw [extract_drop, HT.out, List.drop_eq_getElem_cons (by simpa using hlp), List.dropWhile_cons_of_neg (by have := H0.out; rw [at_list] at this; simpa using this)]
        rfl
    · have hnx := next_end_at (P := Tryz.prog) hi hlp
      have HT := Lib.hid ht
      clear hi ht
      go_wp2
      go_ret
      refine ⟨?_, hb⟩
      rw [HT.out, List.drop_of_length_le (by simpa using hlp)]
      rfl

def allDig (l : List UInt8) : Bool := l.all fun c => 48 ≤ c && c ≤ 57

theorem dig_byte (u : UInt8) : (48 ≤ u && u ≤ 57) = (!(decide ((u.toNat : Int) < 48)) && !(decide (57 < (u.toNat : Int)))) := by
  rw [Bool.eq_iff_iff]
  simp [UInt8.le_iff_toNat_le]
  omega

theorem decode_high' {s : ByteArray} {p : Nat} (h : p < s.size) (hd : (48 ≤ (s[p]'h) && (s[p]'h) ≤ 57) = false) : ((((Utf8.decode s p).1 : Nat) : Int) < 48) ∨ (57 < (((Utf8.decode s p).1 : Nat) : Int)) := by
  by_cases ha : (s[p]'h).toNat < 128
  · rw [decode_ascii s p h ha]
    rw [dig_byte] at hd
    simp at hd
    show (((s[p]'h).toNat : Nat) : Int) < 48 ∨ 57 < (((s[p]'h).toNat : Nat) : Int)
    omega
  · have hh := (decode_high s p h (by omega)).1
    omega

set_option maxRecDepth 100000 in
set_option maxHeartbeats 400000 in
theorem onlyDigits_walk (s : ByteArray) (w : World) (_hs : s.size ≤ 9223372036854775807) :
    Calls Tryz.prog 163 #[.string s] w fun e w' => e = .returned (.bool (!s.data.toList.isEmpty && allDig s.data.toList)) ∧ Below w.heap.size w w' := by
  by_cases he : s.data.toList = []
  · have he1 : s.toList.isEmpty = true := by rw [ByteArray.toList_eq, he]; rfl
    go_enter Tryz.func163, Tryz.ntmps163
    go_wp2
    go_ret
    rw [he]
    exact ⟨rfl, Below.refl _ _⟩
  · have he1 : s.toList.isEmpty = false := by rw [ByteArray.toList_eq]; simpa using he
    have he2 : s.data.toList.isEmpty = false := by simpa using he
    have HE := Lib.hid he2
    clear he he2
    go_enter Tryz.func163, Tryz.ntmps163
    go_wp2
    go_loopw [9] (fun _ wr => ∃ pos : Nat, wr = w.iter s pos ∧ pos ≤ s.size ∧ allDig s.data.toList = allDig (s.data.toList.drop pos)) (fun _ wr => s.size - wr.iterPos w.heap.size)
    case atStart => exact ⟨0, rfl, Nat.zero_le _, rfl⟩
    case round =>
      obtain ⟨pos, rfl, hp, ht⟩ := hrel
      have HT := Lib.hid ht
      clear ht
      by_cases hlp : pos < s.size
      · have hcons : s.data.toList.drop pos = (s[pos]'hlp) :: s.data.toList.drop (pos + 1) := List.drop_eq_getElem_cons (by simpa using hlp)
        have HC := Lib.hid hcons
        clear hcons
        by_cases hd : (48 ≤ (s[pos]'hlp) && (s[pos]'hlp) ≤ 57) = true
        · have ha : (s[pos]'hlp).toNat < 128 := by rw [dig_byte] at hd; simp at hd; omega
          have hnx : ∀ ty, (Instr.next (.pointer (some ⟨w.heap.size, 0, none⟩)) true ty).run Tryz.prog (w.iter s pos) = _ := fun ty => run_next_ascii w s pos ty hlp ha
          have hd1 := hd
          rw [dig_byte] at hd1
          simp only [Bool.and_eq_true, Bool.not_eq_true'] at hd1
          obtain ⟨d1, d2⟩ := hd1
          have HD := Lib.hid hd
          clear hd
          go_wp2
          refine ⟨⟨pos + 1, rfl, by omega, ?_⟩, ?_⟩
          · rw [HT.out, HC.out]
            simp only [allDig, List.all_cons, HD.out, Bool.true_and]
          · simp
            omega
        · have hd' : (48 ≤ (s[pos]'hlp) && (s[pos]'hlp) ≤ 57) = false := by simpa using hd
          have hnx : ∀ ty, (Instr.next (.pointer (some ⟨w.heap.size, 0, none⟩)) true ty).run Tryz.prog (w.iter s pos) = _ := fun ty => run_next_any w s pos ty hlp
          have hdec := decode_high' hlp hd'
          have HD := Lib.hid hd'
          clear hd hd'
          have hres : Hid ((!s.data.toList.isEmpty && allDig s.data.toList) = false) := by
            unfold Hid
            rw [HE.out, HT.out, HC.out]
            simp only [allDig, List.all_cons, HD.out, Bool.false_and, Bool.and_false]
          rcases hdec with hdec | hdec
          · have hb : decide ((((Utf8.decode s pos).1 : Nat) : Int) < 48) = true := decide_eq_true hdec
            clear hdec
            go_wp2
            go_ret
            rw [hres.out]
            exact ⟨rfl, (Below.refl _ _).alloc (Nat.le_refl _) _⟩
          · have hb : decide ((((Utf8.decode s pos).1 : Nat) : Int) < 48) = false := decide_eq_false (by omega)
            have hb2 : decide (57 < (((Utf8.decode s pos).1 : Nat) : Int)) = true := decide_eq_true hdec
            clear hdec
            go_wp2
            go_ret
            rw [hres.out]
            exact ⟨rfl, (Below.refl _ _).alloc (Nat.le_refl _) _⟩
      · have hnx : ∀ ty, (Instr.next (.pointer (some ⟨w.heap.size, 0, none⟩)) true ty).run Tryz.prog (w.iter s pos) = _ := fun ty => run_next_end w s pos ty hlp
        have hres : Hid ((!s.data.toList.isEmpty && allDig s.data.toList) = true) := by
          unfold Hid
          rw [HE.out, HT.out, List.drop_of_length_le (by simpa using hlp)]
          rfl
        go_wp2
        go_ret
        rw [hres.out]
        exact ⟨rfl, (Below.refl _ _).alloc (Nat.le_refl _) _⟩

/-- An error of a text: a new one. -/
def NewErr (w : World) (e : Ending) (w' : World) : Prop := ∃ a, e = .returned (.iface 113 (.pointer (some a))) ∧ Below w.heap.size w w'
set_option maxRecDepth 100000 in
theorem errorsNew_walk (s : ByteArray) (w : World) :
    Calls Tryz.prog 93 #[.string s] w (NewErr w) := by
  go_enter Tryz.func93, Tryz.ntmps93
  go_wp2
  go_ret
  exact ⟨_, rfl, (Below.refl _ _).alloc (Nat.le_refl _) _⟩
end Go.Proofs.YthipbglnaalhmaaGreatDoor
