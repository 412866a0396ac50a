/-
  Strings as lists of bytes: plain lemmas.
-/
import Derived.WalkKit
namespace Go.Proofs.YtapfolgiafnllaaGreatDoor

def S (l : List UInt8) : ByteArray := ⟨l.toArray⟩
theorem S_of (s : ByteArray) : S s.data.toList = s := by cases s; simp [S]
@[simp] theorem S_data (l : List UInt8) : (S l).data.toList = l := by simp [S]
@[simp] theorem S_size (l : List UInt8) : (S l).size = l.length := by simp [S, ByteArray.size]
@[simp] theorem S_toList (l : List UInt8) : (S l).toList = l := by rw [ByteArray.toList_eq, S_data]
theorem S_inj {a b : List UInt8} (h : S a = S b) : a = b := by have := congrArg (fun s => s.data.toList) h; simpa using this
theorem S_extract (l : List UInt8) (a b : Nat) : (S l).extract a b = S ((l.take b).drop a) := by
  have h : ((S l).extract a b).data.toList = (l.take b).drop a := by
    simp [S, List.extract_eq_take_drop, List.drop_take]
  rw [← S_of ((S l).extract a b), h]
theorem extract_drop (s : ByteArray) (a : Nat) : s.extract a s.size = S (s.data.toList.drop a) := by
  conv => lhs; rw [← S_of s]
  rw [S_extract, List.take_of_length_le (by rw [Array.length_toList]; exact Nat.le_refl _)]
theorem S_append (a b : List UInt8) : S a ++ S b = S (a ++ b) := by
  have h : (S a ++ S b).data.toList = a ++ b := by simp [S]
  rw [← S_of (S a ++ S b), h]
@[simp] theorem S_get (l : List UInt8) (i : Nat) (h : i < (S l).size) : (S l)[i]'h = l[i]'(by simpa using h) := by
  simp [S]
  rfl
theorem at_list (s : ByteArray) (i : Nat) (h : i < s.size) : s[i]'h = s.data.toList[i]'(by simpa using h) := rfl

end Go.Proofs.YtapfolgiafnllaaGreatDoor
