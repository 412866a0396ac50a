/-
  math/big's scan of a number whose text tells the base 2, 8 or 16.
-/
import Derived.Test.YthipbglnaalhmaaGreatDoorRsh1
import Derived.Test.YthipbglnaalhmaaGreatDoorBasedSpec
namespace Go.Proofs.YthipbglnaalhmaaGreatDoor
open Go.RowKit

/-- The value of digits, the highest one first. -/
def hv (b : Nat) (ds : List Nat) : Nat := ds.foldl (fun a d => a * b + d) 0
theorem hv_snoc (b : Nat) (ds : List Nat) (d : Nat) : hv b (ds ++ [d]) = hv b ds * b + d := by simp [hv]
theorem hv_take {b : Nat} {ds : List Nat} {k : Nat} (h : k < ds.length) : hv b (ds.take (k + 1)) = hv b (ds.take k) * b + ds[k] := by
  rw [List.take_succ_eq_append_getElem h, hv_snoc]
theorem hv_lt {b : Nat} (ds : List Nat) (hd : ∀ d ∈ ds, d < b) : ∀ k, k ≤ ds.length → hv b (ds.take k) < b ^ k
  | 0, _ => by simp [hv]
  | k + 1, hk => by
    have h1 := hv_lt ds hd k (by omega)
    have h2 := hd ds[k] (List.getElem_mem _)
    rw [hv_take (by omega), Nat.pow_succ]
    have h3 : (hv b (ds.take k) + 1) * b ≤ b ^ k * b := Nat.mul_le_mul_right b h1
    rw [Nat.add_mul] at h3
    omega
theorem hexC_lo {d : Nat} (h : d < 10) : (hexC d).toNat = 48 + d := by
  unfold hexC
  rw [if_pos h, UInt8.toNat_ofNat']
  omega
theorem hexC_hi {d : Nat} (h : ¬ d < 10) (h2 : d < 16) : (hexC d).toNat = 87 + d := by
  unfold hexC
  rw [if_neg h, UInt8.toNat_ofNat']
  omega
/-- What scan hands back. -/
def ScanOut (B : Nat) (w : World) (A : Option Addr) (c N : Nat) : Prop := (wds N).length ≤ c ∧ c ≤ 9223372036854775807 ∧ Wd w A (wds N) ∧ ∀ a, A = some a → B ≤ a.block
def BRel (b nn : Nat) (w : World) (g : Nat) (l : List UInt8) (ds : List Nat) (p : Addr) (zv fv cnt ev pv iv chv dv nv dpv : Value) (wr : World) : Prop :=
  ∃ (k : Nat) (q : Int), fv = .bool false ∧ cnt = .int .i64 (k : Int) ∧ ev = nextErr l (2 + k) p ∧ pv = .int .i32 q ∧ (q == 95) = false ∧ iv = .bool false ∧ chv = .int .u8 ((l.getD (2 + k) 0).toNat : Int) ∧ dpv = .int .i64 (-1) ∧ k ≤ ds.length ∧
    ReaderAt wr g l (min (2 + k + 1) l.length) ∧ EofIs wr p ∧ Ext (fun b => b = g) w wr ∧
    ((k < nn ∧ zv = .slice none 0 0 ∧ dv = .int .u64 ((hv b (ds.take k) : Nat) : Int) ∧ nv = .int .i64 (k : Int)) ∨
      (k = nn ∧ ∃ (G cap : Nat) (r : List Nat), zv = .slice (some ⟨G, 0, none⟩) 1 cap ∧ dv = .int .u64 0 ∧ nv = .int .i64 0 ∧ 1 ≤ cap ∧ cap ≤ 9223372036854775807 ∧ w.heap.size ≤ G ∧ Row wr G .u64 150 ([hv b (ds.take k)] ++ r)))
end Go.Proofs.YthipbglnaalhmaaGreatDoor
