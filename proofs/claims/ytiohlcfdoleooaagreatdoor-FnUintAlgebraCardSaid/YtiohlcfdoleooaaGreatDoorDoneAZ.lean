/-
  laws.done, and what laws.FnUintAlgebra holds against each other.
-/
import Derived.Test.YtiohlcfdoleooaaGreatDoorUintDoGZ
import Derived.Test.YtiohlcfdoleooaaGreatDoorTextReadZ
import Derived.Test.YtiohlcfdoleooaaGreatDoorBn03Z
namespace Go.Proofs.YtiohlcfdoleooaaGreatDoor
open Go.RowKit

/-- What done does with two Uints, where both are there. -/
def dn (op : Nat) (r1 r2 : Option Int) : Option Int := r1.bind fun x => r2.bind fun y => uRes op x y
def GoodU (r : Option Int) : Prop := ∀ z, r = some z → overU z = false
theorem goodU_res (op : Nat) (x y : Int) : GoodU (uRes op x y) := by
  intro z h
  unfold uRes at h
  split at h
  · rename_i z' _
    by_cases ho : overU z' = true
    · rw [if_pos ho] at h; cases h
    · rw [if_neg ho] at h
      injection h with h
      subst h
      simpa using ho
  · cases h
theorem goodU_dn (op : Nat) (r1 r2 : Option Int) : GoodU (dn op r1 r2) := by
  unfold dn
  cases r1 with
  | none => intro z h; cases h
  | some x =>
    cases r2 with
    | none => intro z h; cases h
    | some y => exact goodU_res op x y
theorem text_small {z : Int} (h : overU z = false) : (zText z).length ≤ 1000 := by
  have h1 := h
  rw [overU_fits] at h1
  rw [Bool.or_eq_false_iff] at h1
  have h2 : z.natAbs < 2 ^ 256 := by simpa using h1.2
  have := text_len (k := 100) (Nat.lt_of_lt_of_le h2 (by decide))
  omega

set_option maxRecDepth 100000 in
set_option maxHeartbeats 2000000 in
theorem done_walk (op : Nat) (r1 r2 : Option Int) (p : Addr) (w : World) (hop : op ≤ 6) (g1 : GoodU r1) (g2 : GoodU r2) (hp : EofIs w p) (hleaf : LeafIs w) (hkara : KaraIs w) (hdiv : DivIs w) :
    Calls Tryz.prog 22 #[.int .i64 (op : Int), .string (S (outT r1)), .string (S (outT r2))] w fun e w' => e = .returned (.string (S (outT (dn op r1 r2)))) ∧ Below w.heap.size w w' := by
  cases r1 with
  | none =>
    have e1 : outT none = [] := rfl
    have e2 : outT (dn op none r2) = [] := rfl
    rw [e1, e2]
    obtain ⟨T, hT⟩ : ∃ T, outT r2 = T := ⟨_, rfl⟩
    rw [hT]
    have hem : ([] : List UInt8).isEmpty = true := rfl
    clear hT e1 e2 hp hleaf hkara hdiv g1 g2
    go_enter Tryz.func22, Tryz.ntmps22
    go_wp2_with fail
    go_ret
    exact ⟨rfl, Below.refl _ _⟩
  | some x =>
    have ox := g1 x rfl
    have e1 : outT (some x) = zText x := rfl
    have hem : (zText x).isEmpty = false := by
      cases h : zText x with
      | nil => exact absurd h (text_ne x)
      | cons a b => rfl
    cases r2 with
    | none =>
      have e3 : outT none = [] := rfl
      have e2 : outT (dn op (some x) none) = [] := rfl
      rw [e1, e2, e3]
      obtain ⟨T, hT⟩ : ∃ T, zText x = T := ⟨_, rfl⟩
      rw [hT] at hem ⊢
      clear hT e1 e2 e3 hp hleaf hkara hdiv g1 g2
      go_enter Tryz.func22, Tryz.ntmps22
      go_wp2_with fail
      go_ret
      exact ⟨rfl, Below.refl _ _⟩
    | some y =>
      have oy := g2 y rfl
      have e3 : outT (some y) = zText y := rfl
      have hem2 : (zText y).isEmpty = false := by
        cases h : zText y with
        | nil => exact absurd h (text_ne y)
        | cons a b => rfl
      obtain ⟨k1, z1⟩ := read_text x
      obtain ⟨k2, z2⟩ := read_text y
      have hd := uintDoG_walk op (zText x) (zText y) p w k1 k2 (text_small ox) (text_small oy) hp hleaf hkara hdiv hop (by rw [z1]; exact ox) (by rw [z2]; exact oy)
      rw [z1, z2] at hd
      have e2 : dn op (some x) (some y) = uRes op x y := rfl
      rw [e1, e2, e3]
      cases hR : uRes op x y with
      | none =>
        rw [hR] at hd
        have e4 : outT none = [] := rfl
        have e5 : (none : Option Int).isSome = false := rfl
        rw [e4, e5] at hd
        rw [e4]
        have HD := Lib.hid hd
        obtain ⟨T, hT⟩ : ∃ T, zText x = T := ⟨_, rfl⟩
        obtain ⟨U, hU⟩ : ∃ U, zText y = U := ⟨_, rfl⟩
        rw [hT] at hem HD ⊢
        rw [hU] at hem2 HD ⊢
        clear hd e1 e2 e3 e4 e5 k1 k2 z1 z2 hT hU ox oy g1 g2 hR hp hleaf hkara hdiv
        go_enter Tryz.func22, Tryz.ntmps22
        go_wp2_with fail
        refine HD.out.mono ?_
        rintro e w1 ⟨rfl, hb⟩
        go_wp2_with fail
        go_ret
        exact ⟨rfl, hb⟩
      | some z =>
        rw [hR] at hd
        have e5 : (some z).isSome = true := rfl
        obtain ⟨V, hV⟩ : ∃ V, outT (some z) = V := ⟨_, rfl⟩
        rw [hV, e5] at hd
        rw [hV]
        have HD := Lib.hid hd
        obtain ⟨T, hT⟩ : ∃ T, zText x = T := ⟨_, rfl⟩
        obtain ⟨U, hU⟩ : ∃ U, zText y = U := ⟨_, rfl⟩
        rw [hT] at hem HD ⊢
        rw [hU] at hem2 HD ⊢
        clear hd e1 e2 e3 e5 k1 k2 z1 z2 hT hU hV ox oy g1 g2 hR hp hleaf hkara hdiv
        go_enter Tryz.func22, Tryz.ntmps22
        go_wp2_with fail
        refine HD.out.mono ?_
        rintro e w1 ⟨rfl, hb⟩
        go_wp2_with fail
        go_ret
        exact ⟨rfl, hb⟩
end Go.Proofs.YtiohlcfdoleooaaGreatDoor
