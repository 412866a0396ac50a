/-
  impl.MaxInts and its kin.
-/
import Derived.Test.YtikacehcjaaamaaDoorMaxMin
namespace Go.Proofs.YtikacehcjaaamaaDoor
open Go.RowKit

theorem Rd_drewN {w : World} {A : Option Addr} {vs : List Value} (h : Rd w A vs) (n : Nat) : Rd (w.drewN n) A vs := h
theorem rd_tail {α : Type} (enc : α → Value) {a b : α} {zs : List α} {x : Addr} {c : Nat} {w : World}
    (hr : ∀ j u, ((a :: b :: zs).map enc)[j]? = some u → w.cell? (x.add j) = some u) (hc : zs.length + 2 ≤ c) :
    Rd w (if c = 2 then some x else some ⟨x.block, x.off + 2, none⟩) (zs.map enc) := by
  by_cases h : c = 2
  · left
    have : zs.length = 0 := by omega
    rw [List.length_eq_zero_iff.1 this]
    rfl
  · right
    refine ⟨⟨x.block, x.off + 2, none⟩, by rw [if_neg h], fun j u hu => ?_⟩
    have := hr (j + 2) u (by simpa using hu)
    have e : x.add (j + 2) = (⟨x.block, x.off + 2, none⟩ : Addr).add j := by
      unfold Addr.add
      rw [if_neg (by omega)]
      by_cases h0 : j = 0
      · subst h0; rfl
      · rw [if_neg h0]
        simp
        omega
    rw [← e]
    exact this

set_option maxRecDepth 100000 in
set_option maxHeartbeats 1000000 in
theorem maxInts_walk (a b : Int) (zs : List (Int)) (x : Addr) (c : Nat) (w : World) (hn : zs.length ≤ 1000) (hc : zs.length + 2 ≤ c) (hm : c ≤ 9223372036854775807)
    (hr : ∀ j u, ((a :: b :: zs).map (fun x => Value.int .i64 x))[j]? = some u → w.cell? (x.add j) = some u) :
    Calls Tryd.prog 11 #[.slice (some x) (zs.length + 2) c] w fun e w' => e = .returned (.int .i64 (foldH pickMaxI (pickMaxI a b) zs)) ∧ Below w.heap.size w w' := by
  have h0 : w.cell? x = some (.int .i64 a) := hr 0 (.int .i64 a) rfl
  have h1 : w.cell? ⟨x.block, x.off + 1, none⟩ = some (.int .i64 b) := hr 1 (.int .i64 b) rfl
  have HR := Lib.hid (rd_tail (fun x => Value.int .i64 x) hr hc)
  clear hr
  have p0 : (0 : Int) < (zs.length : Int) + 2 := by omega
  have p1 : (1 : Int) < (zs.length : Int) + 2 := by omega
  have p2 : (2 : Int) ≤ (zs.length : Int) + 2 := by omega
  go_enter Tryd.func11, Tryd.ntmps11
  go_wp2_with fail
  go_quiet ((go_at_call 24; exact Calls.quiet_of_same (MaxI_walk _ _ _ _ zs _ hn (Rd_drewN HR.out _))))
  go_wp2_with fail
  all_goals go_ret
  all_goals exact ⟨rfl, below_drewN (Below.refl _ _) _⟩

set_option maxRecDepth 100000 in
set_option maxHeartbeats 1000000 in
theorem minInts_walk (a b : Int) (zs : List (Int)) (x : Addr) (c : Nat) (w : World) (hn : zs.length ≤ 1000) (hc : zs.length + 2 ≤ c) (hm : c ≤ 9223372036854775807)
    (hr : ∀ j u, ((a :: b :: zs).map (fun x => Value.int .i64 x))[j]? = some u → w.cell? (x.add j) = some u) :
    Calls Tryd.prog 12 #[.slice (some x) (zs.length + 2) c] w fun e w' => e = .returned (.int .i64 (foldH pickMinI (pickMinI a b) zs)) ∧ Below w.heap.size w w' := by
  have h0 : w.cell? x = some (.int .i64 a) := hr 0 (.int .i64 a) rfl
  have h1 : w.cell? ⟨x.block, x.off + 1, none⟩ = some (.int .i64 b) := hr 1 (.int .i64 b) rfl
  have HR := Lib.hid (rd_tail (fun x => Value.int .i64 x) hr hc)
  clear hr
  have p0 : (0 : Int) < (zs.length : Int) + 2 := by omega
  have p1 : (1 : Int) < (zs.length : Int) + 2 := by omega
  have p2 : (2 : Int) ≤ (zs.length : Int) + 2 := by omega
  go_enter Tryd.func12, Tryd.ntmps12
  go_wp2_with fail
  go_quiet ((go_at_call 25; exact Calls.quiet_of_same (MinI_walk _ _ _ _ zs _ hn (Rd_drewN HR.out _))))
  go_wp2_with fail
  all_goals go_ret
  all_goals exact ⟨rfl, below_drewN (Below.refl _ _) _⟩

end Go.Proofs.YtikacehcjaaamaaDoor
