/-
  laws.formatAwake: true.
-/
import Derived.Test.YthipbglnaalhmaaGreatDoorSpecText
namespace Go.Proofs.YthipbglnaalhmaaGreatDoor
open Go.RowKit

theorem S_lit (l : List UInt8) : (⟨l.toArray⟩ : ByteArray) = S l := rfl
theorem awake_int : fmtInt [49, 50, 51, 52, 53, 54, 55] = some [49, 39, 50, 51, 52, 39, 53, 54, 55] := by decide
theorem awake_dec : fmtDec [45, 49, 48, 48, 48, 46, 50, 53, 48, 48] = some [45, 49, 39, 48, 48, 48, 46, 50, 53] := by decide

theorem two_new (w : World) (a b : Int) (T : TypeId) : ∀ (j : Nat) (u : Value), ([a, b].map (fun x => Value.int .i64 x))[j]? = some u → (w.alloc (.cells #[.int .i64 a, .int .i64 b] T)).cell? ((⟨w.heap.size, 0, none⟩ : Addr).add j) = some u := by
  intro j u hu
  have hh := heap_here w (.cells #[.int .i64 a, .int .i64 b] T)
  match j, hu with
  | 0, hu => simp at hu; subst hu; show (w.alloc _).cell? ⟨w.heap.size, 0, none⟩ = _; simp only [World.cell?, hh]; rfl
  | 1, hu => simp at hu; subst hu; show (w.alloc _).cell? ⟨w.heap.size, 1, none⟩ = _; simp only [World.cell?, hh]; rfl
  | j + 2, hu => simp at hu

set_option maxRecDepth 100000 in
set_option maxHeartbeats 1000000 in
theorem awake_walk (w : World) : Calls Tryz.prog 37 #[] w fun e w' => e = .returned (.bool true) ∧ Below w.heap.size w w' := by
  go_enter Tryz.func37, Tryz.ntmps37
  go_wp2_with fail
  rw [S_lit]
  refine (implFmtInt_walk _ _ (by decide)).mono ?_
  rw [awake_int]
  rintro e w1 ⟨rfl, hb1⟩
  go_wp2_with fail
  rw [S_lit]
  refine (implFmtDec_walk _ _ (by decide)).mono ?_
  rw [awake_dec]
  rintro e w2 ⟨rfl, hb2⟩
  go_wp2_with fail
  refine (maxInts_walk 1 2 [] ⟨w2.heap.size, 0, none⟩ 2 _ (by decide) (by decide) (by decide) (two_new _ _ _ _)).mono ?_
  rintro e w3 ⟨rfl, hb3⟩
  have e1 : foldH pickMaxI (pickMaxI 1 2) [] = 2 := by decide
  rw [e1]
  go_wp2_with fail
  refine (minInts_walk 1 2 [] ⟨w3.heap.size, 0, none⟩ 2 _ (by decide) (by decide) (by decide) (two_new _ _ _ _)).mono ?_
  rintro e w4 ⟨rfl, hb4⟩
  have e2 : foldH pickMinI (pickMinI 1 2) [] = 1 := by decide
  rw [e2]
  go_wp2_with fail
  go_ret
  refine ⟨rfl, ?_⟩
  have h1 := bt hb1 hb2
  have h2 : Below w2.heap.size w2 w3 := ((Below.refl _ _).alloc (Nat.le_refl _) _).trans (hb3.mono (by rw [heap_size_alloc]; omega))
  have h3 : Below w3.heap.size w3 w4 := ((Below.refl _ _).alloc (Nat.le_refl _) _).trans (hb4.mono (by rw [heap_size_alloc]; omega))
  exact bt (bt h1 h2) h3
end Go.Proofs.YthipbglnaalhmaaGreatDoor
