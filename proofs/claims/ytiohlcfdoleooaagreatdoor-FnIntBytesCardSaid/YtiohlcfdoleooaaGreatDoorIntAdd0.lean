/-
  (*big.Int).Add, Sub into a new number.
-/
import Derived.Test.YtiohlcfdoleooaaGreatDoorIntSet
import Derived.Test.YtiohlcfdoleooaaGreatDoorNatCmp
namespace Go.Proofs.YtiohlcfdoleooaaGreatDoor
open Go.RowKit

theorem wds_pos {S : Nat} : 0 < (wds S).length ↔ S ≠ 0 := by
  rw [← Nat.pos_iff_ne_zero.symm.symm, Nat.pos_iff_ne_zero, Nat.pos_iff_ne_zero]
  exact not_congr wds_len0
theorem own_low {B B' : Nat} {w : World} {A : Option Addr} {c N : Nat} (h : OwnNat B w A c N) (hB : B' ≤ B) : OwnNat B' w A c N := by
  rcases h with h | ⟨g, zs, h1, h2, h3, h4, h5, h6⟩
  · exact .inl h
  · exact .inr ⟨g, zs, h1, h2, h3, h4, by omega, h6⟩
theorem ext_drawn {D : Nat → Prop} {w w1 : World} {n : Nat} (h : Below (w.drewN n).heap.size (w.drewN n) w1) : Ext D w w1 := ((Ext.refl _ w).drewN n).trans (Ext.of_below h)
theorem ext_any {D : Nat → Prop} {w w2 w1 : World} (h1 : w2.heap = w.heap) (h2 : w2.os = w.os) (h3 : w2.tape = w.tape) (h4 : w2.output = w.output) (h : Below w2.heap.size w2 w1) : Ext D w w1 :=
  ⟨h.os.trans h2, h.tape.trans h3, h.output.trans h4, by have := h.size; rw [h1] at this; exact this, fun i hi _ => by rw [← h1] at hi ⊢; exact h.block i hi⟩
theorem drawn_more {w w1 : World} {n : Nat} (h : Drawn (w.drewN n) w1) : ∃ m, w1 = w.drewN m := by
  obtain ⟨k, rfl⟩ := h
  exact ⟨_, World.drewN_drewN _ _ _⟩

theorem heap_drew' (w : World) : w.drew.heap = w.heap := rfl
theorem heap_drewN' (w : World) (n : Nat) : (w.drewN n).heap = w.heap := rfl
theorem cell_heap {w w2 : World} (h : w2.heap = w.heap) (b o : Nat) : w2.cell? ⟨b, o, none⟩ = w.cell? ⟨b, o, none⟩ := by simp only [World.cell?, h]
theorem put_fin {w : World} {gz : Nat} (z : Int) : ∀ (S : Nat) (f : Bool) (w1 : World) (A1 : Option Addr) (c1 : Nat), z.natAbs = S → (S ≠ 0 → f = decide (z < 0)) → OwnNat (gz + 1) w1 A1 c1 S → w1.heap[gz]? = some (.cells #[.bool false, .slice none 0 0] 101 (0, 0)) → Ext (fun b => b = gz) w w1 →
      ∀ b, b = (decide (0 < (wds S).length) && f) → IntAt ((w1.setCell ⟨gz, 1, none⟩ (.slice A1 (wds S).length c1)).setCell ⟨gz, 0, none⟩ (.bool b)) gz z ∧ Ext (fun b => b = gz) w ((w1.setCell ⟨gz, 1, none⟩ (.slice A1 (wds S).length c1)).setCell ⟨gz, 0, none⟩ (.bool b)) := by
  intro S f w1 A1 c1 hS hf ho hk hx1 b hb
  refine ⟨IntAt.put hk hS ?_ ho.room.1 (by have := ho.room; omega) ho.wd (fun a ha => by have := ho.ge a ha; omega), Ext.setCell (D := fun b => b = gz) (p := ⟨gz, 0, none⟩) (Ext.setCell (D := fun b => b = gz) (p := ⟨gz, 1, none⟩) hx1 (fun _ => rfl) _) (fun _ => rfl) _⟩
  rw [hb]
  by_cases h0 : S = 0
  · subst h0
    rw [decide_eq_false (show ¬ z < 0 by omega), wds_zero]
    rfl
  · rw [decide_eq_true (wds_pos.2 h0), hf h0]
    simp
theorem Wd.of_heap {w w2 : World} {A : Option Addr} {ws : List Nat} (h : Wd w A ws) (hh : w2.heap = w.heap) : Wd w2 A ws := by
  rcases h with h | ⟨g, zs, r, h1, h2, h3⟩
  · exact .inl h
  · exact .inr ⟨g, zs, r, h1, by unfold Row; rw [hh]; exact h2, h3⟩
end Go.Proofs.YtiohlcfdoleooaaGreatDoor
