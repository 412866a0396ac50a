/-
  impl.safe: what it makes of a closure that returns, and of one that panics.
-/
import Derived.Test.YtiohlcfdoleooaaGreatDoorRows
import Derived.WalkKit
import Derived.WalkSpells
import Derived.WalkLawsBesides
import Derived.Lib.Hide
namespace Go.Proofs.YtiohlcfdoleooaaGreatDoor
open Go.RowKit

theorem catch_idle (p : Addr) (b : Bool) (w : World) (hc : w.cell? p = some (.bool b)) (hz : w.frozen? p = false) :
    CallsD Tryz.prog 124 #[.pointer (some p)] .returning w fun e u' w' => e = .returned (.tuple #[]) ∧ u' = .returning ∧ w' = w.setCell p (.bool true) := by
  refine callsD_of_wpS Tryz.func124 rfl fun c₀ cs hu => ?_
  apply wpS_region
  simp [wpOpsS, go_sem, recoverD, hu, Tryz.ntmps124, hc, hz, bodyPostS, results, Tryz.results124]
  cases c₀
  simp_all

theorem catch_panicking (p : Addr) (b : Bool) (u : TypeId) (pv : Value) (older : List PanicEntry) (w : World) (hc : w.cell? p = some (.bool b)) (hz : w.frozen? p = false) :
    CallsD Tryz.prog 124 #[.pointer (some p)] (.panicking ({ v := .iface u pv, recovered := false } :: older)) w fun e u' w' =>
      e = .returned (.tuple #[]) ∧ u' = .panicking ({ v := .iface u pv, recovered := true } :: older) ∧ w' = w.setCell p (.bool false) := by
  refine callsD_of_wpS Tryz.func124 rfl fun c₀ cs hu => ?_
  apply wpS_region
  simp [wpOpsS, go_sem, recoverD, hu, Tryz.ntmps124, hc, hz, bodyPostS, results, Tryz.results124]

theorem one_cell {w : World} {g : Nat} {v : Value} {T : TypeId} (h : w.heap[g]? = some (.cells #[v] T (0, 0))) : w.cell? ⟨g, 0, none⟩ = some v := by simp [World.cell?, h]
theorem one_free {w : World} {g : Nat} {cs : Array Value} {T : TypeId} (h : w.heap[g]? = some (.cells cs T (0, 0))) (o : Nat) : w.frozen? ⟨g, o, none⟩ = false := by simp [World.frozen?, h]
theorem one_set {w : World} {g : Nat} {v u : Value} {T : TypeId} (h : w.heap[g]? = some (.cells #[v] T (0, 0))) : (w.setCell ⟨g, 0, none⟩ u).heap[g]? = some (.cells #[u] T (0, 0)) := by
  simp only [World.setCell, Array.getElem?_modify, h]
  simp

set_option maxRecDepth 100000 in
/-- The closure returns: safe returns true. -/
theorem safe_ret (k : FuncId) (caps : Array Value) (w : World) (Q : World → Prop)
    (hk : ∀ w, (callFunc k caps).run Tryz.prog w = .ok (.enter k caps) w)
    (h : Calls Tryz.prog k caps (w.alloc (.cells #[.bool false] 4)) fun e w' => e = .returned (.tuple #[]) ∧ w'.heap[w.heap.size]? = some (.cells #[.bool false] 4 (0, 0)) ∧ Q ((w'.setCell ⟨w.heap.size, 0, none⟩ (.bool true)).setCell ⟨w.heap.size, 0, none⟩ (.bool true))) :
    Calls Tryz.prog 48 #[.func (.func k) #[] caps] w fun e w' => e = .returned (.bool true) ∧ Q w' := by
  have hmf : ∀ (fn : Fn) (first cap : Array Value) (w : World), (Instr.makeFunc fn first cap).run Tryz.prog w = .ok (.func fn first cap) w := fun _ _ _ _ => rfl
  go_enter_defers Tryz.func48, Tryz.ntmps48
  go_wp2_with ((with_reducible refine h.mono ?_); rintro e w1 ⟨rfl, hb, hq⟩; have hc := one_cell hb; have hz := one_free hb 0; have HB := Lib.hid hb; clear hb)
  have hb2 := one_set (u := .bool true) HB.out
  refine leaves_cons (f := 124) (args := #[.pointer (some ⟨w.heap.size, 0, none⟩)]) (by simp) (by simp [go_sem]) ?_
  refine (catch_idle ⟨w.heap.size, 0, none⟩ true _ (one_cell hb2) (one_free hb2 0)).mono ?_
  rintro e u' w'' ⟨rfl, rfl, rfl⟩
  have hb3 := one_set (u := .bool true) hb2
  simp [Leaves, settle, results, Tryz.results48, go_sem, one_cell hb3, hq]

set_option maxRecDepth 100000 in
/-- The closure panics: safe returns false. -/
theorem safe_panics (k : FuncId) (caps : Array Value) (w : World) (Q : World → Prop)
    (hk : ∀ w, (callFunc k caps).run Tryz.prog w = .ok (.enter k caps) w)
    (h : Calls Tryz.prog k caps (w.alloc (.cells #[.bool false] 4)) fun e w' => ∃ t v, e = .panicked [{ v := .iface t v, recovered := false }] ∧ w'.heap[w.heap.size]? = some (.cells #[.bool false] 4 (0, 0)) ∧ Q (w'.setCell ⟨w.heap.size, 0, none⟩ (.bool false))) :
    Calls Tryz.prog 48 #[.func (.func k) #[] caps] w fun e w' => e = .returned (.bool false) ∧ Q w' := by
  have hmf : ∀ (fn : Fn) (first cap : Array Value) (w : World), (Instr.makeFunc fn first cap).run Tryz.prog w = .ok (.func fn first cap) w := fun _ _ _ _ => rfl
  go_enter_defers Tryz.func48, Tryz.ntmps48
  go_wp2_with ((with_reducible refine h.mono ?_); rintro e w1 ⟨t, v, rfl, hb, hq⟩; have HB := Lib.hid hb; clear hb)
  refine leaves_cons (f := 124) (args := #[.pointer (some ⟨w.heap.size, 0, none⟩)]) (by simp) (by simp [go_sem]) ?_
  refine (catch_panicking ⟨w.heap.size, 0, none⟩ false t v [] _ (one_cell HB.out) (one_free HB.out 0)).mono ?_
  rintro e u' w'' ⟨rfl, rfl, rfl⟩
  have hb3 := one_set (u := .bool false) HB.out
  simp [Leaves, settle, results, Tryz.results48, go_sem, one_cell hb3, hq]
end Go.Proofs.YtiohlcfdoleooaaGreatDoor
