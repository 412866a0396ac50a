/-
  impl.FormatInt and impl.FormatDec.
-/
import Derived.Test.YtikacehcjaaamaaDoorExt
namespace Go.Proofs.YtikacehcjaaamaaDoor
open Go.RowKit

set_option maxRecDepth 100000 in
set_option maxHeartbeats 1000000 in
theorem fmtIntC_walk (l : List UInt8) (b1 b2 b3 : Nat) (x : ByteArray) (y : Bool) (w : World) (hs : l.length ≤ 1000) (h1 : w.heap[b1]? = some (.cells #[.string (S l)] 9 (0, 0)))
    (h2 : w.heap[b2]? = some (.cells #[.string x] 9 (0, 0))) (h3 : w.heap[b3]? = some (.cells #[.bool y] 4 (0, 0))) (hne : b2 ≠ b3) :
    Calls Tryd.prog 20 #[.pointer (some ⟨b1, 0, none⟩), .pointer (some ⟨b2, 0, none⟩), .pointer (some ⟨b3, 0, none⟩)] w fun e w' => e = .returned (.tuple #[]) ∧ Ext (fun k => k = b2 ∨ k = b3) w w' ∧
      w'.heap[b2]? = some (.cells #[.string (S ((fmtInt l).getD []))] 9 (0, 0)) ∧ w'.heap[b3]? = some (.cells #[.bool (fmtInt l).isSome] 4 (0, 0)) := by
  have c1 := one_cell h1
  have hl2 := iter_lt h2
  have hl3 := iter_lt h3
  have H2 := Lib.hid h2
  have H3 := Lib.hid h3
  clear h1 h2 h3
  go_enter Tryd.func20, Tryd.ntmps20
  go_wp2_with fail
  refine (fmtInt_walk l _ hs).mono ?_
  intro e w1 hpost
  unfold FmtPost at hpost
  cases ho : fmtInt l with
  | none =>
    rw [ho] at hpost
    obtain ⟨⟨a, rfl⟩, hb⟩ := hpost
    have k2 := (hb.block b2 hl2).trans H2.out
    have k3 := (hb.block b3 hl3).trans H3.out
    have c2 := one_cell k2
    have c3 := one_cell k3
    have f2 := one_free k2 0
    have f3 := one_free k3 0
    have K2 := Lib.hid k2
    have K3 := Lib.hid k3
    have HO := Lib.hid ho
    clear k2 k3 ho
    go_wp2_with fail
    go_region
    go_wp2_with fail
    go_end0
    refine ⟨rfl, ((((Ext.of_below hb).setCell (p := ⟨b2, 0, none⟩) (fun _ => .inl rfl) _).setCell (p := ⟨b3, 0, none⟩) (fun _ => .inr rfl) _).drew), ?_, ?_⟩
    · rw [one_drew, one_other hne, HO.out]
      exact one_set K2.out
    · rw [one_drew, HO.out]
      exact one_set ((one_other (a := ⟨b2, 0, none⟩) hne.symm).trans K3.out)
  | some o =>
    rw [ho] at hpost
    obtain ⟨rfl, hb⟩ := hpost
    have k2 := (hb.block b2 hl2).trans H2.out
    have k3 := (hb.block b3 hl3).trans H3.out
    have c2 := one_cell k2
    have c3 := one_cell k3
    have f2 := one_free k2 0
    have f3 := one_free k3 0
    have K2 := Lib.hid k2
    have K3 := Lib.hid k3
    have HO := Lib.hid ho
    clear k2 k3 ho
    go_wp2_with fail
    go_region
    go_wp2_with fail
    go_end0
    refine ⟨rfl, ((((Ext.of_below hb).setCell (p := ⟨b2, 0, none⟩) (fun _ => .inl rfl) _).setCell (p := ⟨b3, 0, none⟩) (fun _ => .inr rfl) _).drew), ?_, ?_⟩
    · rw [one_drew, one_other hne, HO.out]
      exact one_set K2.out
    · rw [one_drew, HO.out]
      exact one_set ((one_other (a := ⟨b2, 0, none⟩) hne.symm).trans K3.out)

theorem callCInt : ∀ (caps : Array Value) (w : World), (callFunc 20 caps).run Tryd.prog w = .ok (.enter 20 caps) w := fun _ _ => by rfl

set_option maxRecDepth 100000 in
set_option maxHeartbeats 1000000 in
theorem implFmtInt_walk (l : List UInt8) (w : World) (hs : l.length ≤ 1000) :
    Calls Tryd.prog 9 #[.string (S l)] w fun e w' => e = .returned (.tuple #[.string (S ((fmtInt l).getD [])), .bool (fmtInt l).isSome]) ∧ Below w.heap.size w w' := by
  have hmf : ∀ (fn : Fn) (first cap : Array Value) (w : World), (Instr.makeFunc fn first cap).run Tryd.prog w = .ok (.func fn first cap) w := fun _ _ _ _ => rfl
  go_enter Tryd.func9, Tryd.ntmps9
  go_wp2_with fail
  refine (safe_ret 20 _ _ (fun w' => Below w.heap.size w w' ∧ w'.heap[w.heap.size + 1]? = some (.cells #[.string (S ((fmtInt l).getD []))] 9 (0, 0)) ∧ w'.heap[w.heap.size + 1 + 1]? = some (.cells #[.bool (fmtInt l).isSome] 4 (0, 0))) (callCInt _) ?_).mono ?_
  · refine (fmtIntC_walk l _ _ _ ⟨#[]⟩ false _ hs ?_ ?_ ?_ ?_).mono ?_
    · simp only [heap_get, heap_size_alloc]
      rw [if_neg (by omega), if_neg (by omega), if_neg (by omega), if_pos trivial]
    · simp only [heap_get, heap_size_alloc]
      rw [if_neg (by omega), if_neg (by omega), if_pos trivial]
    · simp only [heap_get, heap_size_alloc]
      rw [if_neg (by omega), if_pos trivial]
    · omega
    · rintro e w1 ⟨rfl, he, k2, k3⟩
      have hz := he.size
      simp only [heap_size_alloc] at hz
      refine ⟨rfl, ?_, ?_, ?_, ?_⟩
      · rw [he.block _ (by simp only [heap_size_alloc]; omega) (by simp only [heap_size_alloc]; omega)]
        simp only [heap_get, heap_size_alloc]
        rw [if_pos trivial]
      · refine Below.setCell (Below.setCell ?_ (by simp only [heap_size_alloc]; omega) _) (by simp only [heap_size_alloc]; omega) _
        exact ((((Below.refl _ w).alloc (Nat.le_refl _) _).alloc (by simp only [heap_size_alloc]; omega) _).alloc (by simp only [heap_size_alloc]; omega) _).alloc (by simp only [heap_size_alloc]; omega) _ |>.trans (he.below (by simp only [heap_size_alloc]; omega) (by rintro k (rfl | rfl) <;> omega))
      · rw [one_other (by simp only [heap_size_alloc]; omega), one_other (by simp only [heap_size_alloc]; omega)]
        exact k2
      · rw [one_other (by simp only [heap_size_alloc]; omega), one_other (by simp only [heap_size_alloc]; omega)]
        exact k3
  · rintro e w1 ⟨rfl, hb, k2, k3⟩
    have c2 := one_cell k2
    have c3 := one_cell k3
    have f2 := one_free k2 0
    have f3 := one_free k3 0
    have K2 := Lib.hid k2
    have K3 := Lib.hid k3
    clear k2 k3
    cases ho : fmtInt l with
    | none =>
      rw [ho] at c2 c3
      have HO := Lib.hid ho
      clear ho
      go_wp2_with fail
      have e2 := (one_other (u := .bool false) (w := w1.setCell ⟨w.heap.size + 1, 0, none⟩ (.string ⟨#[]⟩)) (g := w.heap.size + 1) (a := ⟨w.heap.size + 1 + 1, 0, none⟩) (by simp)).trans (one_set (u := .string ⟨#[]⟩) K2.out)
      have e3 := one_set (u := .bool false) ((one_other (u := .string ⟨#[]⟩) (w := w1) (g := w.heap.size + 1 + 1) (a := ⟨w.heap.size + 1, 0, none⟩) (by simp)).trans K3.out)
      have d2 := one_cell e2
      have d3 := one_cell e3
      rw [HO.out]
      exact bodyPost_ret (v := .tuple #[.string (S []), .bool false]) (by simp [results, Tryd.results9, go_sem, d2, d3]; rfl) rfl ⟨rfl, (hb.setCell (p := ⟨w.heap.size + 1, 0, none⟩) (by simp) _).setCell (p := ⟨w.heap.size + 1 + 1, 0, none⟩) (by simp; omega) _⟩
    | some o =>
      rw [ho] at c2 c3
      have HO := Lib.hid ho
      clear ho
      go_wp2_with fail
      have e2 := (one_other (u := .bool true) (w := w1.setCell ⟨w.heap.size + 1, 0, none⟩ (.string (S o))) (g := w.heap.size + 1) (a := ⟨w.heap.size + 1 + 1, 0, none⟩) (by simp)).trans (one_set (u := .string (S o)) K2.out)
      have e3 := one_set (u := .bool true) ((one_other (u := .string (S o)) (w := w1) (g := w.heap.size + 1 + 1) (a := ⟨w.heap.size + 1, 0, none⟩) (by simp)).trans K3.out)
      have d2 := one_cell e2
      have d3 := one_cell e3
      rw [HO.out]
      exact bodyPost_ret (v := .tuple #[.string (S o), .bool true]) (by simp [results, Tryd.results9, go_sem, d2, d3]) rfl ⟨rfl, (hb.setCell (p := ⟨w.heap.size + 1, 0, none⟩) (by simp) _).setCell (p := ⟨w.heap.size + 1 + 1, 0, none⟩) (by simp; omega) _⟩

set_option maxRecDepth 100000 in
set_option maxHeartbeats 1000000 in
theorem fmtDecC_walk (l : List UInt8) (b1 b2 b3 : Nat) (x : ByteArray) (y : Bool) (w : World) (hs : l.length ≤ 1000) (h1 : w.heap[b1]? = some (.cells #[.string (S l)] 9 (0, 0)))
    (h2 : w.heap[b2]? = some (.cells #[.string x] 9 (0, 0))) (h3 : w.heap[b3]? = some (.cells #[.bool y] 4 (0, 0))) (hne : b2 ≠ b3) :
    Calls Tryd.prog 22 #[.pointer (some ⟨b1, 0, none⟩), .pointer (some ⟨b2, 0, none⟩), .pointer (some ⟨b3, 0, none⟩)] w fun e w' => e = .returned (.tuple #[]) ∧ Ext (fun k => k = b2 ∨ k = b3) w w' ∧
      w'.heap[b2]? = some (.cells #[.string (S ((fmtDec l).getD []))] 9 (0, 0)) ∧ w'.heap[b3]? = some (.cells #[.bool (fmtDec l).isSome] 4 (0, 0)) := by
  have c1 := one_cell h1
  have hl2 := iter_lt h2
  have hl3 := iter_lt h3
  have H2 := Lib.hid h2
  have H3 := Lib.hid h3
  clear h1 h2 h3
  go_enter Tryd.func22, Tryd.ntmps22
  go_wp2_with fail
  refine (fmtDec_walk l _ hs).mono ?_
  intro e w1 hpost
  unfold FmtPost at hpost
  cases ho : fmtDec l with
  | none =>
    rw [ho] at hpost
    obtain ⟨⟨a, rfl⟩, hb⟩ := hpost
    have k2 := (hb.block b2 hl2).trans H2.out
    have k3 := (hb.block b3 hl3).trans H3.out
    have c2 := one_cell k2
    have c3 := one_cell k3
    have f2 := one_free k2 0
    have f3 := one_free k3 0
    have K2 := Lib.hid k2
    have K3 := Lib.hid k3
    have HO := Lib.hid ho
    clear k2 k3 ho
    go_wp2_with fail
    go_region
    go_wp2_with fail
    go_end0
    refine ⟨rfl, ((((Ext.of_below hb).setCell (p := ⟨b2, 0, none⟩) (fun _ => .inl rfl) _).setCell (p := ⟨b3, 0, none⟩) (fun _ => .inr rfl) _).drew), ?_, ?_⟩
    · rw [one_drew, one_other hne, HO.out]
      exact one_set K2.out
    · rw [one_drew, HO.out]
      exact one_set ((one_other (a := ⟨b2, 0, none⟩) hne.symm).trans K3.out)
  | some o =>
    rw [ho] at hpost
    obtain ⟨rfl, hb⟩ := hpost
    have k2 := (hb.block b2 hl2).trans H2.out
    have k3 := (hb.block b3 hl3).trans H3.out
    have c2 := one_cell k2
    have c3 := one_cell k3
    have f2 := one_free k2 0
    have f3 := one_free k3 0
    have K2 := Lib.hid k2
    have K3 := Lib.hid k3
    have HO := Lib.hid ho
    clear k2 k3 ho
    go_wp2_with fail
    go_region
    go_wp2_with fail
    go_end0
    refine ⟨rfl, ((((Ext.of_below hb).setCell (p := ⟨b2, 0, none⟩) (fun _ => .inl rfl) _).setCell (p := ⟨b3, 0, none⟩) (fun _ => .inr rfl) _).drew), ?_, ?_⟩
    · rw [one_drew, one_other hne, HO.out]
      exact one_set K2.out
    · rw [one_drew, HO.out]
      exact one_set ((one_other (a := ⟨b2, 0, none⟩) hne.symm).trans K3.out)

theorem callCDec : ∀ (caps : Array Value) (w : World), (callFunc 22 caps).run Tryd.prog w = .ok (.enter 22 caps) w := fun _ _ => by rfl

set_option maxRecDepth 100000 in
set_option maxHeartbeats 1000000 in
theorem implFmtDec_walk (l : List UInt8) (w : World) (hs : l.length ≤ 1000) :
    Calls Tryd.prog 10 #[.string (S l)] w fun e w' => e = .returned (.tuple #[.string (S ((fmtDec l).getD [])), .bool (fmtDec l).isSome]) ∧ Below w.heap.size w w' := by
  have hmf : ∀ (fn : Fn) (first cap : Array Value) (w : World), (Instr.makeFunc fn first cap).run Tryd.prog w = .ok (.func fn first cap) w := fun _ _ _ _ => rfl
  go_enter Tryd.func10, Tryd.ntmps10
  go_wp2_with fail
  refine (safe_ret 22 _ _ (fun w' => Below w.heap.size w w' ∧ w'.heap[w.heap.size + 1]? = some (.cells #[.string (S ((fmtDec l).getD []))] 9 (0, 0)) ∧ w'.heap[w.heap.size + 1 + 1]? = some (.cells #[.bool (fmtDec l).isSome] 4 (0, 0))) (callCDec _) ?_).mono ?_
  · refine (fmtDecC_walk l _ _ _ ⟨#[]⟩ false _ hs ?_ ?_ ?_ ?_).mono ?_
    · simp only [heap_get, heap_size_alloc]
      rw [if_neg (by omega), if_neg (by omega), if_neg (by omega), if_pos trivial]
    · simp only [heap_get, heap_size_alloc]
      rw [if_neg (by omega), if_neg (by omega), if_pos trivial]
    · simp only [heap_get, heap_size_alloc]
      rw [if_neg (by omega), if_pos trivial]
    · omega
    · rintro e w1 ⟨rfl, he, k2, k3⟩
      have hz := he.size
      simp only [heap_size_alloc] at hz
      refine ⟨rfl, ?_, ?_, ?_, ?_⟩
      · rw [he.block _ (by simp only [heap_size_alloc]; omega) (by simp only [heap_size_alloc]; omega)]
        simp only [heap_get, heap_size_alloc]
        rw [if_pos trivial]
      · refine Below.setCell (Below.setCell ?_ (by simp only [heap_size_alloc]; omega) _) (by simp only [heap_size_alloc]; omega) _
        exact ((((Below.refl _ w).alloc (Nat.le_refl _) _).alloc (by simp only [heap_size_alloc]; omega) _).alloc (by simp only [heap_size_alloc]; omega) _).alloc (by simp only [heap_size_alloc]; omega) _ |>.trans (he.below (by simp only [heap_size_alloc]; omega) (by rintro k (rfl | rfl) <;> omega))
      · rw [one_other (by simp only [heap_size_alloc]; omega), one_other (by simp only [heap_size_alloc]; omega)]
        exact k2
      · rw [one_other (by simp only [heap_size_alloc]; omega), one_other (by simp only [heap_size_alloc]; omega)]
        exact k3
  · rintro e w1 ⟨rfl, hb, k2, k3⟩
    have c2 := one_cell k2
    have c3 := one_cell k3
    have f2 := one_free k2 0
    have f3 := one_free k3 0
    have K2 := Lib.hid k2
    have K3 := Lib.hid k3
    clear k2 k3
    cases ho : fmtDec l with
    | none =>
      rw [ho] at c2 c3
      have HO := Lib.hid ho
      clear ho
      go_wp2_with fail
      have e2 := (one_other (u := .bool false) (w := w1.setCell ⟨w.heap.size + 1, 0, none⟩ (.string ⟨#[]⟩)) (g := w.heap.size + 1) (a := ⟨w.heap.size + 1 + 1, 0, none⟩) (by simp)).trans (one_set (u := .string ⟨#[]⟩) K2.out)
      have e3 := one_set (u := .bool false) ((one_other (u := .string ⟨#[]⟩) (w := w1) (g := w.heap.size + 1 + 1) (a := ⟨w.heap.size + 1, 0, none⟩) (by simp)).trans K3.out)
      have d2 := one_cell e2
      have d3 := one_cell e3
      rw [HO.out]
      exact bodyPost_ret (v := .tuple #[.string (S []), .bool false]) (by simp [results, Tryd.results10, go_sem, d2, d3]; rfl) rfl ⟨rfl, (hb.setCell (p := ⟨w.heap.size + 1, 0, none⟩) (by simp) _).setCell (p := ⟨w.heap.size + 1 + 1, 0, none⟩) (by simp; omega) _⟩
    | some o =>
      rw [ho] at c2 c3
      have HO := Lib.hid ho
      clear ho
      go_wp2_with fail
      have e2 := (one_other (u := .bool true) (w := w1.setCell ⟨w.heap.size + 1, 0, none⟩ (.string (S o))) (g := w.heap.size + 1) (a := ⟨w.heap.size + 1 + 1, 0, none⟩) (by simp)).trans (one_set (u := .string (S o)) K2.out)
      have e3 := one_set (u := .bool true) ((one_other (u := .string (S o)) (w := w1) (g := w.heap.size + 1 + 1) (a := ⟨w.heap.size + 1, 0, none⟩) (by simp)).trans K3.out)
      have d2 := one_cell e2
      have d3 := one_cell e3
      rw [HO.out]
      exact bodyPost_ret (v := .tuple #[.string (S o), .bool true]) (by simp [results, Tryd.results10, go_sem, d2, d3]) rfl ⟨rfl, (hb.setCell (p := ⟨w.heap.size + 1, 0, none⟩) (by simp) _).setCell (p := ⟨w.heap.size + 1 + 1, 0, none⟩) (by simp; omega) _⟩

end Go.Proofs.YtikacehcjaaamaaDoor
