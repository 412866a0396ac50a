/-
  ParseUint, impl.UintRead.
-/
import Derived.Test.YtiohlcfdoleooaaGreatDoorUintNew
import Derived.Test.YtiohlcfdoleooaaGreatDoorSpecMul
import Derived.Test.YtiohlcfdoleooaaGreatDoorSetStr0
namespace Go.Proofs.YtiohlcfdoleooaaGreatDoor
open Go.RowKit

theorem read_words {l : List UInt8} (hok : readOk l = true) (hl : l.length ≤ 1000) : (wds (readZ l).natAbs).length ≤ 1000 := by
  rw [read_abs]
  obtain ⟨c, t, _, _, _, hbody, hdig, _⟩ := read_scan hok
  have h1 := wds_len_dec (decV_lt hdig)
  have h2 : (readBody l).length ≤ l.length := by rw [hbody]; simp
  omega

set_option maxRecDepth 100000 in
set_option maxHeartbeats 2000000 in
theorem parseUint_walk (l : List UInt8) (p : Addr) (w : World) (hok : readOk l = true) (hl : l.length ≤ 1000) (hp : EofIs w p) (ho : overU (readZ l) = false) :
    Calls Tryz.prog 123 #[.string (S l)] w (CheckPost w (readZ l)) := by
  have hwl := read_words hok hl
  have hpl := hp.lt
  go_enter Tryz.func123, Tryz.ntmps123
  go_wp2_with fail
  refine (setString0_walk (w.heap.size + 1) l p _ hok hl (heap_at _ _ (heap_size_alloc _ _)) ((hp.below (below_a1 _ _)).below (below_a1 _ _)) (by omega)).mono ?_
  rintro e w2 ⟨rfl, hi2, hx2⟩
  have hk2 := (hx2.block w.heap.size (by rw [heap_size_alloc, heap_size_alloc]; omega) (by omega)).trans (heap_old (o := .cells #[.bool false, .slice none 0 0] 101) (heap_here w (.cells #[.pointer none] 64)))
  have hb2 : Below w.heap.size w w2 := (below_a2 _ _ _).trans (hx2.below (by rw [heap_size_alloc, heap_size_alloc]; omega) (fun k hk => by omega))
  have HK2 := Lib.hid hk2
  have HI2 := Lib.hid hi2
  have HB2 := Lib.hid hb2
  clear hk2 hi2 hx2 hb2
  go_wp2_with fail
  refine (checkNewUint_walk (w.heap.size + 1) (readZ l) w2 HI2.out (by omega) ho).mono ?_
  rintro e w5 ⟨g5, rfl, hi5, hb5, hfr⟩
  have hk5 := (hb5.block w.heap.size (iter_lt HK2.out)).trans HK2.out
  have c0 := one_cell hk5
  have f0 := one_free hk5 0
  have HK5 := Lib.hid hk5
  have HI5 := Lib.hid hi5
  have HB5 := Lib.hid hb5
  clear hk5 hi5 hb5
  go_wp2_with fail
  have k0 := one_set (u := .pointer (some ⟨g5, 0, none⟩)) HK5.out
  have d0 := one_cell k0
  exact bodyPost_ret (v := .tuple #[.agg #[.pointer (some ⟨g5, 0, none⟩)], .nilIface]) (by simp [results, Tryz.results123, go_sem, d0]) rfl
    ⟨g5, rfl, HI5.out.store HK5.out (by decide) (by decide) _, (bt HB2.out HB5.out).setCell (p := ⟨w.heap.size, 0, none⟩) (Nat.le_refl _) _, Nat.le_trans HB2.out.size hfr⟩

set_option maxRecDepth 100000 in
set_option maxHeartbeats 2000000 in
theorem parseUint_err (l : List UInt8) (p : Addr) (w : World) (hok : readOk l = true) (hl : l.length ≤ 1000) (hp : EofIs w p) (ho : overU (readZ l) = true) :
    Calls Tryz.prog 123 #[.string (S l)] w (CheckErr w) := by
  have hwl := read_words hok hl
  have hpl := hp.lt
  go_enter Tryz.func123, Tryz.ntmps123
  go_wp2_with fail
  refine (setString0_walk (w.heap.size + 1) l p _ hok hl (heap_at _ _ (heap_size_alloc _ _)) ((hp.below (below_a1 _ _)).below (below_a1 _ _)) (by omega)).mono ?_
  rintro e w2 ⟨rfl, hi2, hx2⟩
  have hk2 := (hx2.block w.heap.size (by rw [heap_size_alloc, heap_size_alloc]; omega) (by omega)).trans (heap_old (o := .cells #[.bool false, .slice none 0 0] 101) (heap_here w (.cells #[.pointer none] 64)))
  have hb2 : Below w.heap.size w w2 := (below_a2 _ _ _).trans (hx2.below (by rw [heap_size_alloc, heap_size_alloc]; omega) (fun k hk => by omega))
  have HK2 := Lib.hid hk2
  have HI2 := Lib.hid hi2
  have HB2 := Lib.hid hb2
  clear hk2 hi2 hx2 hb2
  go_wp2_with fail
  refine (checkNewUint_err (w.heap.size + 1) (readZ l) w2 HI2.out (by omega) ho).mono ?_
  rintro e w5 ⟨a, rfl, hb5⟩
  have hk5 := (hb5.block w.heap.size (iter_lt HK2.out)).trans HK2.out
  have c0 := one_cell hk5
  have f0 := one_free hk5 0
  have HK5 := Lib.hid hk5
  have HB5 := Lib.hid hb5
  clear hk5 hb5
  go_wp2_with fail
  have k0 := one_set (u := .pointer none) HK5.out
  have d0 := one_cell k0
  exact bodyPost_ret (v := .tuple #[.agg #[.pointer none], .iface 145 (.pointer (some a))]) (by simp [results, Tryz.results123, go_sem, d0]) rfl
    ⟨a, rfl, (bt HB2.out HB5.out).setCell (p := ⟨w.heap.size, 0, none⟩) (Nat.le_refl _) _⟩

theorem overU_len {z : Int} (h : overU z = false) : natLen z.natAbs ≤ 320 ∧ ¬ z < 0 := by
  unfold overU at h
  rw [Bool.or_eq_false_iff] at h
  have h1 := of_decide_eq_false h.1
  have h2 := of_decide_eq_false h.2
  exact ⟨by omega, h1⟩

def readOut (l : List UInt8) : List UInt8 := if overU (readZ l) = true then [] else zText (readZ l)
set_option maxRecDepth 100000 in
set_option maxHeartbeats 2000000 in
theorem uintReadC_walk (l : List UInt8) (p : Addr) (b1 b2 b3 : Nat) (w : World) (hok : readOk l = true) (hl : l.length ≤ 1000) (hp : EofIs w p) (hleaf : LeafIs w) (h1 : w.heap[b1]? = some (.cells #[.string (S l)] 9 (0, 0)))
    (h2 : w.heap[b2]? = some (.cells #[.string ⟨#[]⟩] 9 (0, 0))) (h3 : w.heap[b3]? = some (.cells #[.bool false] 4 (0, 0))) (hne : b2 ≠ b3) :
    Calls Tryz.prog 122 #[.pointer (some ⟨b1, 0, none⟩), .pointer (some ⟨b2, 0, none⟩), .pointer (some ⟨b3, 0, none⟩)] w fun e w' => e = .returned (.tuple #[]) ∧ Ext (fun k => k = b2 ∨ k = b3) w w' ∧
      w'.heap[b2]? = some (.cells #[.string (S (readOut l))] 9 (0, 0)) ∧ w'.heap[b3]? = some (.cells #[.bool (!overU (readZ l))] 4 (0, 0)) := by
  have c1 := one_cell h1
  have hl2 := iter_lt h2
  have hl3 := iter_lt h3
  have H2 := Lib.hid h2
  have H3 := Lib.hid h3
  clear h1 h2 h3
  cases ho : overU (readZ l) with
  | true =>
    have hro : readOut l = [] := by unfold readOut; rw [if_pos ho]
    have HO := Lib.hid ho
    rw [hro]
    clear ho hro
    go_enter Tryz.func122, Tryz.ntmps122
    go_wp2_with fail
    refine (parseUint_err l p w hok hl hp HO.out).mono ?_
    rintro e w1 ⟨a, rfl, hb1⟩
    have HB := Lib.hid hb1
    clear hb1
    go_wp2_with fail
    go_end0
    exact ⟨rfl, Ext.of_below (bt HB.out (below_a1 _ _)), heap_old ((HB.out.block b2 hl2).trans H2.out), heap_old ((HB.out.block b3 hl3).trans H3.out)⟩
  | false =>
    have hro : readOut l = zText (readZ l) := by unfold readOut; rw [if_neg (by rw [ho]; decide)]
    obtain ⟨hnl, _⟩ := overU_len ho
    have HO := Lib.hid ho
    rw [hro]
    clear ho hro
    go_enter Tryz.func122, Tryz.ntmps122
    go_wp2_with fail
    refine (parseUint_walk l p w hok hl hp HO.out).mono ?_
    rintro e w1 ⟨g, rfl, hi1, hb1, _⟩
    have HB := Lib.hid hb1
    have HI := Lib.hid hi1
    clear hb1 hi1
    go_wp2_with fail
    refine (uintString_walk g (readZ l) _ (HI.out.below (below_a1 _ _)) hnl ((hleaf.below HB.out).below (below_a1 _ _))).mono ?_
    rintro e w2 ⟨rfl, hb2⟩
    have hbb := bt (bt HB.out (below_a1 w1 (.cells #[.pointer (some ⟨g, 0, none⟩)] 64))) hb2
    have k2 := (hbb.block b2 hl2).trans H2.out
    have k3 := (hbb.block b3 hl3).trans H3.out
    have c2 := one_cell k2
    have c3 := one_cell k3
    have f2 := one_free k2 0
    have f3 := one_free k3 0
    have K2 := Lib.hid k2
    have K3 := Lib.hid k3
    have HBB := Lib.hid hbb
    clear k2 k3 hbb hb2
    go_wp2_with fail
    go_end0
    refine ⟨rfl, (((Ext.of_below HBB.out).setCell (p := ⟨b2, 0, none⟩) (fun _ => .inl rfl) _).setCell (p := ⟨b3, 0, none⟩) (fun _ => .inr rfl) _), ?_, ?_⟩
    · rw [one_other hne]
      exact one_set K2.out
    · exact one_set ((one_other (a := ⟨b2, 0, none⟩) hne.symm).trans K3.out)

set_option maxRecDepth 100000 in
theorem callCUintRead : ∀ (caps : Array Value) (w : World), (callFunc 122 caps).run Tryz.prog w = .ok (.enter 122 caps) w := fun _ _ => by rfl
set_option maxRecDepth 100000 in
set_option maxHeartbeats 2000000 in
theorem uintRead_walk (l : List UInt8) (p : Addr) (w : World) (hok : readOk l = true) (hl : l.length ≤ 1000) (hp : EofIs w p) (hleaf : LeafIs w) :
    Calls Tryz.prog 47 #[.string (S l)] w fun e w' => e = .returned (.tuple #[.string (S (readOut l)), .bool (!overU (readZ l))]) ∧ Below w.heap.size w w' := by
  have hmf : ∀ (fn : Fn) (first cap : Array Value) (w : World), (Instr.makeFunc fn first cap).run Tryz.prog w = .ok (.func fn first cap) w := fun _ _ _ _ => rfl
  go_enter Tryz.func47, Tryz.ntmps47
  go_wp2_with fail
  refine (safe_ret 122 _ _ (fun w' => Below w.heap.size w w' ∧ w'.heap[w.heap.size + 1]? = some (.cells #[.string (S (readOut l))] 9 (0, 0)) ∧ w'.heap[w.heap.size + 1 + 1]? = some (.cells #[.bool (!overU (readZ l))] 4 (0, 0))) (callCUintRead _) ?_).mono ?_
  · refine (uintReadC_walk l p _ _ _ _ hok hl ((((hp.below (below_a1 _ _)).below (below_a1 _ _)).below (below_a1 _ _)).below (below_a1 _ _)) ((((hleaf.below (below_a1 _ _)).below (below_a1 _ _)).below (below_a1 _ _)).below (below_a1 _ _)) ?_ ?_ ?_ ?_).mono ?_
    · simp only [heap_get, heap_size_alloc]
      rw [if_neg (by omega), if_neg (by omega), if_neg (by omega), if_pos trivial]
    · simp only [heap_get, heap_size_alloc]
      rw [if_neg (by omega), if_neg (by omega), if_pos trivial]
    · simp only [heap_get, heap_size_alloc]
      rw [if_neg (by omega), if_pos trivial]
    · omega
    · rintro e w1 ⟨rfl, he, k2, k3⟩
      have hz := he.size
      simp only [heap_size_alloc] at hz
      refine ⟨rfl, ?_, ?_, ?_, ?_⟩
      · rw [he.block _ (by simp only [heap_size_alloc]; omega) (by simp only [heap_size_alloc]; omega)]
        simp only [heap_get, heap_size_alloc]
        rw [if_pos trivial]
      · refine Below.setCell (Below.setCell ?_ (by simp only [heap_size_alloc]; omega) _) (by simp only [heap_size_alloc]; omega) _
        exact ((((Below.refl _ w).alloc (Nat.le_refl _) _).alloc (by simp only [heap_size_alloc]; omega) _).alloc (by simp only [heap_size_alloc]; omega) _).alloc (by simp only [heap_size_alloc]; omega) _ |>.trans (he.below (by simp only [heap_size_alloc]; omega) (by rintro k (rfl | rfl) <;> omega))
      · rw [one_other (by simp only [heap_size_alloc]; omega), one_other (by simp only [heap_size_alloc]; omega)]
        exact k2
      · rw [one_other (by simp only [heap_size_alloc]; omega), one_other (by simp only [heap_size_alloc]; omega)]
        exact k3
  · rintro e w1 ⟨rfl, hb, k2, k3⟩
    have c2 := one_cell k2
    have c3 := one_cell k3
    have f2 := one_free k2 0
    have f3 := one_free k3 0
    have K2 := Lib.hid k2
    have K3 := Lib.hid k3
    clear k2 k3
    obtain ⟨b, hob⟩ : ∃ b, overU (readZ l) = b := ⟨_, rfl⟩
    have hro : b = true → readOut l = [] := fun h => by unfold readOut; rw [if_pos (hob.trans h)]
    rw [hob] at c3 K3
    cases b with
    | true =>
      have HRO := Lib.hid (hro rfl)
      have HOB := Lib.hid hob
      clear hob hro
      go_wp2_with fail
      have e2 := (one_other (u := .bool false) (w := w1.setCell ⟨w.heap.size + 1, 0, none⟩ (.string ⟨#[]⟩)) (g := w.heap.size + 1) (a := ⟨w.heap.size + 1 + 1, 0, none⟩) (by simp)).trans (one_set (u := .string ⟨#[]⟩) K2.out)
      have e3 := one_set (u := .bool false) ((one_other (u := .string ⟨#[]⟩) (w := w1) (g := w.heap.size + 1 + 1) (a := ⟨w.heap.size + 1, 0, none⟩) (by simp)).trans K3.out)
      have d2 := one_cell e2
      have d3 := one_cell e3
      exact bodyPost_ret (v := .tuple #[.string (S []), .bool false]) (by simp [results, Tryz.results47, go_sem, d2, d3]; rfl) rfl ⟨by rw [HRO.out, HOB.out]; rfl, (hb.setCell (p := ⟨w.heap.size + 1, 0, none⟩) (by simp) _).setCell (p := ⟨w.heap.size + 1 + 1, 0, none⟩) (by simp; omega) _⟩
    | false =>
      have HOB := Lib.hid hob
      clear hob hro
      go_wp2_with fail
      have e2 := (one_other (u := .bool true) (w := w1.setCell ⟨w.heap.size + 1, 0, none⟩ (.string (S (readOut l)))) (g := w.heap.size + 1) (a := ⟨w.heap.size + 1 + 1, 0, none⟩) (by simp)).trans (one_set (u := .string (S (readOut l))) K2.out)
      have e3 := one_set (u := .bool true) ((one_other (u := .string (S (readOut l))) (w := w1) (g := w.heap.size + 1 + 1) (a := ⟨w.heap.size + 1, 0, none⟩) (by simp)).trans K3.out)
      have d2 := one_cell e2
      have d3 := one_cell e3
      exact bodyPost_ret (v := .tuple #[.string (S (readOut l)), .bool true]) (by simp [results, Tryz.results47, go_sem, d2, d3]) rfl ⟨by rw [HOB.out]; rfl, (hb.setCell (p := ⟨w.heap.size + 1, 0, none⟩) (by simp) _).setCell (p := ⟨w.heap.size + 1 + 1, 0, none⟩) (by simp; omega) _⟩
end Go.Proofs.YtiohlcfdoleooaaGreatDoor
