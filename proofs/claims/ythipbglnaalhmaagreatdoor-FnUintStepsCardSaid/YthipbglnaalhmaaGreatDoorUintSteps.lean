/-
  impl.UintSteps.
-/
import Derived.Test.YthipbglnaalhmaaGreatDoorUintStep
import Derived.Test.YthipbglnaalhmaaGreatDoorUintRead
namespace Go.Proofs.YthipbglnaalhmaaGreatDoor
open Go.RowKit

/-- The text of a number that a Uint may hold; none of another one. -/
def outU (z : Int) : List UInt8 := if overU z = true then [] else zText z

set_option maxRecDepth 100000 in
set_option maxHeartbeats 2000000 in
theorem incrC_walk (l : List UInt8) (p : Addr) (b1 b2 : Nat) (w : World) (hok : readOk l = true) (hl : l.length ≤ 1000) (hp : EofIs w p) (hleaf : LeafIs w) (h1 : w.heap[b1]? = some (.cells #[.string (S l)] 9 (0, 0)))
    (h2 : w.heap[b2]? = some (.cells #[.string ⟨#[]⟩] 9 (0, 0))) (ox : overU (readZ l) = false) (oz : overU (readZ l + 1) = false) :
    Calls Tryz.prog 48 #[.pointer (some ⟨b1, 0, none⟩), .pointer (some ⟨b2, 0, none⟩)] w fun e w' => e = .returned (.tuple #[]) ∧ Ext (fun k => k = b2) w w' ∧
      w'.heap[b2]? = some (.cells #[.string (S (zText (readZ l + 1)))] 9 (0, 0)) := by
  have c1 := one_cell h1
  have hl2 := iter_lt h2
  have H2 := Lib.hid h2
  have HU := Lib.hid (unsigned_walk l p w hok hl hp ox)
  have HI := Lib.hid (fun (g : Nat) (w2 : World) (h : IntAt w2 g (readZ l)) => incr_walk g (readZ l) w2 h ox oz)
  obtain ⟨hnl, _⟩ := overU_len oz
  have HLF := Lib.hid hleaf
  clear h1 h2 hp hleaf ox oz
  go_enter Tryz.func48, Tryz.ntmps48
  go_wp2_with fail
  refine HU.out.mono ?_
  rintro e w1 ⟨g1, rfl, hi1, hb1, _⟩
  have HI1 := Lib.hid hi1
  have HB1 := Lib.hid hb1
  clear hi1 hb1
  go_wp2_with fail
  refine (HI.out g1 w1 HI1.out).mono ?_
  rintro e w2 ⟨g2, rfl, hi2, hb2, _⟩
  have HI2 := Lib.hid hi2
  have HB2 := Lib.hid (bt HB1.out hb2)
  clear hi2 hb2
  go_wp2_with fail
  refine (uintString_walk g2 (readZ l + 1) w2 HI2.out hnl (HLF.out.below HB2.out)).mono ?_
  rintro e w3 ⟨rfl, hb3⟩
  have hbb := bt HB2.out hb3
  have k2 := (hbb.block b2 hl2).trans H2.out
  have c2 := one_cell k2
  have f2 := one_free k2 0
  have K2 := Lib.hid k2
  have HBB := Lib.hid hbb
  clear k2 hbb hb3
  go_wp2_with fail
  go_end0
  exact ⟨rfl, Ext.setCell (D := fun k => k = b2) (p := ⟨b2, 0, none⟩) (Ext.of_below HBB.out) (fun _ => rfl) _, one_set K2.out⟩
set_option maxRecDepth 100000 in
set_option maxHeartbeats 2000000 in
theorem incrC_panic (l : List UInt8) (p : Addr) (b1 b2 : Nat) (w : World) (hok : readOk l = true) (hl : l.length ≤ 1000) (hp : EofIs w p) (h1 : w.heap[b1]? = some (.cells #[.string (S l)] 9 (0, 0)))
    (ox : overU (readZ l) = false) (oz : overU (readZ l + 1) = true) :
    Calls Tryz.prog 48 #[.pointer (some ⟨b1, 0, none⟩), .pointer (some ⟨b2, 0, none⟩)] w (PanicPost w) := by
  have c1 := one_cell h1
  have HU := Lib.hid (unsigned_walk l p w hok hl hp ox)
  have HI := Lib.hid (fun (g : Nat) (w2 : World) (h : IntAt w2 g (readZ l)) => incr_panic g (readZ l) w2 h ox oz)
  clear h1 hp ox oz
  go_enter Tryz.func48, Tryz.ntmps48
  go_wp2_with fail
  refine HU.out.mono ?_
  rintro e w1 ⟨g1, rfl, hi1, hb1, _⟩
  have HI1 := Lib.hid hi1
  have HB1 := Lib.hid hb1
  clear hi1 hb1
  go_wp2_with fail
  refine (HI.out g1 w1 HI1.out).mono ?_
  rintro e w5 ⟨t5, v5, rfl, hb5⟩
  have HB5 := Lib.hid (bt HB1.out hb5)
  clear hb5
  go_wp2_with fail
  have hp : PanicPost w (.panicked [{ v := .iface t5 v5, recovered := false }]) w5 := ⟨_, _, rfl, HB5.out⟩
  exact ⟨rfl, hp⟩
set_option maxRecDepth 100000 in
theorem callC_incr : ∀ (caps : Array Value) (w : World), (callFunc 48 caps).run Tryz.prog w = .ok (.enter 48 caps) w := fun _ _ => by rfl
theorem incr_safe (l : List UInt8) (p : Addr) (b1 b2 : Nat) (w : World) (hok : readOk l = true) (hl : l.length ≤ 1000) (hp : EofIs w p) (hleaf : LeafIs w) (h1 : w.heap[b1]? = some (.cells #[.string (S l)] 9 (0, 0)))
    (h2 : w.heap[b2]? = some (.cells #[.string ⟨#[]⟩] 9 (0, 0))) (ox : overU (readZ l) = false) :
    Calls Tryz.prog 41 #[.func (.func 48) #[] #[.pointer (some ⟨b1, 0, none⟩), .pointer (some ⟨b2, 0, none⟩)]] w fun e w' => e = .returned (.bool (!overU (readZ l + 1))) ∧ Ext (fun k => k = b2) w w' ∧
      w'.heap[b2]? = some (.cells #[.string (S (outU (readZ l + 1)))] 9 (0, 0)) := by
  have lt2 := iter_lt h2
  cases ho : overU (readZ l + 1) with
  | false =>
    have e1 : outU (readZ l + 1) = zText (readZ l + 1) := by unfold outU; rw [if_neg (by rw [ho]; decide)]
    rw [e1]
    refine safe_ret 48 _ w (fun w' => Ext (fun k => k = b2) w w' ∧ w'.heap[b2]? = some (.cells #[.string (S (zText (readZ l + 1)))] 9 (0, 0))) (callC_incr _) ?_
    refine (incrC_walk l p b1 b2 _ hok hl (hp.below (below_a1 _ _)) (hleaf.below (below_a1 _ _)) (heap_old h1) (heap_old h2) ox ho).mono ?_
    rintro e w1 ⟨rfl, he, k2⟩
    refine ⟨rfl, (he.block w.heap.size (by rw [heap_size_alloc]; omega) (by omega)).trans (heap_here _ _), ?_, ?_⟩
    · exact ((((Ext.refl _ w).alloc _).trans he).setCell (p := ⟨w.heap.size, 0, none⟩) (fun h => absurd h (Nat.lt_irrefl _)) _).setCell (p := ⟨w.heap.size, 0, none⟩) (fun h => absurd h (Nat.lt_irrefl _)) _
    · exact ((one_other (by show b2 ≠ w.heap.size; omega)).trans (one_other (by show b2 ≠ w.heap.size; omega))).trans k2
  | true =>
    have e1 : outU (readZ l + 1) = [] := by unfold outU; rw [if_pos ho]
    rw [e1]
    refine safe_panics 48 _ w (fun w' => Ext (fun k => k = b2) w w' ∧ w'.heap[b2]? = some (.cells #[.string (S [])] 9 (0, 0))) (callC_incr _) ?_
    refine (incrC_panic l p b1 b2 _ hok hl (hp.below (below_a1 _ _)) (heap_old h1) ox ho).mono ?_
    rintro e w1 ⟨t, v, rfl, hb⟩
    refine ⟨t, v, rfl, (hb.block w.heap.size (by rw [heap_size_alloc]; omega)).trans (heap_here _ _), ?_, ?_⟩
    · exact (((Ext.refl _ w).alloc _).trans (Ext.of_below hb)).setCell (p := ⟨w.heap.size, 0, none⟩) (fun h => absurd h (Nat.lt_irrefl _)) _
    · exact ((one_other (by show b2 ≠ w.heap.size; omega)).trans (hb.block b2 (by rw [heap_size_alloc]; omega))).trans (heap_old h2)

set_option maxRecDepth 100000 in
set_option maxHeartbeats 2000000 in
theorem decrC_walk (l : List UInt8) (p : Addr) (b1 b2 : Nat) (w : World) (hok : readOk l = true) (hl : l.length ≤ 1000) (hp : EofIs w p) (hleaf : LeafIs w) (h1 : w.heap[b1]? = some (.cells #[.string (S l)] 9 (0, 0)))
    (h2 : w.heap[b2]? = some (.cells #[.string ⟨#[]⟩] 9 (0, 0))) (ox : overU (readZ l) = false) (oz : overU (readZ l - 1) = false) :
    Calls Tryz.prog 51 #[.pointer (some ⟨b1, 0, none⟩), .pointer (some ⟨b2, 0, none⟩)] w fun e w' => e = .returned (.tuple #[]) ∧ Ext (fun k => k = b2) w w' ∧
      w'.heap[b2]? = some (.cells #[.string (S (zText (readZ l - 1)))] 9 (0, 0)) := by
  have c1 := one_cell h1
  have hl2 := iter_lt h2
  have H2 := Lib.hid h2
  have HU := Lib.hid (unsigned_walk l p w hok hl hp ox)
  have HI := Lib.hid (fun (g : Nat) (w2 : World) (h : IntAt w2 g (readZ l)) => decr_walk g (readZ l) w2 h ox oz)
  obtain ⟨hnl, _⟩ := overU_len oz
  have HLF := Lib.hid hleaf
  clear h1 h2 hp hleaf ox oz
  go_enter Tryz.func51, Tryz.ntmps51
  go_wp2_with fail
  refine HU.out.mono ?_
  rintro e w1 ⟨g1, rfl, hi1, hb1, _⟩
  have HI1 := Lib.hid hi1
  have HB1 := Lib.hid hb1
  clear hi1 hb1
  go_wp2_with fail
  refine (HI.out g1 w1 HI1.out).mono ?_
  rintro e w2 ⟨g2, rfl, hi2, hb2, _⟩
  have HI2 := Lib.hid hi2
  have HB2 := Lib.hid (bt HB1.out hb2)
  clear hi2 hb2
  go_wp2_with fail
  refine (uintString_walk g2 (readZ l - 1) w2 HI2.out hnl (HLF.out.below HB2.out)).mono ?_
  rintro e w3 ⟨rfl, hb3⟩
  have hbb := bt HB2.out hb3
  have k2 := (hbb.block b2 hl2).trans H2.out
  have c2 := one_cell k2
  have f2 := one_free k2 0
  have K2 := Lib.hid k2
  have HBB := Lib.hid hbb
  clear k2 hbb hb3
  go_wp2_with fail
  go_end0
  exact ⟨rfl, Ext.setCell (D := fun k => k = b2) (p := ⟨b2, 0, none⟩) (Ext.of_below HBB.out) (fun _ => rfl) _, one_set K2.out⟩
set_option maxRecDepth 100000 in
set_option maxHeartbeats 2000000 in
theorem decrC_panic (l : List UInt8) (p : Addr) (b1 b2 : Nat) (w : World) (hok : readOk l = true) (hl : l.length ≤ 1000) (hp : EofIs w p) (h1 : w.heap[b1]? = some (.cells #[.string (S l)] 9 (0, 0)))
    (ox : overU (readZ l) = false) (oz : overU (readZ l - 1) = true) :
    Calls Tryz.prog 51 #[.pointer (some ⟨b1, 0, none⟩), .pointer (some ⟨b2, 0, none⟩)] w (PanicPost w) := by
  have c1 := one_cell h1
  have HU := Lib.hid (unsigned_walk l p w hok hl hp ox)
  have HI := Lib.hid (fun (g : Nat) (w2 : World) (h : IntAt w2 g (readZ l)) => decr_panic g (readZ l) w2 h ox oz)
  clear h1 hp ox oz
  go_enter Tryz.func51, Tryz.ntmps51
  go_wp2_with fail
  refine HU.out.mono ?_
  rintro e w1 ⟨g1, rfl, hi1, hb1, _⟩
  have HI1 := Lib.hid hi1
  have HB1 := Lib.hid hb1
  clear hi1 hb1
  go_wp2_with fail
  refine (HI.out g1 w1 HI1.out).mono ?_
  rintro e w5 ⟨t5, v5, rfl, hb5⟩
  have HB5 := Lib.hid (bt HB1.out hb5)
  clear hb5
  go_wp2_with fail
  have hp : PanicPost w (.panicked [{ v := .iface t5 v5, recovered := false }]) w5 := ⟨_, _, rfl, HB5.out⟩
  exact ⟨rfl, hp⟩
set_option maxRecDepth 100000 in
theorem callC_decr : ∀ (caps : Array Value) (w : World), (callFunc 51 caps).run Tryz.prog w = .ok (.enter 51 caps) w := fun _ _ => by rfl
theorem decr_safe (l : List UInt8) (p : Addr) (b1 b2 : Nat) (w : World) (hok : readOk l = true) (hl : l.length ≤ 1000) (hp : EofIs w p) (hleaf : LeafIs w) (h1 : w.heap[b1]? = some (.cells #[.string (S l)] 9 (0, 0)))
    (h2 : w.heap[b2]? = some (.cells #[.string ⟨#[]⟩] 9 (0, 0))) (ox : overU (readZ l) = false) :
    Calls Tryz.prog 41 #[.func (.func 51) #[] #[.pointer (some ⟨b1, 0, none⟩), .pointer (some ⟨b2, 0, none⟩)]] w fun e w' => e = .returned (.bool (!overU (readZ l - 1))) ∧ Ext (fun k => k = b2) w w' ∧
      w'.heap[b2]? = some (.cells #[.string (S (outU (readZ l - 1)))] 9 (0, 0)) := by
  have lt2 := iter_lt h2
  cases ho : overU (readZ l - 1) with
  | false =>
    have e1 : outU (readZ l - 1) = zText (readZ l - 1) := by unfold outU; rw [if_neg (by rw [ho]; decide)]
    rw [e1]
    refine safe_ret 51 _ w (fun w' => Ext (fun k => k = b2) w w' ∧ w'.heap[b2]? = some (.cells #[.string (S (zText (readZ l - 1)))] 9 (0, 0))) (callC_decr _) ?_
    refine (decrC_walk l p b1 b2 _ hok hl (hp.below (below_a1 _ _)) (hleaf.below (below_a1 _ _)) (heap_old h1) (heap_old h2) ox ho).mono ?_
    rintro e w1 ⟨rfl, he, k2⟩
    refine ⟨rfl, (he.block w.heap.size (by rw [heap_size_alloc]; omega) (by omega)).trans (heap_here _ _), ?_, ?_⟩
    · exact ((((Ext.refl _ w).alloc _).trans he).setCell (p := ⟨w.heap.size, 0, none⟩) (fun h => absurd h (Nat.lt_irrefl _)) _).setCell (p := ⟨w.heap.size, 0, none⟩) (fun h => absurd h (Nat.lt_irrefl _)) _
    · exact ((one_other (by show b2 ≠ w.heap.size; omega)).trans (one_other (by show b2 ≠ w.heap.size; omega))).trans k2
  | true =>
    have e1 : outU (readZ l - 1) = [] := by unfold outU; rw [if_pos ho]
    rw [e1]
    refine safe_panics 51 _ w (fun w' => Ext (fun k => k = b2) w w' ∧ w'.heap[b2]? = some (.cells #[.string (S [])] 9 (0, 0))) (callC_decr _) ?_
    refine (decrC_panic l p b1 b2 _ hok hl (hp.below (below_a1 _ _)) (heap_old h1) ox ho).mono ?_
    rintro e w1 ⟨t, v, rfl, hb⟩
    refine ⟨t, v, rfl, (hb.block w.heap.size (by rw [heap_size_alloc]; omega)).trans (heap_here _ _), ?_, ?_⟩
    · exact (((Ext.refl _ w).alloc _).trans (Ext.of_below hb)).setCell (p := ⟨w.heap.size, 0, none⟩) (fun h => absurd h (Nat.lt_irrefl _)) _
    · exact ((one_other (by show b2 ≠ w.heap.size; omega)).trans (hb.block b2 (by rw [heap_size_alloc]; omega))).trans (heap_old h2)

set_option maxRecDepth 100000 in
set_option maxHeartbeats 4000000 in
theorem uintSteps_walk (l : List UInt8) (p : Addr) (w : World) (hok : readOk l = true) (hl : l.length ≤ 1000) (hp : EofIs w p) (hleaf : LeafIs w) (ox : overU (readZ l) = false) :
    Calls Tryz.prog 20 #[.string (S l)] w fun e w' => e = .returned (.tuple #[.string (S (outU (readZ l + 1))), .bool (!overU (readZ l + 1)), .string (S (outU (readZ l - 1))), .bool (!overU (readZ l - 1))]) ∧ Below w.heap.size w w' := by
  have hmf : ∀ (fn : Fn) (first cap : Array Value) (w : World), (Instr.makeFunc fn first cap).run Tryz.prog w = .ok (.func fn first cap) w := fun _ _ _ _ => rfl
  have k0 : (((w.alloc (.cells #[.string (S l)] 9)).alloc (.cells #[.string ⟨#[]⟩] 9)).alloc (.cells #[.string ⟨#[]⟩] 9)).heap[w.heap.size]? = some (.cells #[.string (S l)] 9 (0, 0)) := heap_old (heap_old (heap_here _ _))
  have k1 : (((w.alloc (.cells #[.string (S l)] 9)).alloc (.cells #[.string ⟨#[]⟩] 9)).alloc (.cells #[.string ⟨#[]⟩] 9)).heap[w.heap.size + 1]? = some (.cells #[.string ⟨#[]⟩] 9 (0, 0)) := heap_old (heap_at _ _ (heap_size_alloc _ _))
  have k2 : (((w.alloc (.cells #[.string (S l)] 9)).alloc (.cells #[.string ⟨#[]⟩] 9)).alloc (.cells #[.string ⟨#[]⟩] 9)).heap[w.heap.size + 1 + 1]? = some (.cells #[.string ⟨#[]⟩] 9 (0, 0)) := heap_at _ _ (by rw [heap_size_alloc, heap_size_alloc])
  have hb : Below w.heap.size w (((w.alloc (.cells #[.string (S l)] 9)).alloc (.cells #[.string ⟨#[]⟩] 9)).alloc (.cells #[.string ⟨#[]⟩] 9)) := bt (below_a2 _ _ _) (below_a1 _ _)
  obtain ⟨wa, hwa⟩ : ∃ wa, ((w.alloc (.cells #[.string (S l)] 9)).alloc (.cells #[.string ⟨#[]⟩] 9)).alloc (.cells #[.string ⟨#[]⟩] 9) = wa := ⟨_, rfl⟩
  rw [hwa] at k0 k1 k2 hb
  have HUP := Lib.hid (fun (w2 : World) (h1 : EofIs w2 p) (h2 : LeafIs w2) (h3 : w2.heap[w.heap.size]? = some (.cells #[.string (S l)] 9 (0, 0))) (h4 : w2.heap[w.heap.size + 1]? = some (.cells #[.string ⟨#[]⟩] 9 (0, 0))) => incr_safe l p _ _ w2 hok hl h1 h2 h3 h4 ox)
  have HDN := Lib.hid (fun (w2 : World) (h1 : EofIs w2 p) (h2 : LeafIs w2) (h3 : w2.heap[w.heap.size]? = some (.cells #[.string (S l)] 9 (0, 0))) (h4 : w2.heap[w.heap.size + 1 + 1]? = some (.cells #[.string ⟨#[]⟩] 9 (0, 0))) => decr_safe l p _ _ w2 hok hl h1 h2 h3 h4 ox)
  obtain ⟨T1, hT1⟩ : ∃ T1, outU (readZ l + 1) = T1 := ⟨_, rfl⟩
  obtain ⟨T2, hT2⟩ : ∃ T2, outU (readZ l - 1) = T2 := ⟨_, rfl⟩
  obtain ⟨o1, ho1⟩ : ∃ o1, (!overU (readZ l + 1)) = o1 := ⟨_, rfl⟩
  obtain ⟨o2, ho2⟩ : ∃ o2, (!overU (readZ l - 1)) = o2 := ⟨_, rfl⟩
  rw [hT1, ho1] at HUP
  rw [hT2, ho2] at HDN
  rw [hT1, hT2, ho1, ho2]
  have HWA := Lib.hid hwa
  have HP := Lib.hid hp
  have HLF := Lib.hid hleaf
  have K0 := Lib.hid k0
  have K1 := Lib.hid k1
  have K2 := Lib.hid k2
  have HB := Lib.hid hb
  have hlt0 := iter_lt k0
  have hlt1 := iter_lt k1
  have hlt2 := iter_lt k2
  clear hp hleaf hwa k0 k1 k2 hb hT1 hT2 ho1 ho2 ox hok
  go_enter Tryz.func20, Tryz.ntmps20
  go_wp2_with fail
  rw [HWA.out]
  refine (HUP.out wa (HP.out.below HB.out) (HLF.out.below HB.out) K0.out K1.out).mono ?_
  rintro e w1 ⟨rfl, he1, k1⟩
  have hk0 := (he1.block w.heap.size hlt0 (by omega)).trans K0.out
  have hk2 := (he1.block (w.heap.size + 1 + 1) hlt2 (by omega)).trans K2.out
  have HB1 := Lib.hid (HB.out.trans (he1.below (B := w.heap.size) (by omega) (fun k hk => by omega)))
  have HS1 := Lib.hid he1.size
  have HK0 := Lib.hid hk0
  have HK1 := Lib.hid k1
  have HK2 := Lib.hid hk2
  clear he1 hk0 k1 hk2
  go_wp2_with fail
  refine (HDN.out w1 (HP.out.below HB1.out) (HLF.out.below HB1.out) HK0.out HK2.out).mono ?_
  rintro e w2 ⟨rfl, he2, k2⟩
  have hs1 := HS1.out
  have k1 := (he2.block (w.heap.size + 1) (by omega) (by omega)).trans HK1.out
  have c1 := one_cell k1
  have c2 := one_cell k2
  have f1 := one_free k1 0
  have f2 := one_free k2 0
  have HB2 := Lib.hid (HB1.out.trans (he2.below (B := w.heap.size) (by omega) (fun k hk => by omega)))
  have J1 := Lib.hid k1
  have J2 := Lib.hid k2
  clear he2 k1 k2
  go_wp2_with fail
  go_region
  all_goals
    go_wp2_with fail
    have e1 := (one_other (w := w2.setCell ⟨w.heap.size + 1, 0, none⟩ (.string (S T1))) (u := .string (S T2)) (g := w.heap.size + 1) (a := ⟨w.heap.size + 1 + 1, 0, none⟩) (by simp)).trans (one_set (u := .string (S T1)) J1.out)
    have e2 := one_set (u := .string (S T2)) ((one_other (u := .string (S T1)) (w := w2) (g := w.heap.size + 1 + 1) (a := ⟨w.heap.size + 1, 0, none⟩) (by simp)).trans J2.out)
    have d1 := one_cell e1
    have d2 := one_cell e2
    exact bodyPost_ret (v := .tuple #[.string (S T1), .bool o1, .string (S T2), .bool o2]) (by simp [results, Tryz.results20, go_sem, d1, d2]) rfl ⟨rfl, ((HB2.out.setCell (p := ⟨w.heap.size + 1, 0, none⟩) (by simp) _).setCell (p := ⟨w.heap.size + 1 + 1, 0, none⟩) (by simp; omega) _).drew⟩
end Go.Proofs.YthipbglnaalhmaaGreatDoor
