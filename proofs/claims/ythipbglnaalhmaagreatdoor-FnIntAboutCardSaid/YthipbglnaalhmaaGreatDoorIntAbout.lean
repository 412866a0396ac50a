/-
  impl.IntAbout.
-/
import Derived.Test.YthipbglnaalhmaaGreatDoorIntInfo
import Derived.Deep.RegionHeld3
namespace Go.Proofs.YthipbglnaalhmaaGreatDoor
open Go.RowKit

theorem blk_cell {w : World} {g k : Nat} {cs : Array Value} {T : TypeId} {v : Value} (h : w.heap[g]? = some (.cells cs T (0, 0))) (hv : cs[k]? = some v) : w.cell? ⟨g, k, none⟩ = some v := by simp [World.cell?, h, hv]
theorem IntAt.extQ {w w' : World} {g q : Nat} {z : Int} {cs : Array Value} {T : TypeId} (h : IntAt w g z) (hq : w.heap[q]? = some (.cells cs T (0, 0))) (hT : T ≠ 150) (hT2 : T ≠ 89) (he : Ext (fun k => k = q) w w') : IntAt w' g z := by
  obtain ⟨A, c, h1, h2, h3, h4⟩ := h
  refine ⟨A, c, (he.block g (iter_lt h1) ?_).trans h1, h2, h3, h4.ext he ?_⟩
  · intro e
    subst e
    rw [h1] at hq
    injection hq with hq
    injection hq with _ h _
    exact hT2 h.symm
  · intro hne a ha e
    rcases h4 with h | ⟨gA, zs, r, rfl, hrow, _⟩
    · exact hne h
    · cases ha
      have e' : gA = q := e
      subst e'
      unfold Row at hrow
      rw [hrow] at hq
      injection hq with hq
      injection hq with _ h _
      exact hT h.symm
/-- What a big Int tells, on the way. -/
structure AskM (B bx g : Nat) (z : Int) (cs : Array Value) (w0 w : World) : Prop where
  kq : w.heap[B + 1]? = some (.cells cs 52 (0, 0))
  kx : w.heap[bx]? = some (.cells #[.pointer (some ⟨g, 0, none⟩)] 75 (0, 0))
  hi : IntAt w g z
  lx : B + 1 < bx
  ext : Ext (fun k => k = B + 1) w0 w
theorem AskM.below {B bx g : Nat} {z : Int} {cs : Array Value} {w0 w w' : World} (h : AskM B bx g z cs w0 w) (hb : Below w.heap.size w w') : AskM B bx g z cs w0 w' :=
  ⟨(hb.block _ (iter_lt h.kq)).trans h.kq, (hb.block _ (iter_lt h.kx)).trans h.kx, h.hi.below hb, h.lx, h.ext.then_below hb⟩
theorem AskM.drew {B bx g : Nat} {z : Int} {cs : Array Value} {w0 w : World} (h : AskM B bx g z cs w0 w) : AskM B bx g z cs w0 w.drew := h.below ((Below.refl _ _).drew)
theorem AskM.set {B bx g : Nat} {z : Int} {cs : Array Value} {w0 w : World} (h : AskM B bx g z cs w0 w) (k : Nat) (v : Value) : AskM B bx g z (cs.setIfInBounds k v) w0 (w.setCell ⟨B + 1, k, none⟩ v) := by
  have hl := h.lx
  exact ⟨cells_set h.kq k v, (one_other (by show bx ≠ B + 1; omega)).trans h.kx, h.hi.store h.kq (by decide) (by decide) _, h.lx, Ext.setCell (D := fun k => k = B + 1) (p := ⟨B + 1, k, none⟩) h.ext (fun _ => rfl) _⟩
theorem AskM.ofExt {B bx g : Nat} {z : Int} {cs cs' : Array Value} {w0 w w' : World} (h : AskM B bx g z cs w0 w) (he : Ext (fun k => k = B + 1) w w') (hq : w'.heap[B + 1]? = some (.cells cs' 52 (0, 0))) : AskM B bx g z cs' w0 w' := by
  have hl := h.lx
  exact ⟨hq, (he.block _ (iter_lt h.kx) (by omega)).trans h.kx, h.hi.extQ h.kq (by decide) (by decide) he, h.lx, h.ext.trans he⟩
theorem ask_grow {w1 w2 : World} {a : Addr} {u : Value} (h : w1.cell? a = some u) (k : Below w1.heap.size w1 w2) : w2.cell? a = some u := (k.cell (by exact World.block_lt_of_cell? w1 _ h)).trans h
theorem ask_set {w1 : World} {bx q k : Nat} {u v : Value} (h : w1.cell? ⟨bx, 0, none⟩ = some u) (hne : bx ≠ q) : (w1.setCell ⟨q, k, none⟩ v).cell? ⟨bx, 0, none⟩ = some u := (cell_other hne).trans h

set_option maxRecDepth 100000 in
set_option maxHeartbeats 1000000 in
theorem askCC1_walk (bx q g : Nat) (z : Int) (cs : Array Value) (v : Value) (w : World) (hx : w.heap[bx]? = some (.cells #[.pointer (some ⟨g, 0, none⟩)] 75 (0, 0))) (hq : w.heap[q]? = some (.cells cs 52 (0, 0))) (hv : cs[7]? = some v) (hz : IntAt w g z) (ho : smlOk z = true) :
    Calls Tryz.prog 79 #[.pointer (some ⟨bx, 0, none⟩), .pointer (some ⟨q, 0, none⟩)] w fun e w' => e = .returned (.tuple #[]) ∧ Ext (fun k => k = q) w w' ∧ w'.heap[q]? = some (.cells (cs.setIfInBounds 7 (.int .i64 z)) 52 (0, 0)) := by
  have c0 := one_cell hx
  have HU := Lib.hid (cint64_walk g z w hz ho)
  have HQ := Lib.hid hq
  have ltq := iter_lt hq
  have HV := Lib.hid hv
  clear hx hq hz hv
  go_enter Tryz.func79, Tryz.ntmps79
  go_wp2_with fail
  refine HU.out.mono ?_
  rintro e w1 ⟨rfl, hb⟩
  have kq := (hb.block q ltq).trans HQ.out
  have c1 := blk_cell kq HV.out
  have f1 := one_free kq 7
  have KQ := Lib.hid kq
  have HB := Lib.hid hb
  clear kq hb
  go_wp2_with fail
  go_end0
  exact ⟨rfl, Ext.setCell (D := fun k => k = q) (p := ⟨q, 7, none⟩) (Ext.of_below HB.out) (fun _ => rfl) _, cells_set KQ.out 7 _⟩
set_option maxRecDepth 100000 in
set_option maxHeartbeats 1000000 in
theorem askCC1_panic (bx q g : Nat) (z : Int) (w : World) (hx : w.heap[bx]? = some (.cells #[.pointer (some ⟨g, 0, none⟩)] 75 (0, 0))) (hz : IntAt w g z) (ho : smlOk z = false) :
    Calls Tryz.prog 79 #[.pointer (some ⟨bx, 0, none⟩), .pointer (some ⟨q, 0, none⟩)] w (PanicPost w) := by
  have c0 := one_cell hx
  have HU := Lib.hid (cint64_panic g z w hz ho)
  clear hx hz
  go_enter Tryz.func79, Tryz.ntmps79
  go_wp2_with fail
  refine HU.out.mono ?_
  rintro e w5 ⟨t5, v5, rfl, hb5⟩
  have HB5 := Lib.hid hb5
  clear hb5
  go_wp2_with fail
  have hp : PanicPost w (.panicked [{ v := .iface t5 v5, recovered := false }]) w5 := ⟨_, _, rfl, HB5.out⟩
  exact ⟨rfl, hp⟩
set_option maxRecDepth 100000 in
theorem callCC_ask1 : ∀ (caps : Array Value) (w : World), (callFunc 79 caps).run Tryz.prog w = .ok (.enter 79 caps) w := fun _ _ => by rfl
theorem ask_safe1 (bx q g : Nat) (z s _v7 : Int) (b1 b2 b3 b5 b6 _b9 : Bool) (w : World) (hx : w.heap[bx]? = some (.cells #[.pointer (some ⟨g, 0, none⟩)] 75 (0, 0))) (hq : w.heap[q]? = some (.cells #[.int .i64 s, .bool b1, .bool b2, .bool b3, .bool false, .bool b5, .bool b6, .int .i64 0, .int .u64 0, .bool false, .bool false] 52 (0, 0))) (hz : IntAt w g z) :
    Calls Tryz.prog 41 #[.func (.func 79) #[] #[.pointer (some ⟨bx, 0, none⟩), .pointer (some ⟨q, 0, none⟩)]] w fun e w' => e = .returned (.bool (smlOk z)) ∧ Ext (fun k => k = q) w w' ∧ w'.heap[q]? = some (.cells #[.int .i64 s, .bool b1, .bool b2, .bool b3, .bool false, .bool b5, .bool b6, .int .i64 (smlZ z), .int .u64 0, .bool false, .bool false] 52 (0, 0)) := by
  have ltq := iter_lt hq
  cases ho : smlOk z with
  | true =>
    have e1 : smlZ z = z := by unfold smlZ; rw [if_pos ho]
    rw [e1]
    refine safe_ret 79 _ w (fun w' => Ext (fun k => k = q) w w' ∧ w'.heap[q]? = some (.cells #[.int .i64 s, .bool b1, .bool b2, .bool b3, .bool false, .bool b5, .bool b6, .int .i64 (z), .int .u64 0, .bool false, .bool false] 52 (0, 0))) (callCC_ask1 _) ?_
    refine (askCC1_walk bx q g z _ _ _ (heap_old hx) (heap_old hq) rfl (hz.below (below_a1 _ _)) ho).mono ?_
    rintro e w1 ⟨rfl, he, k2⟩
    refine ⟨rfl, (he.block w.heap.size (by rw [heap_size_alloc]; omega) (by omega)).trans (heap_here _ _), ?_, ?_⟩
    · exact ((((Ext.refl _ w).alloc _).trans he).setCell (p := ⟨w.heap.size, 0, none⟩) (fun h => absurd h (Nat.lt_irrefl _)) _).setCell (p := ⟨w.heap.size, 0, none⟩) (fun h => absurd h (Nat.lt_irrefl _)) _
    · exact ((one_other (by show q ≠ w.heap.size; omega)).trans (one_other (by show q ≠ w.heap.size; omega))).trans k2
  | false =>
    have e1 : smlZ z = 0 := by unfold smlZ; rw [if_neg (by rw [ho]; decide)]
    rw [e1]
    refine safe_panics 79 _ w (fun w' => Ext (fun k => k = q) w w' ∧ w'.heap[q]? = some (.cells #[.int .i64 s, .bool b1, .bool b2, .bool b3, .bool false, .bool b5, .bool b6, .int .i64 (0), .int .u64 0, .bool false, .bool false] 52 (0, 0))) (callCC_ask1 _) ?_
    refine (askCC1_panic bx q g z _ (heap_old hx) (hz.below (below_a1 _ _)) ho).mono ?_
    rintro e w1 ⟨t, v, rfl, hb⟩
    refine ⟨t, v, rfl, (hb.block w.heap.size (by rw [heap_size_alloc]; omega)).trans (heap_here _ _), ?_, ?_⟩
    · exact (((Ext.refl _ w).alloc _).trans (Ext.of_below hb)).setCell (p := ⟨w.heap.size, 0, none⟩) (fun h => absurd h (Nat.lt_irrefl _)) _
    · exact ((one_other (by show q ≠ w.heap.size; omega)).trans (hb.block q (by rw [heap_size_alloc]; omega))).trans (heap_old hq)

set_option maxRecDepth 100000 in
set_option maxHeartbeats 1000000 in
theorem askCC2_walk (bx q g : Nat) (z : Int) (cs : Array Value) (v : Value) (w : World) (hx : w.heap[bx]? = some (.cells #[.pointer (some ⟨g, 0, none⟩)] 75 (0, 0))) (hq : w.heap[q]? = some (.cells cs 52 (0, 0))) (hv : cs[8]? = some v) (hz : IntAt w g z) (ho : unsOk z = true) :
    Calls Tryz.prog 81 #[.pointer (some ⟨bx, 0, none⟩), .pointer (some ⟨q, 0, none⟩)] w fun e w' => e = .returned (.tuple #[]) ∧ Ext (fun k => k = q) w w' ∧ w'.heap[q]? = some (.cells (cs.setIfInBounds 8 (.int .u64 z)) 52 (0, 0)) := by
  have c0 := one_cell hx
  have HU := Lib.hid (cuint64_walk g z w hz ho)
  have HQ := Lib.hid hq
  have ltq := iter_lt hq
  have HV := Lib.hid hv
  clear hx hq hz hv
  go_enter Tryz.func81, Tryz.ntmps81
  go_wp2_with fail
  refine HU.out.mono ?_
  rintro e w1 ⟨rfl, hb⟩
  have kq := (hb.block q ltq).trans HQ.out
  have c1 := blk_cell kq HV.out
  have f1 := one_free kq 8
  have KQ := Lib.hid kq
  have HB := Lib.hid hb
  clear kq hb
  go_wp2_with fail
  go_end0
  exact ⟨rfl, Ext.setCell (D := fun k => k = q) (p := ⟨q, 8, none⟩) (Ext.of_below HB.out) (fun _ => rfl) _, cells_set KQ.out 8 _⟩
set_option maxRecDepth 100000 in
set_option maxHeartbeats 1000000 in
theorem askCC2_panic (bx q g : Nat) (z : Int) (w : World) (hx : w.heap[bx]? = some (.cells #[.pointer (some ⟨g, 0, none⟩)] 75 (0, 0))) (hz : IntAt w g z) (ho : unsOk z = false) :
    Calls Tryz.prog 81 #[.pointer (some ⟨bx, 0, none⟩), .pointer (some ⟨q, 0, none⟩)] w (PanicPost w) := by
  have c0 := one_cell hx
  have HU := Lib.hid (cuint64_panic g z w hz ho)
  clear hx hz
  go_enter Tryz.func81, Tryz.ntmps81
  go_wp2_with fail
  refine HU.out.mono ?_
  rintro e w5 ⟨t5, v5, rfl, hb5⟩
  have HB5 := Lib.hid hb5
  clear hb5
  go_wp2_with fail
  have hp : PanicPost w (.panicked [{ v := .iface t5 v5, recovered := false }]) w5 := ⟨_, _, rfl, HB5.out⟩
  exact ⟨rfl, hp⟩
set_option maxRecDepth 100000 in
theorem callCC_ask2 : ∀ (caps : Array Value) (w : World), (callFunc 81 caps).run Tryz.prog w = .ok (.enter 81 caps) w := fun _ _ => by rfl
theorem ask_safe2 (bx q g : Nat) (z s v7 : Int) (b1 b2 b3 b5 b6 b9 : Bool) (w : World) (hx : w.heap[bx]? = some (.cells #[.pointer (some ⟨g, 0, none⟩)] 75 (0, 0))) (hq : w.heap[q]? = some (.cells #[.int .i64 s, .bool b1, .bool b2, .bool b3, .bool false, .bool b5, .bool b6, .int .i64 v7, .int .u64 0, .bool b9, .bool false] 52 (0, 0))) (hz : IntAt w g z) :
    Calls Tryz.prog 41 #[.func (.func 81) #[] #[.pointer (some ⟨bx, 0, none⟩), .pointer (some ⟨q, 0, none⟩)]] w fun e w' => e = .returned (.bool (unsOk z)) ∧ Ext (fun k => k = q) w w' ∧ w'.heap[q]? = some (.cells #[.int .i64 s, .bool b1, .bool b2, .bool b3, .bool false, .bool b5, .bool b6, .int .i64 v7, .int .u64 (unsZ z), .bool b9, .bool false] 52 (0, 0)) := by
  have ltq := iter_lt hq
  cases ho : unsOk z with
  | true =>
    have e1 : unsZ z = z := by unfold unsZ; rw [if_pos ho]
    rw [e1]
    refine safe_ret 81 _ w (fun w' => Ext (fun k => k = q) w w' ∧ w'.heap[q]? = some (.cells #[.int .i64 s, .bool b1, .bool b2, .bool b3, .bool false, .bool b5, .bool b6, .int .i64 v7, .int .u64 (z), .bool b9, .bool false] 52 (0, 0))) (callCC_ask2 _) ?_
    refine (askCC2_walk bx q g z _ _ _ (heap_old hx) (heap_old hq) rfl (hz.below (below_a1 _ _)) ho).mono ?_
    rintro e w1 ⟨rfl, he, k2⟩
    refine ⟨rfl, (he.block w.heap.size (by rw [heap_size_alloc]; omega) (by omega)).trans (heap_here _ _), ?_, ?_⟩
    · exact ((((Ext.refl _ w).alloc _).trans he).setCell (p := ⟨w.heap.size, 0, none⟩) (fun h => absurd h (Nat.lt_irrefl _)) _).setCell (p := ⟨w.heap.size, 0, none⟩) (fun h => absurd h (Nat.lt_irrefl _)) _
    · exact ((one_other (by show q ≠ w.heap.size; omega)).trans (one_other (by show q ≠ w.heap.size; omega))).trans k2
  | false =>
    have e1 : unsZ z = 0 := by unfold unsZ; rw [if_neg (by rw [ho]; decide)]
    rw [e1]
    refine safe_panics 81 _ w (fun w' => Ext (fun k => k = q) w w' ∧ w'.heap[q]? = some (.cells #[.int .i64 s, .bool b1, .bool b2, .bool b3, .bool false, .bool b5, .bool b6, .int .i64 v7, .int .u64 (0), .bool b9, .bool false] 52 (0, 0))) (callCC_ask2 _) ?_
    refine (askCC2_panic bx q g z _ (heap_old hx) (hz.below (below_a1 _ _)) ho).mono ?_
    rintro e w1 ⟨t, v, rfl, hb⟩
    refine ⟨t, v, rfl, (hb.block w.heap.size (by rw [heap_size_alloc]; omega)).trans (heap_here _ _), ?_, ?_⟩
    · exact (((Ext.refl _ w).alloc _).trans (Ext.of_below hb)).setCell (p := ⟨w.heap.size, 0, none⟩) (fun h => absurd h (Nat.lt_irrefl _)) _
    · exact ((one_other (by show q ≠ w.heap.size; omega)).trans (hb.block q (by rw [heap_size_alloc]; omega))).trans (heap_old hq)

set_option maxRecDepth 100000 in
set_option maxHeartbeats 8000000 in
theorem askC_walk (l : List UInt8) (p : Addr) (B : Nat) (w : World) (hok : readOk l = true) (hl : l.length ≤ 1000) (hp : EofIs w p) (ox : overI (readZ l) = false)
    (h0 : w.heap[B]? = some (.cells #[.string (S l)] 9 (0, 0))) (hq : w.heap[B + 1]? = some (.cells #[.int .i64 0, .bool false, .bool false, .bool false, .bool false, .bool false, .bool false, .int .i64 0, .int .u64 0, .bool false, .bool false] 52 (0, 0))) :
    Calls Tryz.prog 71 #[.pointer (some ⟨B, 0, none⟩), .pointer (some ⟨B + 1, 0, none⟩)] w fun e w' => e = .returned (.tuple #[]) ∧ Ext (fun k => k = B + 1) w w' ∧
      w'.heap[B + 1]? = some (.cells #[.int .i64 (sgnC (readZ l)), .bool (decide (readZ l = 0)), .bool (decide (readZ l < 0)), .bool (decide (0 < readZ l)), .bool false, .bool (smlOk (readZ l)), .bool (unsOk (readZ l)), .int .i64 (smlZ (readZ l)), .int .u64 (unsZ (readZ l)), .bool (smlOk (readZ l)), .bool (unsOk (readZ l))] 52 (0, 0)) := by
  have hmf : ∀ (fn : Fn) (first cap : Array Value) (w : World), (Instr.makeFunc fn first cap).run Tryz.prog w = .ok (.func fn first cap) w := fun _ _ _ _ => rfl
  have c0 := one_cell h0
  have ltq := iter_lt hq
  have HU := Lib.hid (integer_walk l p w hok hl hp ox)
  obtain ⟨z, hz⟩ : ∃ z, readZ l = z := ⟨_, rfl⟩
  rw [hz] at HU
  rw [hz]
  have HB0 : Hid (∀ (w1 : World) (g : Nat), IntAt w1 g z → Below w.heap.size w w1 → AskM B w1.heap.size g z #[.int .i64 0, .bool false, .bool false, .bool false, .bool false, .bool false, .bool false, .int .i64 0, .int .u64 0, .bool false, .bool false] w (w1.alloc (.cells #[.pointer (some ⟨g, 0, none⟩)] 75))) := Lib.hid (fun w1 g hi hb =>
    ⟨heap_old ((hb.block _ (iter_lt hq)).trans hq), heap_here _ _, hi.below (below_a1 _ _), Nat.lt_of_lt_of_le ltq hb.size, Ext.of_below (bt hb (below_a1 _ _))⟩)
  have h1 := fun (g : Nat) (w2 : World) (h : IntAt w2 g z) => csign_walk g z w2 h
  have h2 := fun (g : Nat) (w2 : World) (h : IntAt w2 g z) => cisZero_walk g z w2 h
  have h3 := fun (g : Nat) (w2 : World) (h : IntAt w2 g z) => cisNeg_walk g z w2 h
  have h4 := fun (g : Nat) (w2 : World) (h : IntAt w2 g z) => cisPos_walk g z w2 h
  have h5 := fun (g : Nat) (w2 : World) (h : IntAt w2 g z) => cisInt64_walk g z w2 h
  have h6 := fun (g : Nat) (w2 : World) (h : IntAt w2 g z) => cisUint64_walk g z w2 h
  have h7 := fun (bx q g : Nat) (s v7 : Int) (b1 b2 b3 b5 b6 b9 : Bool) (w2 : World) => ask_safe1 bx q g z s v7 b1 b2 b3 b5 b6 b9 w2
  have h8 := fun (bx q g : Nat) (s v7 : Int) (b1 b2 b3 b5 b6 b9 : Bool) (w2 : World) => ask_safe2 bx q g z s v7 b1 b2 b3 b5 b6 b9 w2
  obtain ⟨s, hs⟩ : ∃ s, sgnC z = s := ⟨_, rfl⟩
  obtain ⟨b1, hb1⟩ : ∃ b1, decide (z = 0) = b1 := ⟨_, rfl⟩
  obtain ⟨b2, hb2⟩ : ∃ b2, decide (z < 0) = b2 := ⟨_, rfl⟩
  obtain ⟨b3, hb3⟩ : ∃ b3, decide (0 < z) = b3 := ⟨_, rfl⟩
  obtain ⟨b5, hb5⟩ : ∃ b5, smlOk z = b5 := ⟨_, rfl⟩
  obtain ⟨b6, hb6⟩ : ∃ b6, unsOk z = b6 := ⟨_, rfl⟩
  obtain ⟨v7, hv7⟩ : ∃ v7, smlZ z = v7 := ⟨_, rfl⟩
  obtain ⟨v8, hv8⟩ : ∃ v8, unsZ z = v8 := ⟨_, rfl⟩
  rw [hs] at h1
  rw [hb1] at h2
  rw [hb2] at h3
  rw [hb3] at h4
  rw [hb5] at h5
  rw [hb6] at h6
  simp only [hb5, hv7] at h7
  simp only [hb6, hv8] at h8
  rw [hs, hb1, hb2, hb3, hb5, hb6, hv7, hv8]
  have H1 := Lib.hid h1
  have H2 := Lib.hid h2
  have H3 := Lib.hid h3
  have H4 := Lib.hid h4
  have H5 := Lib.hid h5
  have H6 := Lib.hid h6
  have H7 := Lib.hid h7
  have H8 := Lib.hid h8
  clear h0 hq hp hz hok ox h1 h2 h3 h4 h5 h6 h7 h8 hs hb1 hb2 hb3 hb5 hb6 hv7 hv8
  go_enter Tryz.func71, Tryz.ntmps71
  go_wp2_with fail
  refine HU.out.mono ?_
  rintro e w1 ⟨g, rfl, hi1, hb1, _⟩
  have M1 := Lib.hid (HB0.out w1 g hi1 hb1)
  clear hi1 hb1
  go_wp2_with fail
  obtain ⟨wB, hwB⟩ : ∃ wB, w1.alloc (.cells #[.pointer (some ⟨g, 0, none⟩)] 75) = wB := ⟨_, rfl⟩
  rw [hwB] at M1 ⊢
  clear hwB
  refine (cisNil_walk g _).mono ?_
  rintro e w2 ⟨rfl, hb2⟩
  have m2 := M1.out.below hb2
  have d4 := blk_cell (k := 4) m2.kq rfl
  have f4 := one_free m2.kq 4
  have M2 := Lib.hid (m2.set 4 (.bool false))
  have hlx := m2.lx
  have hnx : w1.heap.size ≠ B + 1 := by omega
  clear m2 hb2
  go_upto_region 3 with fail
  obtain ⟨wC, hwC⟩ : ∃ wC, w2.setCell ⟨B + 1, 4, none⟩ (.bool false) = wC := ⟨_, rfl⟩
  rw [hwC] at M2 ⊢
  clear hwC d4 f4
  have hkept := one_cell M2.out.kx
  go_region_held3 (fun w' => w'.cell? ⟨w1.heap.size, 0, none⟩ = some (.pointer (some ⟨g, 0, none⟩)))
    (first | exact hkept | exact ask_grow (by assumption) hgr | exact ask_set (by assumption) hnx | assumption)
    (first
      | (go_at_call 73; (with_reducible refine (H1.out g _ M2.out.drew.hi).mono ?_); rintro e w4 ⟨rfl, hgr⟩; have M4 := Lib.hid (M2.out.drew.below hgr))
      | (go_at_call 74; (with_reducible refine (H2.out g _ M4.out.hi).mono ?_); rintro e w5 ⟨rfl, hgr⟩; have M5 := Lib.hid (M4.out.below hgr))
      | (go_at_call 75; (with_reducible refine (H3.out g _ M5.out.hi).mono ?_); rintro e w6 ⟨rfl, hgr⟩; have M6 := Lib.hid (M5.out.below hgr))
      | (go_at_call 76; (with_reducible refine (H4.out g _ M6.out.hi).mono ?_); rintro e w7 ⟨rfl, hgr⟩; have m7 := M6.out.below hgr; have d0 := blk_cell (k := 0) m7.kq rfl; have d1 := blk_cell (k := 1) m7.kq rfl; have d2 := blk_cell (k := 2) m7.kq rfl; have d3 := blk_cell (k := 3) m7.kq rfl; have f0 := one_free m7.kq 0; have f1 := one_free m7.kq 1; have f2 := one_free m7.kq 2; have f3 := one_free m7.kq 3; have M7 := Lib.hid m7; clear m7))
  all_goals
    have M8 : Hid (AskM B w1.heap.size g z #[.int .i64 s, .bool b1, .bool b2, .bool b3, .bool false, .bool false, .bool false, .int .i64 0, .int .u64 0, .bool false, .bool false] w ((((w7.setCell ⟨B + 1, 0, none⟩ (.int .i64 s)).setCell ⟨B + 1, 1, none⟩ (.bool b1)).setCell ⟨B + 1, 2, none⟩ (.bool b2)).setCell ⟨B + 1, 3, none⟩ (.bool b3))) := Lib.hid ((((M7.out.set 0 (.int .i64 s)).set 1 (.bool b1)).set 2 (.bool b2)).set 3 (.bool b3))
    obtain ⟨w8, hw8⟩ : ∃ w8, (((w7.setCell ⟨B + 1, 0, none⟩ (.int .i64 s)).setCell ⟨B + 1, 1, none⟩ (.bool b1)).setCell ⟨B + 1, 2, none⟩ (.bool b2)).setCell ⟨B + 1, 3, none⟩ (.bool b3) = w8 := ⟨_, rfl⟩
    rw [hw8] at M8 ⊢
    clear hw8 d0 d1 d2 d3 f0 f1 f2 f3
    have hkept := one_cell M8.out.kx
    go_upto_region 4 with fail
    go_region_held3 (fun w' => w'.cell? ⟨w1.heap.size, 0, none⟩ = some (.pointer (some ⟨g, 0, none⟩)))
      (first | exact hkept | exact ask_grow (by assumption) hgr | exact ask_set (by assumption) hnx | assumption)
      (first
        | (go_at_call 77; (with_reducible refine (H5.out g _ M8.out.drew.hi).mono ?_); rintro e w9 ⟨rfl, hgr⟩; have M9 := Lib.hid (M8.out.drew.below hgr))
        | (go_at_call 78; (with_reducible refine (H6.out g _ M9.out.hi).mono ?_); rintro e w10 ⟨rfl, hgr⟩; have m10 := M9.out.below hgr; have d5 := blk_cell (k := 5) m10.kq rfl; have d6 := blk_cell (k := 6) m10.kq rfl; have f5 := one_free m10.kq 5; have f6 := one_free m10.kq 6; have M10 := Lib.hid m10; clear m10))
    all_goals
      have M11 : Hid (AskM B w1.heap.size g z #[.int .i64 s, .bool b1, .bool b2, .bool b3, .bool false, .bool b5, .bool b6, .int .i64 0, .int .u64 0, .bool false, .bool false] w ((w10.setCell ⟨B + 1, 5, none⟩ (.bool b5)).setCell ⟨B + 1, 6, none⟩ (.bool b6))) := Lib.hid ((M10.out.set 5 (.bool b5)).set 6 (.bool b6))
      obtain ⟨w11, hw11⟩ : ∃ w11, (w10.setCell ⟨B + 1, 5, none⟩ (.bool b5)).setCell ⟨B + 1, 6, none⟩ (.bool b6) = w11 := ⟨_, rfl⟩
      rw [hw11] at M11 ⊢
      clear hw11 d5 d6 f5 f6
      go_wp2_with fail
      refine (H7.out w1.heap.size (B + 1) g s 0 b1 b2 b3 b5 b6 false w11 M11.out.kx M11.out.kq M11.out.hi).mono ?_
      rintro e w12 ⟨rfl, he12, hq12⟩
      have m12 := M11.out.ofExt he12 hq12
      have d9 := blk_cell (k := 9) m12.kq rfl
      have f9 := one_free m12.kq 9
      have M13 : Hid (AskM B w1.heap.size g z #[.int .i64 s, .bool b1, .bool b2, .bool b3, .bool false, .bool b5, .bool b6, .int .i64 v7, .int .u64 0, .bool b5, .bool false] w (w12.setCell ⟨B + 1, 9, none⟩ (.bool b5))) := Lib.hid (m12.set 9 (.bool b5))
      clear m12 he12 hq12
      go_wp2_with fail
      obtain ⟨w13, hw13⟩ : ∃ w13, w12.setCell ⟨B + 1, 9, none⟩ (.bool b5) = w13 := ⟨_, rfl⟩
      rw [hw13] at M13 ⊢
      clear hw13 d9 f9
      refine (H8.out w1.heap.size (B + 1) g s v7 b1 b2 b3 b5 b6 b5 w13 M13.out.kx M13.out.kq M13.out.hi).mono ?_
      rintro e w14 ⟨rfl, he14, hq14⟩
      have m14 := M13.out.ofExt he14 hq14
      have d10 := blk_cell (k := 10) m14.kq rfl
      have f10 := one_free m14.kq 10
      have M15 : Hid (AskM B w1.heap.size g z #[.int .i64 s, .bool b1, .bool b2, .bool b3, .bool false, .bool b5, .bool b6, .int .i64 v7, .int .u64 v8, .bool b5, .bool b6] w (w14.setCell ⟨B + 1, 10, none⟩ (.bool b6))) := Lib.hid (m14.set 10 (.bool b6))
      clear m14 he14 hq14
      go_wp2_with fail
      go_end0
      exact ⟨rfl, M15.out.ext, M15.out.kq⟩

end Go.Proofs.YthipbglnaalhmaaGreatDoor
