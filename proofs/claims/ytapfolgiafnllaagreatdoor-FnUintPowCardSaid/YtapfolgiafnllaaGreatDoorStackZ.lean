/-
  slices.Grow of none; math/big's stack: save, restore, nat.
-/
import Derived.Test.YtapfolgiafnllaaGreatDoorBn18Z
import Derived.Defers
import Derived.Lib.AppendZeros
namespace Go.Proofs.YtapfolgiafnllaaGreatDoor
open Go.RowKit

theorem zero_cells (n m : Nat) : (Builtin.zeroCells (Value.int .u64 0).cells n ++ Builtin.zeroCells (Value.int .u64 0).cells m) = (nums .u64 (List.replicate n 0 ++ List.replicate m 0)).toArray := by
  apply Array.ext'
  simp [Builtin.zeroCells, nums, Value.cells]
  have e : ∀ k : Nat, List.map (fun i => ([Value.int IntKind.u64 0][i % 1]?).getD default) (List.range k) = List.replicate k (Value.int .u64 0) := by
    intro k
    apply List.ext_getElem (by simp)
    intro i h1 h2
    simp [Nat.mod_one]
  rw [e, e, List.replicate_append_replicate]
/-- Noughts are put behind none: what append makes. -/
theorem wpList_append_zeros {ops : Array Oper} {rest : List Oper} {o : Oper} {a : Act} {Q : Exit → Act → World → Prop} (hgd : o.guard = none) (s x : Operand) (t : TypeId) (ho : o.op = .call { callee := .builtin .append, args := #[s, x], argTypes := #[t, 3] })
    (w : World) (ht : Tryz.prog.underlying t = some (.slice 106)) (hs : a.eval s = .slice none 0 0) (n : Nat) (hn0 : 0 < n) (hn1 : n ≤ 1000) (hx : a.eval x = .int .i64 n)
    (h : ∀ (w' : World) (cap : Nat) (r : List Nat), n ≤ cap → cap ≤ 9223372036854775807 → r.length = cap - n → Row w' w.heap.size .u64 106 (List.replicate n 0 ++ r) → Below w.heap.size w w' → wpList Tryz.prog ops Q rest (a.put o.dst (.slice (some ⟨w.heap.size, 0, none⟩) n cap)) w') : wpList Tryz.prog ops Q (o :: rest) a w := by
  obtain ⟨i, hi, hz0, hz1, hz2⟩ := info_parts infoWord
  refine Lib.wpList_append_run w hgd s x t 3 ho _ _ hs hx _ _ (Lib.run_append_nil_zeros (P := Tryz.prog) w t 3 o.type 106 i (.int .u64 0) .i64 .i64 ht Tryz.underlying3 hi hz0 n hn0 (by rw [hz1]; decide) (by omega) (by rw [hz2]; omega)) ?_
  refine h _ (grownCap w n 0 106) (List.replicate (grownCap w n 0 106 - n) 0) (grownCap_ge w n 0 _) (by have := grownCap_le_maxLen w n 0 106 (by unfold maxLen; omega); unfold maxLen at this; omega) (by rw [List.length_replicate]) ?_ ?_
  · unfold Row
    rw [← zero_cells]
    exact heap_here w.drew _
  · exact (Below.refl w.heap.size w).drew.alloc (Nat.le_refl _) _

/-- What Grow hands back. -/
def GrowPost (w : World) (n : Nat) (e : Ending) (w' : World) : Prop := ∃ g cap zs, e = .returned (.slice (some ⟨g, 0, none⟩) 0 cap) ∧ n ≤ cap ∧ cap ≤ 9223372036854775807 ∧ Row w' g .u64 106 zs ∧ n ≤ zs.length ∧ zs.length ≤ cap ∧ w.heap.size ≤ g ∧ Below w.heap.size w w'

set_option maxRecDepth 100000 in
set_option maxHeartbeats 2000000 in
theorem growNat_walk (n : Nat) (w : World) (hn0 : 0 < n) (hn : n ≤ 1000) : Calls Tryz.prog 202 #[.slice none 0 0, .int .i64 n] w (GrowPost w n) := by
  have h1 : ¬ (n : Int) < 0 := by omega
  have h2 : (0 : Int) < n := by omega
  go_enter Tryz.func202, Tryz.ntmps202
  go_wp2_with (at_builtin; refine wpList_append_zeros rfl _ _ _ rfl _ Tryz.underlying78 rfl n hn0 hn rfl ?_; intro w1 cap r hc1 hc2 hr hrow hb; have HR := Lib.hid hrow; have HRL := Lib.hid hr; have HB := Lib.hid hb; clear hrow hb hr; have hc3 : (0 : Int) ≤ cap := (by omega))
  go_ret
  exact ⟨w.heap.size, cap, _, rfl, hc1, hc2, HR.out, by simp, by have := HRL.out; simp; omega, Nat.le_refl _, HB.out⟩
set_option maxRecDepth 100000 in
set_option maxHeartbeats 2000000 in
theorem growWords_walk (n : Nat) (w : World) (hn0 : 0 < n) (hn : n ≤ 1000) : Calls Tryz.prog 230 #[.slice none 0 0, .int .i64 n] w (GrowPost w n) := by
  have h1 : ¬ (n : Int) < 0 := by omega
  have h2 : (0 : Int) < n := by omega
  go_enter Tryz.func230, Tryz.ntmps230
  go_wp2_with (at_builtin; refine wpList_append_zeros rfl _ _ _ rfl _ Tryz.underlying77 rfl n hn0 hn rfl ?_; intro w1 cap r hc1 hc2 hr hrow hb; have HR := Lib.hid hrow; have HRL := Lib.hid hr; have HB := Lib.hid hb; clear hrow hb hr; have hc3 : (0 : Int) ≤ cap := (by omega))
  go_ret
  exact ⟨w.heap.size, cap, _, rfl, hc1, hc2, HR.out, by simp, by have := HRL.out; simp; omega, Nat.le_refl _, HB.out⟩

/-- Block s is a stack that has made no memory. -/
def StkNil (w : World) (s : Nat) : Prop := w.heap[s]? = some (.cells #[.pointer none] 181 (0, 0))
/-- Block s is a stack whose memory block i tells. -/
def StkTo (w : World) (s : Nat) : Prop := ∃ i A n c, w.heap[s]? = some (.cells #[.pointer (some ⟨i, 0, none⟩)] 181 (0, 0)) ∧ w.heap[i]? = some (.cells #[.slice A n c] 197 (0, 0)) ∧ s < i ∧ n ≤ c ∧ c ≤ 9223372036854775807
/-- A stack, whatever it has made. -/
def Stk (w : World) (s : Nat) : Prop := StkNil w s ∨ StkTo w s
set_option maxRecDepth 100000 in
set_option maxHeartbeats 1000000 in
theorem save_walk (s : Nat) (w : World) (h : StkNil w s) : Calls Tryz.prog 168 #[.pointer (some ⟨s, 0, none⟩)] w fun e w' => e = .returned (.int .i64 0) ∧ w = w' := by
  have c0 := one_cell h
  clear h
  go_enter Tryz.func168, Tryz.ntmps168
  go_wp2_with fail
  go_ret
  exact ⟨rfl, rfl⟩
/-- What restore leaves: of the memory of a stack that was made before, nothing else is turned. -/
def RestPost (w : World) (s : Nat) (w' : World) : Prop := (w' = w ∧ StkNil w s) ∨ ∃ i v, s < i ∧ w' = w.setCell ⟨i, 0, none⟩ v ∧ (∃ u, w.heap[i]? = some (.cells #[u] 197 (0, 0))) ∧ w.heap[s]? = some (.cells #[.pointer (some ⟨i, 0, none⟩)] 181 (0, 0)) ∧ ∃ A c, v = .slice A 0 c ∧ c ≤ 9223372036854775807
set_option maxRecDepth 100000 in
set_option maxHeartbeats 1000000 in
theorem restoreInner_walk (i n c : Nat) (A : Option Addr) (w : World) (h : w.heap[i]? = some (.cells #[.slice A n c] 197 (0, 0))) (_hn : n ≤ c) (hc : c ≤ 9223372036854775807) :
    Calls Tryz.prog 200 #[.pointer (some ⟨i, 0, none⟩), .int .i64 0] w fun e w' => e = .returned (.tuple #[]) ∧ ∃ v, w' = w.setCell ⟨i, 0, none⟩ v ∧ ∃ A c, v = .slice A 0 c ∧ c ≤ 9223372036854775807 := by
  have c0 := one_cell h
  have f0 := one_free h 0
  have h1 : (0 : Int) ≤ c := by omega
  clear h
  go_enter Tryz.func200, Tryz.ntmps200
  go_wp2_with fail
  go_end0
  exact ⟨rfl, _, rfl, _, _, rfl, by omega⟩
set_option maxRecDepth 100000 in
set_option maxHeartbeats 1000000 in
/-- restore, as it is deferred. -/
theorem restore_d (s : Nat) (u : FrameMode) (w : World) (h : Stk w s) :
    CallsD Tryz.prog 167 #[.pointer (some ⟨s, 0, none⟩), .int .i64 0] u w fun e u' w' => u' = u ∧ (e = .returned (.tuple #[]) ∧ RestPost w s w') := by
  rcases h with h | ⟨i, A, n, c, h, hi, hlt, hn, hc⟩
  · have c0 := one_cell h
    have HS := Lib.hid h
    clear h
    go_enter_d Tryz.func167, Tryz.ntmps167
    go_wp2_with fail
    refine bodyPost_ret (results_none rfl _ _ _) rfl ?_
    exact ⟨rfl, .inl ⟨rfl, HS.out⟩⟩
  · have c0 := one_cell h
    have HI := Lib.hid (restoreInner_walk i n c A w hi hn hc)
    have HH := Lib.hid hi
    have HS := Lib.hid h
    clear h hi
    go_enter_d Tryz.func167, Tryz.ntmps167
    go_wp2_with fail
    refine HI.out.mono ?_
    rintro e w1 ⟨rfl, v, rfl, A2, c2, rfl, hc2⟩
    go_wp2_with fail
    go_end0
    exact ⟨rfl, .inr ⟨i, _, hlt, rfl, ⟨_, HH.out⟩, HS.out, A2, c2, rfl, hc2⟩⟩
theorem RestPost.row {w w' : World} {s g : Nat} {zs : List Nat} (h : RestPost w s w') (hr : Row w g .u64 106 zs) : Row w' g .u64 106 zs := by
  rcases h with ⟨rfl, _⟩ | ⟨i, v, _, rfl, ⟨u, hi⟩, _⟩
  · exact hr
  · refine hr.other _ ?_
    rintro rfl
    unfold Row at hr
    rw [hr] at hi
    injection hi with hi
    injection hi with _ h _
    exact absurd h (by decide)
theorem RestPost.below {B : Nat} {w w' : World} {s : Nat} (h : RestPost w s w') (hB : B ≤ s) : Below B w w' := by
  rcases h with ⟨rfl, _⟩ | ⟨i, v, hi, rfl, _⟩
  · exact Below.refl _ _
  · exact (Below.refl _ _).setCell (by show B ≤ i; omega) _
theorem RestPost.stk {w w' : World} {s : Nat} (h : RestPost w s w') (hs : w.heap[s]? = some (.cells #[.pointer none] 181 (0, 0))) : w'.heap[s]? = some (.cells #[.pointer none] 181 (0, 0)) := by
  rcases h with ⟨rfl, _⟩ | ⟨i, v, hi, rfl, _⟩
  · exact hs
  · exact (one_other (by show s ≠ i; omega)).trans hs
theorem RestPost.any {w w' : World} {s : Nat} (h : RestPost w s w') : Stk w' s := by
  rcases h with ⟨rfl, h⟩ | ⟨i, v, hlt, rfl, ⟨u, hi⟩, hs, A, c, rfl, hc⟩
  · exact .inl h
  · refine .inr ⟨i, A, 0, c, (one_other (by show s ≠ i; omega)).trans hs, one_set hi, hlt, Nat.zero_le _, hc⟩
/-- What a stack hands out. -/
def StkPost (w : World) (s n : Nat) (e : Ending) (w' : World) : Prop := ∃ g cap zs, e = .returned (.slice (some ⟨g, 0, none⟩) n cap) ∧ n ≤ cap ∧ cap ≤ 9223372036854775807 ∧ Row w' g .u64 106 zs ∧ n ≤ zs.length ∧ w.heap.size ≤ g ∧ Ext (fun b => b = s) w w' ∧ Stk w' s ∧ (n ≤ 4 → StkNil w' s)
set_option maxRecDepth 100000 in
set_option maxHeartbeats 2000000 in
theorem stackNat_walk (s n : Nat) (w : World) (h : StkNil w s) (hn0 : 0 < n) (hn : n ≤ 4) : Calls Tryz.prog 169 #[.pointer (some ⟨s, 0, none⟩), .int .i64 n] w (StkPost w s n) := by
  have c0 := one_cell h
  have HG := Lib.hid (growNat_walk n w hn0 (by omega))
  have hlt := iter_lt h
  have H := Lib.hid h
  have h1 : (n : Int) ≤ 4 := by omega
  have h2 : (0 : Int) < n := by omega
  have h3 : (0 : Int) ≤ n := by omega
  clear h
  go_enter Tryz.func169, Tryz.ntmps169
  go_wp2_with fail
  refine HG.out.mono ?_
  rintro e w1 ⟨g, cap, zs, rfl, hc1, hc2, hrow, hz, hzc, hg, hb⟩
  have h4 : (n : Int) ≤ cap := by omega
  have hc0 := hrow.cell (j := 0) (by omega)
  have hf0 := hrow.free 0
  obtain ⟨old, hold⟩ : ∃ old, zs[0]'(by omega) = old := ⟨_, rfl⟩
  rw [hold] at hc0
  have HR := Lib.hid hrow
  have HB := Lib.hid hb
  clear hrow hb hold
  go_wp2_with fail
  go_ret
  have hr2 := HR.out.set 0 11259375
  have hb2 : Below w.heap.size w (w1.setCell ⟨g, 0, none⟩ (.int .u64 ((11259375 : Nat) : Int))) := HB.out.setCell (p := ⟨g, 0, none⟩) hg _
  have hs2 : StkNil (w1.setCell ⟨g, 0, none⟩ (.int .u64 ((11259375 : Nat) : Int))) s := (hb2.block s hlt).trans H.out
  exact ⟨g, cap, _, rfl, hc1, hc2, hr2, by simpa using hz, hg, Ext.of_below hb2, .inl hs2, fun _ => hs2⟩
set_option maxRecDepth 100000 in
set_option maxHeartbeats 2000000 in
theorem stackInnerNat_walk (i : Nat) (w : World) (h : w.heap[i]? = some (.cells #[.slice none 0 0] 197 (0, 0))) :
    Calls Tryz.prog 203 #[.pointer (some ⟨i, 0, none⟩), .int .i64 5] w fun e w' => ∃ g zs c, e = .returned (.slice (some ⟨g, 0, none⟩) 5 5) ∧ Row w' g .u64 106 zs ∧ 5 ≤ zs.length ∧ w.heap.size ≤ g ∧ Ext (fun b => b = i) w w' ∧
      w'.heap[i]? = some (.cells #[.slice (some ⟨g, 0, none⟩) 8 c] 197 (0, 0)) ∧ 8 ≤ c ∧ c ≤ 9223372036854775807 := by
  have c0 := one_cell h
  have f0 := one_free h 0
  have HG := Lib.hid (growWords_walk 8 w (by decide) (by decide))
  have hlt := iter_lt h
  have H := Lib.hid h
  have hb : bits BinOp.andNot IntKind.i64 8 3 = 8 := by decide
  clear h
  go_enter Tryz.func203, Tryz.ntmps203
  go_wp2_with fail
  refine HG.out.mono ?_
  rintro e w1 ⟨g, cap, zs, rfl, hc1, hc2, hrow, hz, hzc, hg, hb1⟩
  have k1 := (hb1.block i hlt).trans H.out
  have d0 := one_cell k1
  have e0 := one_free k1 0
  have h4 : (8 : Int) ≤ cap := by omega
  have h5 : (5 : Int) ≤ cap := by omega
  have HR := Lib.hid hrow
  have HB := Lib.hid hb1
  have K1 := Lib.hid k1
  have hgi : g ≠ i := by omega
  have hc0 : ∀ u v, ((w1.setCell ⟨i, 0, none⟩ u).setCell ⟨i, 0, none⟩ v).cell? ⟨g, 0, none⟩ = some (.int .u64 ((zs[0]'(by omega) : Nat) : Int)) := fun u v => (cell_other (by exact hgi)).trans ((cell_other (by exact hgi)).trans (hrow.cell (j := 0) (by omega)))
  have hf0 : ∀ u v, ((w1.setCell ⟨i, 0, none⟩ u).setCell ⟨i, 0, none⟩ v).frozen? ⟨g, 0, none⟩ = false := fun u v => ((hrow.other u (p := ⟨i, 0, none⟩) hgi).other v (p := ⟨i, 0, none⟩) hgi).free 0
  clear hrow hb1 k1
  go_wp2_with fail
  go_ret
  have k2 : ∀ u v x, (((w1.setCell ⟨i, 0, none⟩ u).setCell ⟨i, 0, none⟩ v).setCell ⟨g, 0, none⟩ x).heap[i]? = some (.cells #[v] 197 (0, 0)) := fun u v x => (one_other (by exact hgi.symm)).trans (one_set (one_set K1.out))
  exact ⟨g, zs.set 0 1043915, cap, rfl, ((HR.out.other _ (p := ⟨i, 0, none⟩) hgi).other _ (p := ⟨i, 0, none⟩) hgi).set 0 1043915, by rw [List.length_set]; omega, hg,
    Ext.setCell (D := fun b => b = i) (p := ⟨g, 0, none⟩) (Ext.setCell (D := fun b => b = i) (p := ⟨i, 0, none⟩) (Ext.setCell (D := fun b => b = i) (p := ⟨i, 0, none⟩) (Ext.of_below HB.out) (fun _ => rfl) _) (fun _ => rfl) _) (fun h => absurd h (by show ¬ g < w.heap.size; omega)) _, k2 _ _ _, hc1, hc2⟩
set_option maxRecDepth 100000 in
set_option maxHeartbeats 2000000 in
theorem stackNat5_walk (s : Nat) (w : World) (h : StkNil w s) : Calls Tryz.prog 169 #[.pointer (some ⟨s, 0, none⟩), .int .i64 5] w (StkPost w s 5) := by
  have c0 := one_cell h
  have hlt := iter_lt h
  have H := Lib.hid h
  have hn : s ≠ w.heap.size := Nat.ne_of_lt hlt
  have k1 : ∀ u, ((w.setCell ⟨s, 0, none⟩ u).alloc (.cells #[.slice none 0 0] 197)).heap[w.heap.size]? = some (.cells #[.slice none 0 0] 197 (0, 0)) := fun u => by have := heap_here (w.setCell ⟨s, 0, none⟩ u) (.cells #[.slice none 0 0] 197); rwa [World.size_setCell] at this
  have k2 : ∀ u, ((w.setCell ⟨s, 0, none⟩ u).alloc (.cells #[.slice none 0 0] 197)).heap[s]? = some (.cells #[u] 181 (0, 0)) := fun u => heap_old (one_set h)
  have d0 : (w.alloc (.cells #[.slice none 0 0] 197)).cell? ⟨s, 0, none⟩ = some (.pointer none) := one_cell (heap_old h)
  have f0 : (w.alloc (.cells #[.slice none 0 0] 197)).frozen? ⟨s, 0, none⟩ = false := one_free (heap_old h) 0
  have K1 := Lib.hid k1
  have K2 := Lib.hid k2
  clear h k1 k2
  go_enter Tryz.func169, Tryz.ntmps169
  go_wp2_with fail
  refine (stackInnerNat_walk w.heap.size _ (K1.out _)).mono ?_
  rintro e w2 ⟨g, zs, c, rfl, hrow, hz, hg, hx, hi, hc1, hc2⟩
  have hs2 := (hx.block s (by simp [World.setCell]; omega) hn).trans (K2.out _)
  have hgw : w.heap.size ≤ g := by have h1 := hg; simp [World.setCell] at h1; omega
  have hxx : Ext (fun b => b = s) w w2 := ((Ext.setCell (D := fun b => b = s) (p := ⟨s, 0, none⟩) (Ext.refl _ w) (fun _ => rfl) _).alloc _).trans' hx (fun i hi h => by omega)
  have HR := Lib.hid hrow
  have HX := Lib.hid hxx
  have HS := Lib.hid hs2
  have HI := Lib.hid hi
  clear hrow hx hi hs2 hxx
  go_wp2_with fail
  go_ret
  exact ⟨g, 5, zs, rfl, Nat.le_refl _, by decide, HR.out, hz, hgw, HX.out, .inr ⟨w.heap.size, _, 8, c, HS.out, HI.out, hlt, hc1, hc2⟩, fun h => absurd h (by decide)⟩
theorem stackNatAny_walk (s n : Nat) (w : World) (h : StkNil w s) (hn0 : 0 < n) (hn : n ≤ 5) : Calls Tryz.prog 169 #[.pointer (some ⟨s, 0, none⟩), .int .i64 n] w (StkPost w s n) := by
  by_cases h4 : n ≤ 4
  · exact stackNat_walk s n w h hn0 h4
  · obtain rfl : n = 5 := by omega
    exact stackNat5_walk s w h
set_option maxRecDepth 100000 in
set_option maxHeartbeats 1000000 in
theorem getStack_walk (w : World) : Calls Tryz.prog 147 #[] w fun e w' => e = .returned (.pointer (some ⟨w.heap.size, 0, none⟩)) ∧ w' = w.alloc (.cells #[.pointer none] 181) := by
  go_enter Tryz.func147, Tryz.ntmps147
  go_wp2_with fail
  go_ret
  exact ⟨rfl, rfl⟩
set_option maxRecDepth 100000 in
set_option maxHeartbeats 1000000 in
theorem freeInner_walk (i n c : Nat) (A : Option Addr) (w : World) (h : w.heap[i]? = some (.cells #[.slice A n c] 197 (0, 0))) (hc : c ≤ 9223372036854775807) :
    Calls Tryz.prog 184 #[.pointer (some ⟨i, 0, none⟩)] w fun e w' => e = .returned (.tuple #[]) ∧ ∃ v, w' = w.setCell ⟨i, 0, none⟩ v ∧ ∃ A c, v = .slice A 0 c ∧ c ≤ 9223372036854775807 := by
  have c0 := one_cell h
  have f0 := one_free h 0
  have h1 : (0 : Int) ≤ c := by omega
  clear h
  go_enter Tryz.func184, Tryz.ntmps184
  go_wp2_with fail
  go_end0
  exact ⟨rfl, _, rfl, _, _, rfl, by omega⟩
set_option maxRecDepth 100000 in
set_option maxHeartbeats 1000000 in
/-- free, as it is deferred. -/
theorem free_d (s : Nat) (u : FrameMode) (w : World) (h : Stk w s) :
    CallsD Tryz.prog 148 #[.pointer (some ⟨s, 0, none⟩)] u w fun e u' w' => u' = u ∧ (e = .returned (.tuple #[]) ∧ RestPost w s w') := by
  rcases h with h | ⟨i, A, n, c, h, hi, hlt, hn, hc⟩
  · have c0 := one_cell h
    have HS := Lib.hid h
    clear h
    go_enter_d Tryz.func148, Tryz.ntmps148
    go_wp2_with fail
    first | go_end0 | refine bodyPost_ret (results_none rfl _ _ _) rfl ?_
    exact ⟨rfl, .inl ⟨rfl, HS.out⟩⟩
  · have c0 := one_cell h
    have HI := Lib.hid (freeInner_walk i n c A w hi hc)
    have HH := Lib.hid hi
    have HS := Lib.hid h
    clear h hi
    go_enter_d Tryz.func148, Tryz.ntmps148
    go_wp2_with fail
    refine HI.out.mono ?_
    rintro e w1 ⟨rfl, v, rfl, A2, c2, rfl, hc2⟩
    go_wp2_with fail
    go_end0
    exact ⟨rfl, .inr ⟨i, _, hlt, rfl, ⟨_, HH.out⟩, HS.out, A2, c2, rfl, hc2⟩⟩
end Go.Proofs.YtapfolgiafnllaaGreatDoor
