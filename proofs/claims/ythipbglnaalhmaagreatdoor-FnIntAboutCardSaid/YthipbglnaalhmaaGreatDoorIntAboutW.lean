/-
  impl.IntAbout: its frame.
-/
import Derived.Test.YthipbglnaalhmaaGreatDoorIntAbout
namespace Go.Proofs.YthipbglnaalhmaaGreatDoor
open Go.RowKit

theorem cells_same {w : World} {g k : Nat} {cs : Array Value} {T : TypeId} {v : Value} (h : w.heap[g]? = some (.cells cs T (0, 0))) (hv : cs[k]? = some v) : (w.setCell ⟨g, k, none⟩ v).heap[g]? = some (.cells cs T (0, 0)) := by
  have h2 := cells_set h k v
  obtain ⟨hk, rfl⟩ := Array.getElem?_eq_some_iff.1 hv
  rw [h2]
  simp [Array.setIfInBounds, hk]
set_option maxRecDepth 100000 in
theorem callC_ask : ∀ (caps : Array Value) (w : World), (callFunc 71 caps).run Tryz.prog w = .ok (.enter 71 caps) w := fun _ _ => by rfl
set_option maxRecDepth 100000 in
set_option maxHeartbeats 8000000 in
theorem intAbout_walk (l : List UInt8) (p : Addr) (w : World) (hok : readOk l = true) (hl : l.length ≤ 1000) (hp : EofIs w p) (ox : overI (readZ l) = false) :
    Calls Tryz.prog 36 #[.string (S l)] w fun e w' => e = .returned (.agg #[.int .i64 (sgnC (readZ l)), .bool (decide (readZ l = 0)), .bool (decide (readZ l < 0)), .bool (decide (0 < readZ l)), .bool false, .bool (smlOk (readZ l)), .bool (unsOk (readZ l)), .int .i64 (smlZ (readZ l)), .int .u64 (unsZ (readZ l)), .bool (smlOk (readZ l)), .bool (unsOk (readZ l))]) ∧ Below w.heap.size w w' := by
  have hmf : ∀ (fn : Fn) (first cap : Array Value) (w : World), (Instr.makeFunc fn first cap).run Tryz.prog w = .ok (.func fn first cap) w := fun _ _ _ _ => rfl
  have HS : Hid (Calls Tryz.prog 41 #[.func (.func 71) #[] #[.pointer (some ⟨w.heap.size, 0, none⟩), .pointer (some ⟨w.heap.size + 1, 0, none⟩)]]
      ((w.alloc (.cells #[.string (S l)] 9)).alloc (.cells #[.int .i64 0, .bool false, .bool false, .bool false, .bool false, .bool false, .bool false, .int .i64 0, .int .u64 0, .bool false, .bool false] 52))
      fun e w' => e = .returned (.bool true) ∧ w'.heap[w.heap.size + 1]? = some (.cells #[.int .i64 (sgnC (readZ l)), .bool (decide (readZ l = 0)), .bool (decide (readZ l < 0)), .bool (decide (0 < readZ l)), .bool false, .bool (smlOk (readZ l)), .bool (unsOk (readZ l)), .int .i64 (smlZ (readZ l)), .int .u64 (unsZ (readZ l)), .bool (smlOk (readZ l)), .bool (unsOk (readZ l))] 52 (0, 0)) ∧ Below w.heap.size w w') := by
    apply Lib.hid
    have k0 : ((w.alloc (.cells #[.string (S l)] 9)).alloc (.cells #[.int .i64 0, .bool false, .bool false, .bool false, .bool false, .bool false, .bool false, .int .i64 0, .int .u64 0, .bool false, .bool false] 52)).heap[w.heap.size]? = some (.cells #[.string (S l)] 9 (0, 0)) := heap_old (heap_here _ _)
    have k1 : ((w.alloc (.cells #[.string (S l)] 9)).alloc (.cells #[.int .i64 0, .bool false, .bool false, .bool false, .bool false, .bool false, .bool false, .int .i64 0, .int .u64 0, .bool false, .bool false] 52)).heap[w.heap.size + 1]? = some (.cells #[.int .i64 0, .bool false, .bool false, .bool false, .bool false, .bool false, .bool false, .int .i64 0, .int .u64 0, .bool false, .bool false] 52 (0, 0)) := heap_at _ _ (heap_size_alloc _ _)
    have hb : Below w.heap.size w ((w.alloc (.cells #[.string (S l)] 9)).alloc (.cells #[.int .i64 0, .bool false, .bool false, .bool false, .bool false, .bool false, .bool false, .int .i64 0, .int .u64 0, .bool false, .bool false] 52)) := below_a2 _ _ _
    obtain ⟨wa, hwa⟩ : ∃ wa, (w.alloc (.cells #[.string (S l)] 9)).alloc (.cells #[.int .i64 0, .bool false, .bool false, .bool false, .bool false, .bool false, .bool false, .int .i64 0, .int .u64 0, .bool false, .bool false] 52) = wa := ⟨_, rfl⟩
    rw [hwa] at k0 k1 hb ⊢
    clear hwa
    have lt1 := iter_lt k1
    refine safe_ret 71 _ wa (fun w' => w'.heap[w.heap.size + 1]? = some (.cells #[.int .i64 (sgnC (readZ l)), .bool (decide (readZ l = 0)), .bool (decide (readZ l < 0)), .bool (decide (0 < readZ l)), .bool false, .bool (smlOk (readZ l)), .bool (unsOk (readZ l)), .int .i64 (smlZ (readZ l)), .int .u64 (unsZ (readZ l)), .bool (smlOk (readZ l)), .bool (unsOk (readZ l))] 52 (0, 0)) ∧ Below w.heap.size w w') (callC_ask _) ?_
    refine (askC_walk l p w.heap.size _ hok hl ((hp.below hb).below (below_a1 _ _)) ox (heap_old k0) (heap_old k1)).mono ?_
    rintro e w1 ⟨rfl, he, j1⟩
    refine ⟨rfl, (he.block wa.heap.size (by rw [heap_size_alloc]; omega) (by omega)).trans (heap_here _ _), ((one_other (by show w.heap.size + 1 ≠ wa.heap.size; omega)).trans (one_other (by show w.heap.size + 1 ≠ wa.heap.size; omega))).trans j1, ?_⟩
    refine Below.setCell (Below.setCell ?_ (by show w.heap.size ≤ wa.heap.size; omega) _) (by show w.heap.size ≤ wa.heap.size; omega) _
    exact (hb.trans ((below_a1 wa _).mono (by omega))).trans (he.below (by rw [heap_size_alloc]; omega) (fun k hk => by omega))
  obtain ⟨z, hz⟩ : ∃ z, readZ l = z := ⟨_, rfl⟩
  rw [hz] at HS ⊢
  obtain ⟨s, hs⟩ : ∃ s, sgnC z = s := ⟨_, rfl⟩
  obtain ⟨b1, hb1⟩ : ∃ b1, decide (z = 0) = b1 := ⟨_, rfl⟩
  obtain ⟨b2, hb2⟩ : ∃ b2, decide (z < 0) = b2 := ⟨_, rfl⟩
  obtain ⟨b3, hb3⟩ : ∃ b3, decide (0 < z) = b3 := ⟨_, rfl⟩
  obtain ⟨b5, hb5⟩ : ∃ b5, smlOk z = b5 := ⟨_, rfl⟩
  obtain ⟨b6, hb6⟩ : ∃ b6, unsOk z = b6 := ⟨_, rfl⟩
  obtain ⟨v7, hv7⟩ : ∃ v7, smlZ z = v7 := ⟨_, rfl⟩
  obtain ⟨v8, hv8⟩ : ∃ v8, unsZ z = v8 := ⟨_, rfl⟩
  rw [hs, hb1, hb2, hb3, hb5, hb6, hv7, hv8] at HS ⊢
  clear hz hs hb1 hb2 hb3 hb5 hb6 hv7 hv8 hok hp ox
  go_enter Tryz.func36, Tryz.ntmps36
  go_wp2_with fail
  refine HS.out.mono ?_
  rintro e w1 ⟨rfl, j1, hb⟩
  have c0 : w1.cell? ⟨w.heap.size + 1, 0, none⟩ = some (.int .i64 s) := blk_cell (k := 0) j1 rfl
  have f0 := one_free j1 0
  have c1 : w1.cell? ⟨w.heap.size + 1, 1, none⟩ = some (.bool b1) := blk_cell (k := 1) j1 rfl
  have f1 := one_free j1 1
  have c2 : w1.cell? ⟨w.heap.size + 1, 2, none⟩ = some (.bool b2) := blk_cell (k := 2) j1 rfl
  have f2 := one_free j1 2
  have c3 : w1.cell? ⟨w.heap.size + 1, 3, none⟩ = some (.bool b3) := blk_cell (k := 3) j1 rfl
  have f3 := one_free j1 3
  have c4 : w1.cell? ⟨w.heap.size + 1, 4, none⟩ = some (.bool false) := blk_cell (k := 4) j1 rfl
  have f4 := one_free j1 4
  have c5 : w1.cell? ⟨w.heap.size + 1, 5, none⟩ = some (.bool b5) := blk_cell (k := 5) j1 rfl
  have f5 := one_free j1 5
  have c6 : w1.cell? ⟨w.heap.size + 1, 6, none⟩ = some (.bool b6) := blk_cell (k := 6) j1 rfl
  have f6 := one_free j1 6
  have c7 : w1.cell? ⟨w.heap.size + 1, 7, none⟩ = some (.int .i64 v7) := blk_cell (k := 7) j1 rfl
  have f7 := one_free j1 7
  have c8 : w1.cell? ⟨w.heap.size + 1, 8, none⟩ = some (.int .u64 v8) := blk_cell (k := 8) j1 rfl
  have f8 := one_free j1 8
  have c9 : w1.cell? ⟨w.heap.size + 1, 9, none⟩ = some (.bool b5) := blk_cell (k := 9) j1 rfl
  have f9 := one_free j1 9
  have c10 : w1.cell? ⟨w.heap.size + 1, 10, none⟩ = some (.bool b6) := blk_cell (k := 10) j1 rfl
  have f10 := one_free j1 10
  have J1 := Lib.hid j1
  have HB := Lib.hid hb
  clear j1 hb
  go_wp2_with fail
  have e0 : (((((((((((w1.setCell ⟨w.heap.size + 1, 0, none⟩ (.int .i64 s)).setCell ⟨w.heap.size + 1, 1, none⟩ (.bool b1)).setCell ⟨w.heap.size + 1, 2, none⟩ (.bool b2)).setCell ⟨w.heap.size + 1, 3, none⟩ (.bool b3)).setCell ⟨w.heap.size + 1, 4, none⟩ (.bool false)).setCell ⟨w.heap.size + 1, 5, none⟩ (.bool b5)).setCell ⟨w.heap.size + 1, 6, none⟩ (.bool b6)).setCell ⟨w.heap.size + 1, 7, none⟩ (.int .i64 v7)).setCell ⟨w.heap.size + 1, 8, none⟩ (.int .u64 v8)).setCell ⟨w.heap.size + 1, 9, none⟩ (.bool b5)).setCell ⟨w.heap.size + 1, 10, none⟩ (.bool b6)).heap[w.heap.size + 1]? = some (.cells #[.int .i64 s, .bool b1, .bool b2, .bool b3, .bool false, .bool b5, .bool b6, .int .i64 v7, .int .u64 v8, .bool b5, .bool b6] 52 (0, 0)) := (cells_same (k := 10) (v := .bool b6) (cells_same (k := 9) (v := .bool b5) (cells_same (k := 8) (v := .int .u64 v8) (cells_same (k := 7) (v := .int .i64 v7) (cells_same (k := 6) (v := .bool b6) (cells_same (k := 5) (v := .bool b5) (cells_same (k := 4) (v := .bool false) (cells_same (k := 3) (v := .bool b3) (cells_same (k := 2) (v := .bool b2) (cells_same (k := 1) (v := .bool b1) (cells_same (k := 0) (v := .int .i64 s) J1.out rfl) rfl) rfl) rfl) rfl) rfl) rfl) rfl) rfl) rfl) rfl)
  have hle : w.heap.size ≤ w.heap.size + 1 := Nat.le_succ _
  have hb2 : Below w.heap.size w (((((((((((w1.setCell ⟨w.heap.size + 1, 0, none⟩ (.int .i64 s)).setCell ⟨w.heap.size + 1, 1, none⟩ (.bool b1)).setCell ⟨w.heap.size + 1, 2, none⟩ (.bool b2)).setCell ⟨w.heap.size + 1, 3, none⟩ (.bool b3)).setCell ⟨w.heap.size + 1, 4, none⟩ (.bool false)).setCell ⟨w.heap.size + 1, 5, none⟩ (.bool b5)).setCell ⟨w.heap.size + 1, 6, none⟩ (.bool b6)).setCell ⟨w.heap.size + 1, 7, none⟩ (.int .i64 v7)).setCell ⟨w.heap.size + 1, 8, none⟩ (.int .u64 v8)).setCell ⟨w.heap.size + 1, 9, none⟩ (.bool b5)).setCell ⟨w.heap.size + 1, 10, none⟩ (.bool b6)) := (Below.setCell (p := ⟨w.heap.size + 1, 10, none⟩) (Below.setCell (p := ⟨w.heap.size + 1, 9, none⟩) (Below.setCell (p := ⟨w.heap.size + 1, 8, none⟩) (Below.setCell (p := ⟨w.heap.size + 1, 7, none⟩) (Below.setCell (p := ⟨w.heap.size + 1, 6, none⟩) (Below.setCell (p := ⟨w.heap.size + 1, 5, none⟩) (Below.setCell (p := ⟨w.heap.size + 1, 4, none⟩) (Below.setCell (p := ⟨w.heap.size + 1, 3, none⟩) (Below.setCell (p := ⟨w.heap.size + 1, 2, none⟩) (Below.setCell (p := ⟨w.heap.size + 1, 1, none⟩) (Below.setCell (p := ⟨w.heap.size + 1, 0, none⟩) HB.out hle (.int .i64 s)) hle (.bool b1)) hle (.bool b2)) hle (.bool b3)) hle (.bool false)) hle (.bool b5)) hle (.bool b6)) hle (.int .i64 v7)) hle (.int .u64 v8)) hle (.bool b5)) hle (.bool b6))
  obtain ⟨w2, hw2⟩ : ∃ w2, (((((((((((w1.setCell ⟨w.heap.size + 1, 0, none⟩ (.int .i64 s)).setCell ⟨w.heap.size + 1, 1, none⟩ (.bool b1)).setCell ⟨w.heap.size + 1, 2, none⟩ (.bool b2)).setCell ⟨w.heap.size + 1, 3, none⟩ (.bool b3)).setCell ⟨w.heap.size + 1, 4, none⟩ (.bool false)).setCell ⟨w.heap.size + 1, 5, none⟩ (.bool b5)).setCell ⟨w.heap.size + 1, 6, none⟩ (.bool b6)).setCell ⟨w.heap.size + 1, 7, none⟩ (.int .i64 v7)).setCell ⟨w.heap.size + 1, 8, none⟩ (.int .u64 v8)).setCell ⟨w.heap.size + 1, 9, none⟩ (.bool b5)).setCell ⟨w.heap.size + 1, 10, none⟩ (.bool b6)) = w2 := ⟨_, rfl⟩
  rw [hw2] at e0 hb2 ⊢
  clear hw2 c0 c1 c2 c3 c4 c5 c6 c7 c8 c9 c10 f0 f1 f2 f3 f4 f5 f6 f7 f8 f9 f10
  have d0 : w2.cell? ⟨w.heap.size + 1, 0, none⟩ = some (.int .i64 s) := blk_cell (k := 0) e0 rfl
  have d1 : w2.cell? ⟨w.heap.size + 1, 1, none⟩ = some (.bool b1) := blk_cell (k := 1) e0 rfl
  have d2 : w2.cell? ⟨w.heap.size + 1, 2, none⟩ = some (.bool b2) := blk_cell (k := 2) e0 rfl
  have d3 : w2.cell? ⟨w.heap.size + 1, 3, none⟩ = some (.bool b3) := blk_cell (k := 3) e0 rfl
  have d4 : w2.cell? ⟨w.heap.size + 1, 4, none⟩ = some (.bool false) := blk_cell (k := 4) e0 rfl
  have d5 : w2.cell? ⟨w.heap.size + 1, 5, none⟩ = some (.bool b5) := blk_cell (k := 5) e0 rfl
  have d6 : w2.cell? ⟨w.heap.size + 1, 6, none⟩ = some (.bool b6) := blk_cell (k := 6) e0 rfl
  have d7 : w2.cell? ⟨w.heap.size + 1, 7, none⟩ = some (.int .i64 v7) := blk_cell (k := 7) e0 rfl
  have d8 : w2.cell? ⟨w.heap.size + 1, 8, none⟩ = some (.int .u64 v8) := blk_cell (k := 8) e0 rfl
  have d9 : w2.cell? ⟨w.heap.size + 1, 9, none⟩ = some (.bool b5) := blk_cell (k := 9) e0 rfl
  have d10 : w2.cell? ⟨w.heap.size + 1, 10, none⟩ = some (.bool b6) := blk_cell (k := 10) e0 rfl
  clear e0
  exact bodyPost_ret (v := .agg #[.int .i64 s, .bool b1, .bool b2, .bool b3, .bool false, .bool b5, .bool b6, .int .i64 v7, .int .u64 v8, .bool b5, .bool b6]) (by simp [results, Tryz.results36, go_sem, d0, d1, d2, d3, d4, d5, d6, d7, d8, d9, d10]) rfl ⟨rfl, hb2⟩
end Go.Proofs.YthipbglnaalhmaaGreatDoor
