/-
  impl.IntBytes, UintFromBytes, UintJSON, UintFromJSON.
-/
import Derived.Test.YtiohlcfdoleooaaGreatDoorIntByteC
namespace Go.Proofs.YtiohlcfdoleooaaGreatDoor
open Go.RowKit

/-- A closure that leaves a text and 'true', under impl.safe. -/
theorem safe_textI (k : FuncId) (o : Obj) (t : List UInt8) (w : World) (hk : ∀ (caps : Array Value) (w : World), (callFunc k caps).run Tryz.prog w = .ok (.enter k caps) w)
    (h : ∀ w0 : World, w0.heap[w.heap.size]? = some o → w0.heap[w.heap.size + 1]? = some (.cells #[.string ⟨#[]⟩] 9 (0, 0)) → w0.heap[w.heap.size + 1 + 1]? = some (.cells #[.bool false] 4 (0, 0)) → Below w.heap.size w w0 →
      Calls Tryz.prog k #[.pointer (some ⟨w.heap.size, 0, none⟩), .pointer (some ⟨w.heap.size + 1, 0, none⟩), .pointer (some ⟨w.heap.size + 1 + 1, 0, none⟩)] w0 fun e w' => e = .returned (.tuple #[]) ∧ TextOutI w0 (w.heap.size + 1) (w.heap.size + 1 + 1) t w') :
    Calls Tryz.prog 48 #[.func (.func k) #[] #[.pointer (some ⟨w.heap.size, 0, none⟩), .pointer (some ⟨w.heap.size + 1, 0, none⟩), .pointer (some ⟨w.heap.size + 1 + 1, 0, none⟩)]] (((w.alloc o).alloc (.cells #[.string ⟨#[]⟩] 9)).alloc (.cells #[.bool false] 4))
      fun e w' => e = .returned (.bool true) ∧ Below w.heap.size w w' ∧ w'.heap[w.heap.size + 1]? = some (.cells #[.string (S t)] 9 (0, 0)) ∧ w'.heap[w.heap.size + 1 + 1]? = some (.cells #[.bool true] 4 (0, 0)) := by
  have k0 : (((w.alloc o).alloc (.cells #[.string ⟨#[]⟩] 9)).alloc (.cells #[.bool false] 4)).heap[w.heap.size]? = some o := heap_old (heap_old (heap_here _ _))
  have k1 : (((w.alloc o).alloc (.cells #[.string ⟨#[]⟩] 9)).alloc (.cells #[.bool false] 4)).heap[w.heap.size + 1]? = some (.cells #[.string ⟨#[]⟩] 9 (0, 0)) := heap_old (heap_at _ _ (heap_size_alloc _ _))
  have k2 : (((w.alloc o).alloc (.cells #[.string ⟨#[]⟩] 9)).alloc (.cells #[.bool false] 4)).heap[w.heap.size + 1 + 1]? = some (.cells #[.bool false] 4 (0, 0)) := heap_at _ _ (by rw [heap_size_alloc, heap_size_alloc])
  have hb : Below w.heap.size w (((w.alloc o).alloc (.cells #[.string ⟨#[]⟩] 9)).alloc (.cells #[.bool false] 4)) := bt (below_a2 _ _ _) (below_a1 _ _)
  obtain ⟨wa, hwa⟩ : ∃ wa, ((w.alloc o).alloc (.cells #[.string ⟨#[]⟩] 9)).alloc (.cells #[.bool false] 4) = wa := ⟨_, rfl⟩
  rw [hwa] at k0 k1 k2 hb ⊢
  clear hwa
  have lt2 := iter_lt k2
  refine safe_ret k _ wa (fun w' => Below w.heap.size w w' ∧ w'.heap[w.heap.size + 1]? = some (.cells #[.string (S t)] 9 (0, 0)) ∧ w'.heap[w.heap.size + 1 + 1]? = some (.cells #[.bool true] 4 (0, 0))) (hk _) ?_
  refine (h _ (heap_old k0) (heap_old k1) (heap_old k2) (hb.trans ((below_a1 wa _).mono (by omega)))).mono ?_
  rintro e w1 ⟨rfl, he, j1, j2⟩
  have oth : ∀ (k : Nat), k < wa.heap.size → ((w1.setCell ⟨wa.heap.size, 0, none⟩ (.bool true)).setCell ⟨wa.heap.size, 0, none⟩ (.bool true)).heap[k]? = w1.heap[k]? := fun k hk => (one_other (by show k ≠ wa.heap.size; omega)).trans (one_other (by show k ≠ wa.heap.size; omega))
  refine ⟨rfl, (he.block wa.heap.size (by rw [heap_size_alloc]; omega) (by omega)).trans (heap_here _ _), ?_, (oth _ (by omega)).trans j1, (oth _ lt2).trans j2⟩
  refine Below.setCell (Below.setCell ?_ (by show w.heap.size ≤ wa.heap.size; omega) _) (by show w.heap.size ≤ wa.heap.size; omega) _
  exact (hb.trans ((below_a1 wa _).mono (by omega))).trans (he.below (by rw [heap_size_alloc]; omega) (fun k hk => by omega))

set_option maxRecDepth 100000 in
theorem callCIntJSON : ∀ (caps : Array Value) (w : World), (callFunc 85 caps).run Tryz.prog w = .ok (.enter 85 caps) w := fun _ _ => by rfl
set_option maxRecDepth 100000 in
set_option maxHeartbeats 2000000 in
theorem intJson_walk (l : List UInt8) (p : Addr) (w : World) (hok : readOk l = true) (hl : l.length ≤ 1000) (hp : EofIs w p) (hleaf : LeafIs w) (ox : overI (readZ l) = false) :
    Calls Tryz.prog 30 #[.string (S l)] w fun e w' => e = .returned (.tuple #[.string (S (34 :: (zText (readZ l) ++ [34]))), .bool true]) ∧ Below w.heap.size w w' := by
  have hmf : ∀ (fn : Fn) (first cap : Array Value) (w : World), (Instr.makeFunc fn first cap).run Tryz.prog w = .ok (.func fn first cap) w := fun _ _ _ _ => rfl
  have hS := safe_textI 85 (.cells #[.string (S l)] 9) ((34 :: (zText (readZ l) ++ [34]))) w callCIntJSON (fun w0 h0 h1 h2 hb => intJsonC_walk l p _ _ _ w0 hok hl (hp.below hb) (hleaf.below hb) h0 h1 h2 (by omega) ox)
  obtain ⟨t, ht⟩ : ∃ t, (34 :: (zText (readZ l) ++ [34])) = t := ⟨_, rfl⟩
  rw [ht] at hS ⊢
  have HS := Lib.hid hS
  clear hS ht hp hleaf ox hok
  go_enter Tryz.func30, Tryz.ntmps30
  go_wp2_with fail
  refine HS.out.mono ?_
  rintro e w1 ⟨rfl, hb, k2, k3⟩
  have c2 := one_cell k2
  have c3 := one_cell k3
  have f2 := one_free k2 0
  have f3 := one_free k3 0
  have K2 := Lib.hid k2
  have K3 := Lib.hid k3
  clear k2 k3
  go_wp2_with fail
  have e2 := (one_other (u := .bool true) (w := w1.setCell ⟨w.heap.size + 1, 0, none⟩ (.string (S t))) (g := w.heap.size + 1) (a := ⟨w.heap.size + 1 + 1, 0, none⟩) (by simp)).trans (one_set (u := .string (S t)) K2.out)
  have e3 := one_set (u := .bool true) ((one_other (u := .string (S t)) (w := w1) (g := w.heap.size + 1 + 1) (a := ⟨w.heap.size + 1, 0, none⟩) (by simp)).trans K3.out)
  have d2 := one_cell e2
  have d3 := one_cell e3
  exact bodyPost_ret (v := .tuple #[.string (S t), .bool true]) (by simp [results, Tryz.results30, go_sem, d2, d3]) rfl ⟨rfl, (hb.setCell (p := ⟨w.heap.size + 1, 0, none⟩) (by simp) _).setCell (p := ⟨w.heap.size + 1 + 1, 0, none⟩) (by simp; omega) _⟩

set_option maxRecDepth 100000 in
theorem callCIntFromJSON : ∀ (caps : Array Value) (w : World), (callFunc 87 caps).run Tryz.prog w = .ok (.enter 87 caps) w := fun _ _ => by rfl
set_option maxRecDepth 100000 in
set_option maxHeartbeats 2000000 in
theorem intFromJson_walk (l : List UInt8) (p : Addr) (w : World) (hok : readOk l = true) (hl : l.length ≤ 1000) (hp : EofIs w p) (hleaf : LeafIs w) (ox : overI (readZ l) = false) (oi : overI (readZ l) = false) (hpl : Plain l) :
    Calls Tryz.prog 31 #[.string (S (34 :: (l ++ [34])))] w fun e w' => e = .returned (.tuple #[.string (S (zText (readZ l))), .bool true]) ∧ Below w.heap.size w w' := by
  have hmf : ∀ (fn : Fn) (first cap : Array Value) (w : World), (Instr.makeFunc fn first cap).run Tryz.prog w = .ok (.func fn first cap) w := fun _ _ _ _ => rfl
  have hS := safe_textI 87 (.cells #[.string (S (34 :: (l ++ [34])))] 9) ((zText (readZ l))) w callCIntFromJSON (fun w0 h0 h1 h2 hb => intFromJsonC_walk l p _ _ _ w0 hok hl (hp.below hb) (hleaf.below hb) h0 h1 h2 (by omega) ox oi hpl)
  obtain ⟨t, ht⟩ : ∃ t, (zText (readZ l)) = t := ⟨_, rfl⟩
  rw [ht] at hS ⊢
  have HS := Lib.hid hS
  clear hS ht hp hleaf ox oi hok hpl
  go_enter Tryz.func31, Tryz.ntmps31
  go_wp2_with fail
  refine HS.out.mono ?_
  rintro e w1 ⟨rfl, hb, k2, k3⟩
  have c2 := one_cell k2
  have c3 := one_cell k3
  have f2 := one_free k2 0
  have f3 := one_free k3 0
  have K2 := Lib.hid k2
  have K3 := Lib.hid k3
  clear k2 k3
  go_wp2_with fail
  have e2 := (one_other (u := .bool true) (w := w1.setCell ⟨w.heap.size + 1, 0, none⟩ (.string (S t))) (g := w.heap.size + 1) (a := ⟨w.heap.size + 1 + 1, 0, none⟩) (by simp)).trans (one_set (u := .string (S t)) K2.out)
  have e3 := one_set (u := .bool true) ((one_other (u := .string (S t)) (w := w1) (g := w.heap.size + 1 + 1) (a := ⟨w.heap.size + 1, 0, none⟩) (by simp)).trans K3.out)
  have d2 := one_cell e2
  have d3 := one_cell e3
  exact bodyPost_ret (v := .tuple #[.string (S t), .bool true]) (by simp [results, Tryz.results31, go_sem, d2, d3]) rfl ⟨rfl, (hb.setCell (p := ⟨w.heap.size + 1, 0, none⟩) (by simp) _).setCell (p := ⟨w.heap.size + 1 + 1, 0, none⟩) (by simp; omega) _⟩

set_option maxRecDepth 100000 in
theorem callCIntFromBytes : ∀ (caps : Array Value) (w : World), (callFunc 82 caps).run Tryz.prog w = .ok (.enter 82 caps) w := fun _ _ => by rfl
set_option maxRecDepth 100000 in
set_option maxHeartbeats 2000000 in
theorem intFromBytes_walk (l : List UInt8) (v : Value) (p : Addr) (w : World) (hok : readOk l = true) (hl : l.length ≤ 1000) (hl0 : l ≠ []) (hp : EofIs w p) (hleaf : LeafIs w) (hv : Byt w v l) (ox : overI (readZ l) = false) :
    Calls Tryz.prog 29 #[v] w fun e w' => e = .returned (.tuple #[.string (S (zText (readZ l))), .bool true]) ∧ Below w.heap.size w w' := by
  have hmf : ∀ (fn : Fn) (first cap : Array Value) (w : World), (Instr.makeFunc fn first cap).run Tryz.prog w = .ok (.func fn first cap) w := fun _ _ _ _ => rfl
  have hS := safe_textI 82 (.cells #[v] 22) ((zText (readZ l))) w callCIntFromBytes (fun w0 h0 h1 h2 hb => intFromBytesC_walk l v p _ _ _ w0 hok hl hl0 (hp.below hb) (hleaf.below hb) h0 (hv.below hb) h1 h2 (by omega) ox)
  obtain ⟨t, ht⟩ : ∃ t, (zText (readZ l)) = t := ⟨_, rfl⟩
  rw [ht] at hS ⊢
  have HS := Lib.hid hS
  obtain ⟨b, o, c, rfl, _, _, _, _⟩ := hv
  clear hS ht hp hleaf ox hok hl0
  go_enter Tryz.func29, Tryz.ntmps29
  go_wp2_with fail
  refine HS.out.mono ?_
  rintro e w1 ⟨rfl, hb, k2, k3⟩
  have c2 := one_cell k2
  have c3 := one_cell k3
  have f2 := one_free k2 0
  have f3 := one_free k3 0
  have K2 := Lib.hid k2
  have K3 := Lib.hid k3
  clear k2 k3
  go_wp2_with fail
  have e2 := (one_other (u := .bool true) (w := w1.setCell ⟨w.heap.size + 1, 0, none⟩ (.string (S t))) (g := w.heap.size + 1) (a := ⟨w.heap.size + 1 + 1, 0, none⟩) (by simp)).trans (one_set (u := .string (S t)) K2.out)
  have e3 := one_set (u := .bool true) ((one_other (u := .string (S t)) (w := w1) (g := w.heap.size + 1 + 1) (a := ⟨w.heap.size + 1, 0, none⟩) (by simp)).trans K3.out)
  have d2 := one_cell e2
  have d3 := one_cell e3
  exact bodyPost_ret (v := .tuple #[.string (S t), .bool true]) (by simp [results, Tryz.results29, go_sem, d2, d3]) rfl ⟨rfl, (hb.setCell (p := ⟨w.heap.size + 1, 0, none⟩) (by simp) _).setCell (p := ⟨w.heap.size + 1 + 1, 0, none⟩) (by simp; omega) _⟩

set_option maxRecDepth 100000 in
theorem callCIntBytes : ∀ (caps : Array Value) (w : World), (callFunc 78 caps).run Tryz.prog w = .ok (.enter 78 caps) w := fun _ _ => by rfl
/-- What impl.IntBytes hands back. -/
def BytesPostI (w : World) (l : List UInt8) (e : Ending) (w' : World) : Prop := ∃ v, e = .returned (.tuple #[v, .int .i64 (l.length : Int), .bool true]) ∧ Byt w' v l ∧ Below w.heap.size w w'
set_option maxRecDepth 100000 in
set_option maxHeartbeats 4000000 in
theorem intBytes_walk (l : List UInt8) (p : Addr) (w : World) (hok : readOk l = true) (hl : l.length ≤ 1000) (hp : EofIs w p) (hleaf : LeafIs w) (ox : overI (readZ l) = false) :
    Calls Tryz.prog 28 #[.string (S l)] w (BytesPostI w (zText (readZ l))) := by
  have hmf : ∀ (fn : Fn) (first cap : Array Value) (w : World), (Instr.makeFunc fn first cap).run Tryz.prog w = .ok (.func fn first cap) w := fun _ _ _ _ => rfl
  have hne := zText_ne (readZ l)
  have HS : Hid (Calls Tryz.prog 48 #[.func (.func 78) #[] #[.pointer (some ⟨w.heap.size, 0, none⟩), .pointer (some ⟨w.heap.size + 1, 0, none⟩), .pointer (some ⟨w.heap.size + 1 + 1, 0, none⟩), .pointer (some ⟨w.heap.size + 1 + 1 + 1, 0, none⟩)]]
      ((((w.alloc (.cells #[.string (S l)] 9)).alloc (.cells #[.slice none 0 0] 22)).alloc (.cells #[.int .i64 0] 3)).alloc (.cells #[.bool false] 4))
      fun e w' => e = .returned (.bool true) ∧ Below w.heap.size w w' ∧ ∃ v, w'.heap[w.heap.size + 1]? = some (.cells #[v] 22 (0, 0)) ∧ OwnB (w.heap.size + 1 + 1 + 1 + 1 + 1) w' v (zText (readZ l)) ∧
        w'.heap[w.heap.size + 1 + 1]? = some (.cells #[.int .i64 ((zText (readZ l)).length : Int)] 3 (0, 0)) ∧ w'.heap[w.heap.size + 1 + 1 + 1]? = some (.cells #[.bool true] 4 (0, 0))) := by
    apply Lib.hid
    have k0 : ((((w.alloc (.cells #[.string (S l)] 9)).alloc (.cells #[.slice none 0 0] 22)).alloc (.cells #[.int .i64 0] 3)).alloc (.cells #[.bool false] 4)).heap[w.heap.size]? = some (.cells #[.string (S l)] 9 (0, 0)) := heap_old (heap_old (heap_old (heap_here _ _)))
    have k1 : ((((w.alloc (.cells #[.string (S l)] 9)).alloc (.cells #[.slice none 0 0] 22)).alloc (.cells #[.int .i64 0] 3)).alloc (.cells #[.bool false] 4)).heap[w.heap.size + 1]? = some (.cells #[.slice none 0 0] 22 (0, 0)) := heap_old (heap_old (heap_at _ _ (heap_size_alloc _ _)))
    have k2 : ((((w.alloc (.cells #[.string (S l)] 9)).alloc (.cells #[.slice none 0 0] 22)).alloc (.cells #[.int .i64 0] 3)).alloc (.cells #[.bool false] 4)).heap[w.heap.size + 1 + 1]? = some (.cells #[.int .i64 0] 3 (0, 0)) := heap_old (heap_at _ _ (by simp only [heap_size_alloc]))
    have k3 : ((((w.alloc (.cells #[.string (S l)] 9)).alloc (.cells #[.slice none 0 0] 22)).alloc (.cells #[.int .i64 0] 3)).alloc (.cells #[.bool false] 4)).heap[w.heap.size + 1 + 1 + 1]? = some (.cells #[.bool false] 4 (0, 0)) := heap_at _ _ (by simp only [heap_size_alloc])
    have hb : Below w.heap.size w ((((w.alloc (.cells #[.string (S l)] 9)).alloc (.cells #[.slice none 0 0] 22)).alloc (.cells #[.int .i64 0] 3)).alloc (.cells #[.bool false] 4)) := bt (below_a2 _ _ _) (below_a2 _ _ _)
    have hsz : ((((w.alloc (.cells #[.string (S l)] 9)).alloc (.cells #[.slice none 0 0] 22)).alloc (.cells #[.int .i64 0] 3)).alloc (.cells #[.bool false] 4)).heap.size = w.heap.size + 1 + 1 + 1 + 1 := by simp only [heap_size_alloc]
    obtain ⟨wa, hwa⟩ : ∃ wa, (((w.alloc (.cells #[.string (S l)] 9)).alloc (.cells #[.slice none 0 0] 22)).alloc (.cells #[.int .i64 0] 3)).alloc (.cells #[.bool false] 4) = wa := ⟨_, rfl⟩
    rw [hwa] at k0 k1 k2 k3 hb hsz ⊢
    clear hwa
    have lt3 := iter_lt k3
    refine safe_ret 78 _ wa (fun w' => Below w.heap.size w w' ∧ ∃ v, w'.heap[w.heap.size + 1]? = some (.cells #[v] 22 (0, 0)) ∧ OwnB (w.heap.size + 1 + 1 + 1 + 1 + 1) w' v (zText (readZ l)) ∧
        w'.heap[w.heap.size + 1 + 1]? = some (.cells #[.int .i64 ((zText (readZ l)).length : Int)] 3 (0, 0)) ∧ w'.heap[w.heap.size + 1 + 1 + 1]? = some (.cells #[.bool true] 4 (0, 0))) (callCIntBytes _) ?_
    refine (intBytesC_walk l p _ _ _ _ _ hok hl ((hp.below hb).below (below_a1 _ _)) ((hleaf.below hb).below (below_a1 _ _)) (heap_old k0) (heap_old k1) (heap_old k2) (heap_old k3) (by omega) (by omega) (by omega) ox).mono ?_
    rintro e w1 ⟨rfl, he, v, j1, jo, j2, j3⟩
    have oth : ∀ (k : Nat), k < wa.heap.size → ((w1.setCell ⟨wa.heap.size, 0, none⟩ (.bool true)).setCell ⟨wa.heap.size, 0, none⟩ (.bool true)).heap[k]? = w1.heap[k]? := fun k hk => (one_other (by show k ≠ wa.heap.size; omega)).trans (one_other (by show k ≠ wa.heap.size; omega))
    rw [heap_size_alloc, hsz] at jo
    refine ⟨rfl, (he.block wa.heap.size (by rw [heap_size_alloc]; omega) (by omega)).trans (heap_here _ _), ?_, v, (oth _ (by omega)).trans j1, (jo.other _ (by show wa.heap.size < _; omega)).other _ (by show wa.heap.size < _; omega), (oth _ (by omega)).trans j2, (oth _ (by omega)).trans j3⟩
    refine Below.setCell (Below.setCell ?_ (by show w.heap.size ≤ wa.heap.size; omega) _) (by show w.heap.size ≤ wa.heap.size; omega) _
    exact (hb.trans ((below_a1 wa _).mono (by omega))).trans (he.below (by rw [heap_size_alloc]; omega) (fun k hk => by omega))
  obtain ⟨t, ht⟩ : ∃ t, zText (readZ l) = t := ⟨_, rfl⟩
  rw [ht] at HS hne ⊢
  have HNE := Lib.hid hne
  clear ht hp hleaf ox hok hne
  go_enter Tryz.func28, Tryz.ntmps28
  go_wp2_with fail
  refine HS.out.mono ?_
  rintro e w1 ⟨rfl, hb, v, k1, ko, k2, k3⟩
  obtain ⟨bb, oo, cc, rfl, _, _, _, _⟩ := ko.byt HNE.out
  have c1 := one_cell k1
  have c2 := one_cell k2
  have c3 := one_cell k3
  have f1 := one_free k1 0
  have f2 := one_free k2 0
  have f3 := one_free k3 0
  have K1 := Lib.hid k1
  have K2 := Lib.hid k2
  have K3 := Lib.hid k3
  have KO := Lib.hid ko
  have HB := Lib.hid hb
  clear k1 k2 k3 ko hb
  go_wp2_with fail
  go_region
  all_goals
    go_wp2_with fail
    have e1 := (one_other (w := (w1.setCell ⟨w.heap.size + 1, 0, none⟩ (.slice (some ⟨bb, oo, none⟩) t.length cc)).setCell ⟨w.heap.size + 1 + 1, 0, none⟩ (.int .i64 (t.length : Int))) (u := .bool true) (g := w.heap.size + 1) (a := ⟨w.heap.size + 1 + 1 + 1, 0, none⟩) (by show w.heap.size + 1 ≠ w.heap.size + 1 + 1 + 1; omega)).trans ((one_other (w := w1.setCell ⟨w.heap.size + 1, 0, none⟩ (.slice (some ⟨bb, oo, none⟩) t.length cc)) (u := .int .i64 (t.length : Int)) (g := w.heap.size + 1) (a := ⟨w.heap.size + 1 + 1, 0, none⟩) (by show w.heap.size + 1 ≠ w.heap.size + 1 + 1; omega)).trans (one_set (u := .slice (some ⟨bb, oo, none⟩) t.length cc) K1.out))
    have e2 := (one_other (w := (w1.setCell ⟨w.heap.size + 1, 0, none⟩ (.slice (some ⟨bb, oo, none⟩) t.length cc)).setCell ⟨w.heap.size + 1 + 1, 0, none⟩ (.int .i64 (t.length : Int))) (u := .bool true) (g := w.heap.size + 1 + 1) (a := ⟨w.heap.size + 1 + 1 + 1, 0, none⟩) (by show w.heap.size + 1 + 1 ≠ w.heap.size + 1 + 1 + 1; omega)).trans (one_set (u := .int .i64 (t.length : Int)) ((one_other (w := w1) (u := .slice (some ⟨bb, oo, none⟩) t.length cc) (g := w.heap.size + 1 + 1) (a := ⟨w.heap.size + 1, 0, none⟩) (by show w.heap.size + 1 + 1 ≠ w.heap.size + 1; omega)).trans K2.out))
    have e3 := one_set (u := .bool true) ((one_other (w := w1.setCell ⟨w.heap.size + 1, 0, none⟩ (.slice (some ⟨bb, oo, none⟩) t.length cc)) (u := .int .i64 (t.length : Int)) (g := w.heap.size + 1 + 1 + 1) (a := ⟨w.heap.size + 1 + 1, 0, none⟩) (by show w.heap.size + 1 + 1 + 1 ≠ w.heap.size + 1 + 1; omega)).trans ((one_other (w := w1) (u := .slice (some ⟨bb, oo, none⟩) t.length cc) (g := w.heap.size + 1 + 1 + 1) (a := ⟨w.heap.size + 1, 0, none⟩) (by show w.heap.size + 1 + 1 + 1 ≠ w.heap.size + 1; omega)).trans K3.out))
    have d1 := one_cell e1
    have d2 := one_cell e2
    have d3 := one_cell e3
    have hown := ((KO.out.other (.slice (some ⟨bb, oo, none⟩) t.length cc) (p := ⟨w.heap.size + 1, 0, none⟩) (by show w.heap.size + 1 < _; omega)).other (.int .i64 (t.length : Int)) (p := ⟨w.heap.size + 1 + 1, 0, none⟩) (by show w.heap.size + 1 + 1 < _; omega)).other (.bool true) (p := ⟨w.heap.size + 1 + 1 + 1, 0, none⟩) (by show w.heap.size + 1 + 1 + 1 < _; omega)
    have hby := hown.byt HNE.out
    exact bodyPost_ret (v := .tuple #[.slice (some ⟨bb, oo, none⟩) t.length cc, .int .i64 (t.length : Int), .bool true]) (by simp [results, Tryz.results28, go_sem, d1, d2, d3]) rfl
      ⟨_, rfl, hby, (((HB.out.setCell (p := ⟨w.heap.size + 1, 0, none⟩) (by simp) _).setCell (p := ⟨w.heap.size + 1 + 1, 0, none⟩) (by simp; omega) _).setCell (p := ⟨w.heap.size + 1 + 1 + 1, 0, none⟩) (by simp; omega) _).drew⟩
end Go.Proofs.YtiohlcfdoleooaaGreatDoor
