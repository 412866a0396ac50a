/-
  itoa in base 10.
-/
import Derived.Test.YthipbglnaalhmaaGreatDoorItoa2
import Derived.Test.YthipbglnaalhmaaGreatDoorBitLen
import Derived.Test.YthipbglnaalhmaaGreatDoorCopy
import Derived.Defers
namespace Go.Proofs.YthipbglnaalhmaaGreatDoor
open Go.RowKit

/-- The quotient that itoa reckons its room by. -/
def logQ (b : Nat) : Nat := (FloatKind.f64.format.div (floatOfInt FloatKind.f64 b) 4614662735865160561).getD 0
theorem logQ_some : ∀ b : Fin 321, FloatKind.f64.format.div (floatOfInt FloatKind.f64 b.val) 4614662735865160561 = some (logQ b.val) := by decide +kernel
theorem quo_law (x y r : Nat) (h : FloatKind.f64.format.div x y = some r) (w : World) : (binOp BinOp.quo 161 (.float .f64 x) (.float .f64 y)).run Tryz.prog w = .ok (.float .f64 r) w := by
  simp [binOp, Op.floatArith, h]

def logI (b : Nat) : Int := ((FloatKind.f64.decode (logQ b)).toInt .zero).getD 0
theorem logI_some : ∀ b : Fin 321, (FloatKind.f64.decode (logQ b.val)).toInt .zero = some (logI b.val) ∧ 0 ≤ logI b.val ∧ logI b.val ≤ 100 ∧ 2 ^ b.val ≤ 10 ^ ((logI b.val).toNat + 1) := by decide +kernel
theorem toInt_law (x : Nat) (n : Int) (h : (FloatKind.f64.decode x).toInt .zero = some n) (h0 : 0 ≤ n) (h1 : n ≤ 100) (w : World) : (convert 161 3 (.float .f64 x)).run Tryz.prog w = .ok (.int .i64 n) w := by
  have hm : IntKind.i64.min ≤ n ∧ n ≤ IntKind.i64.max := by
    have e1 : IntKind.i64.min = -9223372036854775808 := by decide
    have e2 : IntKind.i64.max = 9223372036854775807 := by decide
    omega
  simp [convert, run_underlying Tryz.underlying161, run_underlying Tryz.underlying3, Conv.floatToInt, h, hm]
  intro hx
  exact absurd hx (by omega)
/-- The room: enough for the digits. -/
theorem room_digits {N : Nat} (hl : natLen N ≤ 320) : N < 10 ^ ((logI (natLen N)).toNat + 1) := by
  have h := logI_some ⟨natLen N, by omega⟩
  exact Nat.lt_of_lt_of_le ((natLen_lt_iff N (natLen N)).1 (Nat.le_refl _)) h.2.2.2

/-- leafSize, as the program's text lays it. -/
def LeafIs (w : World) : Prop := w.cell? ⟨6, 0, none⟩ = some (.int .i64 8)
theorem LeafIs.lt {w : World} (h : LeafIs w) : 6 < w.heap.size := World.block_lt_of_cell? w _ h
theorem LeafIs.below {w w' : World} (h : LeafIs w) (hb : Below w.heap.size w w') : LeafIs w' := (hb.cell (by exact h.lt)).trans h
theorem LeafIs.belowB {B : Nat} {w w' : World} (h : LeafIs w) (hb : Below B w w') (hB : 6 < B) : LeafIs w' := (hb.cell (by exact hB)).trans h

set_option maxRecDepth 100000 in
theorem divisors_walk (stk : Value) (m : Nat) (w : World) (hm : m ≤ 8) (hl : LeafIs w) :
    Calls Tryz.prog 196 #[stk, .int .i64 m, .int .u64 10, .int .i64 19, .int .u64 10000000000000000000] w fun e w' => e = .returned (.slice none 0 0) ∧ w = w' := by
  have hc : w.cell? ⟨6, 0, none⟩ = some (.int .i64 8) := hl
  have hm' : (m : Int) ≤ 8 := by omega
  go_enter Tryz.func196, Tryz.ntmps196
  go_wp2_with fail
  go_ret
  exact ⟨rfl, rfl⟩

set_option maxRecDepth 100000 in
set_option maxHeartbeats 1000000 in
/-- nat(nil).set(x): a copy. -/
theorem setNew_walk (A : Option Addr) (c N : Nat) (w : World) (hc : (wds N).length ≤ c) (hm : c ≤ 9223372036854775807) (hl : (wds N).length ≤ 90000) (hr : Rd w A (nums .u64 (wds N))) :
    Calls Tryz.prog 147 #[.slice none 0 0, .slice A (wds N).length c] w (OwnPost w.heap.size w N) := by
  obtain ⟨xs, hxs⟩ : ∃ xs, wds N = xs := ⟨_, rfl⟩
  unfold OwnPost
  rw [hxs] at hc hl hr ⊢
  have hown : ∀ (w' : World) (zs : List Nat), Row w' w.heap.size .u64 150 (xs ++ zs) → (xs ++ zs).length ≤ 100000 → OwnNat w.heap.size w' (some ⟨w.heap.size, 0, none⟩) (xs ++ zs).length N := fun w' zs h h2 => .inr ⟨w.heap.size, xs ++ zs, rfl, rfl, h, ⟨zs, by rw [hxs]⟩, Nat.le_refl _, h2⟩
  have hz : xs = [] → N = 0 := fun h => (toD_nil_iff (by decide)).1 (hxs.trans h)
  have HO := Lib.hid hown
  have HZ := Lib.hid hz
  have HR := Lib.hid hr
  clear hown hz hxs hr
  by_cases h0 : xs.length = 0
  · obtain rfl : xs = [] := List.length_eq_zero_iff.1 h0
    have HM := Lib.hid (make_room_walk none 0 0 0 w (Nat.le_refl _) (by decide) (Nat.le_refl _))
    clear h0
    go_enter Tryz.func147, Tryz.ntmps147
    go_wp2_with fail
    refine HM.out.mono ?_
    rintro e w1 ⟨rfl, rfl⟩
    go_wp2_with (with_reducible refine wpList_copy_nothing rfl _ _ 87 87 rfl 150 Tryz.underlying87 infoWordSize _ _ _ _ _ _ rfl rfl (by simp) ?_)
    go_ret
    exact ⟨none, 0, rfl, .inl ⟨rfl, rfl, by first | exact HZ.out rfl | exact HZ.out trivial⟩, Below.refl _ _, Nat.le_refl _⟩
  · have HM := Lib.hid (make_new_walk none 0 0 xs.length w (by omega) (by omega) (Nat.le_refl _))
    have hroom : xs.length ≤ roomFor xs.length ∧ roomFor xs.length ≤ xs.length + 4 := by unfold roomFor; split <;> omega
    obtain ⟨R, hR⟩ : ∃ R, roomFor xs.length = R := ⟨_, rfl⟩
    rw [hR] at HM hroom
    clear hR
    go_enter Tryz.func147, Tryz.ntmps147
    go_wp2_with fail
    refine HM.out.mono ?_
    rintro e w1 ⟨rfl, rfl⟩
    have hrow := row_made w .u64 R 150
    have hrd := HR.out.below (below_a1 w (.cells (madeCells #[.int .u64 0] R) 150))
    obtain ⟨w1, hw1⟩ : ∃ w1, w.alloc (.cells (madeCells #[.int .u64 0] R) 150) = w1 := ⟨_, rfl⟩
    have hb1 : Below w.heap.size w w1 := by rw [← hw1]; exact below_a1 _ _
    have hs1 : w1.heap.size = w.heap.size + 1 := by rw [← hw1]; exact heap_size_alloc _ _
    rw [hw1] at hrow hrd ⊢
    have HROW := Lib.hid hrow
    have HRD := Lib.hid hrd
    have HB1 := Lib.hid hb1
    have HS1 := Lib.hid hs1
    clear hrow hrd hb1 hs1 hw1
    go_wp2_with (with_reducible refine wpList_copy_words rfl _ _ 87 87 rfl 150 Tryz.underlying87 infoWordSize _ _ _ _ _ _ rfl rfl w.heap.size 0 (List.replicate R 0) .u64 150 HROW.out xs (by simp [Nat.min_def]) (fun h => ⟨rfl, HRD.out⟩) (by rw [List.length_replicate]; omega) ?_)
    intro w2 HG2 hx2 hs2
    go_wp2_with fail
    go_ret
    have hov : over (List.replicate R 0) 0 xs = xs ++ (List.replicate R 0).drop xs.length := by simp [over]
    have hle : (xs ++ (List.replicate R 0).drop xs.length).length = R := by simp; omega
    have hrow2 := HG2.out
    rw [hov] at hrow2
    have ho := HO.out w2 _ hrow2 (by rw [hle]; omega)
    rw [hle] at ho
    exact ⟨_, _, rfl, ho, HB1.out.trans (hx2.below (by have := HS1.out; omega) (fun k hk => by omega)), by have := HS1.out; omega⟩

theorem getStack_here (w : World) (T : TypeId) : (w.alloc (.cells #[.pointer none] T)).heap[w.heap.size]? = some (.cells #[.pointer none] T (0, 0)) := heap_here w _
set_option maxRecDepth 100000 in
theorem stackFree_deferred (g : Nat) (u : FrameMode) (w : World) (hc : w.cell? ⟨g, 0, none⟩ = some (.pointer none)) :
    CallsD Tryz.prog 194 #[.pointer (some ⟨g, 0, none⟩)] u w fun e u' w' => u' = u ∧ (e = .returned (.tuple #[]) ∧ w' = w) := by
  go_enter_d Tryz.func194, Tryz.ntmps194
  go_wp2
  first | go_end0 | refine bodyPost_ret (results_none rfl _ _ _) rfl ?_
  first | exact rfl | exact ⟨rfl, rfl⟩ | exact ⟨rfl, rfl, rfl⟩
end Go.Proofs.YthipbglnaalhmaaGreatDoor
