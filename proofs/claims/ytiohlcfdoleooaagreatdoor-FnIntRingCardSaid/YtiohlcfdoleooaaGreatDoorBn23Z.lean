/-
  itoa in base 10.
  itoa in base 10, for a number that is not 0.
-/
import Derived.Test.YtiohlcfdoleooaaGreatDoorBn12Z
import Derived.Test.YtiohlcfdoleooaaGreatDoorBn15Z
import Derived.Test.YtiohlcfdoleooaaGreatDoorCopyZ
import Derived.Defers
import Derived.Test.YtiohlcfdoleooaaGreatDoorBn06Z
namespace Go.Proofs.YtiohlcfdoleooaaGreatDoor
open Go.RowKit

/-- The quotient that itoa reckons its room by. -/
def logQ (b : Nat) : Nat := (FloatKind.f64.format.div (floatOfInt FloatKind.f64 b) 4614662735865160561).getD 0
theorem logQ_some : ∀ b : Fin 321, FloatKind.f64.format.div (floatOfInt FloatKind.f64 b.val) 4614662735865160561 = some (logQ b.val) := by decide +kernel
theorem quo_law (x y r : Nat) (h : FloatKind.f64.format.div x y = some r) (w : World) : (binOp BinOp.quo 189 (.float .f64 x) (.float .f64 y)).run Tryz.prog w = .ok (.float .f64 r) w := by
  simp [binOp, Op.floatArith, h]

def logI (b : Nat) : Int := ((FloatKind.f64.decode (logQ b)).toInt .zero).getD 0
theorem logI_some : ∀ b : Fin 321, (FloatKind.f64.decode (logQ b.val)).toInt .zero = some (logI b.val) ∧ 0 ≤ logI b.val ∧ logI b.val ≤ 100 ∧ 2 ^ b.val ≤ 10 ^ ((logI b.val).toNat + 1) := by decide +kernel
theorem toInt_law (x : Nat) (n : Int) (h : (FloatKind.f64.decode x).toInt .zero = some n) (h0 : 0 ≤ n) (h1 : n ≤ 100) (w : World) : (convert 189 3 (.float .f64 x)).run Tryz.prog w = .ok (.int .i64 n) w := by
  have hm : IntKind.i64.min ≤ n ∧ n ≤ IntKind.i64.max := by
    have e1 : IntKind.i64.min = -9223372036854775808 := by decide
    have e2 : IntKind.i64.max = 9223372036854775807 := by decide
    omega
  simp [convert, run_underlying Tryz.underlying189, run_underlying Tryz.underlying3, Conv.floatToInt, h, hm]
  intro hx
  exact absurd hx (by omega)
/-- The room: enough for the digits. -/
theorem room_digits {N : Nat} (hl : natLen N ≤ 320) : N < 10 ^ ((logI (natLen N)).toNat + 1) := by
  have h := logI_some ⟨natLen N, by omega⟩
  exact Nat.lt_of_lt_of_le ((natLen_lt_iff N (natLen N)).1 (Nat.le_refl _)) h.2.2.2

/-- leafSize, as the program's text lays it. -/
def LeafIs (w : World) : Prop := w.cell? ⟨9, 0, none⟩ = some (.int .i64 8)
theorem LeafIs.lt {w : World} (h : LeafIs w) : 9 < w.heap.size := World.block_lt_of_cell? w _ h
theorem LeafIs.below {w w' : World} (h : LeafIs w) (hb : Below w.heap.size w w') : LeafIs w' := (hb.cell (by exact h.lt)).trans h
theorem LeafIs.belowB {B : Nat} {w w' : World} (h : LeafIs w) (hb : Below B w w') (hB : 9 < B) : LeafIs w' := (hb.cell (by exact hB)).trans h

set_option maxRecDepth 100000 in
theorem divisors_walk (stk : Value) (m : Nat) (w : World) (hm : m ≤ 8) (hl : LeafIs w) :
    Calls Tryz.prog 227 #[stk, .int .i64 m, .int .u64 10, .int .i64 19, .int .u64 10000000000000000000] w fun e w' => e = .returned (.slice none 0 0) ∧ w = w' := by
  have hc : w.cell? ⟨9, 0, none⟩ = some (.int .i64 8) := hl
  have hm' : (m : Int) ≤ 8 := by omega
  go_enter Tryz.func227, Tryz.ntmps227
  go_wp2_with fail
  go_ret
  exact ⟨rfl, rfl⟩

set_option maxRecDepth 100000 in
set_option maxHeartbeats 1000000 in
/-- nat(nil).set(x): a copy. -/
theorem setNew_walk (A : Option Addr) (c N : Nat) (w : World) (hc : (wds N).length ≤ c) (_hm : c ≤ 9223372036854775807) (hl : (wds N).length ≤ 90000) (hr : Rd w A (nums .u64 (wds N))) :
    Calls Tryz.prog 172 #[.slice none 0 0, .slice A (wds N).length c] w (OwnPost w.heap.size w N) := by
  obtain ⟨xs, hxs⟩ : ∃ xs, wds N = xs := ⟨_, rfl⟩
  unfold OwnPost
  rw [hxs] at hc hl hr ⊢
  have hown : ∀ (w' : World) (zs : List Nat), Row w' w.heap.size .u64 150 (xs ++ zs) → (xs ++ zs).length ≤ 100000 → OwnNat w.heap.size w' (some ⟨w.heap.size, 0, none⟩) (xs ++ zs).length N := fun w' zs h h2 => .inr ⟨w.heap.size, xs ++ zs, rfl, rfl, h, ⟨zs, by rw [hxs]⟩, Nat.le_refl _, h2⟩
  have hz : xs = [] → N = 0 := fun h => (toD_nil_iff (by decide)).1 (hxs.trans h)
  have HO := Lib.hid hown
  have HZ := Lib.hid hz
  have HR := Lib.hid hr
  clear hown hz hxs hr
  by_cases h0 : xs.length = 0
  · obtain rfl : xs = [] := List.length_eq_zero_iff.1 h0
    have HM := Lib.hid (make_room_walk none 0 0 0 w (Nat.le_refl _) (by decide) (Nat.le_refl _))
    clear h0
    go_enter Tryz.func172, Tryz.ntmps172
    go_wp2_with fail
    refine HM.out.mono ?_
    rintro e w1 ⟨rfl, rfl⟩
    go_wp2_with (with_reducible refine wpList_copy_nothing rfl _ _ 99 99 rfl 150 Tryz.underlying99 infoWordSize _ _ _ _ _ _ rfl rfl (by simp) ?_)
    go_ret
    exact ⟨none, 0, rfl, .inl ⟨rfl, rfl, by first | exact HZ.out rfl | exact HZ.out trivial⟩, Below.refl _ _, Nat.le_refl _⟩
  · have HM := Lib.hid (make_new_walk none 0 0 xs.length w (by omega) (by omega) (Nat.le_refl _))
    have hroom : xs.length ≤ roomFor xs.length ∧ roomFor xs.length ≤ xs.length + 4 := by unfold roomFor; split <;> omega
    obtain ⟨R, hR⟩ : ∃ R, roomFor xs.length = R := ⟨_, rfl⟩
    rw [hR] at HM hroom
    clear hR
    go_enter Tryz.func172, Tryz.ntmps172
    go_wp2_with fail
    refine HM.out.mono ?_
    rintro e w1 ⟨rfl, rfl⟩
    have hrow := row_made w .u64 R 150
    have hrd := HR.out.below (below_a1 w (.cells (madeCells #[.int .u64 0] R) 150))
    obtain ⟨w1, hw1⟩ : ∃ w1, w.alloc (.cells (madeCells #[.int .u64 0] R) 150) = w1 := ⟨_, rfl⟩
    have hb1 : Below w.heap.size w w1 := by rw [← hw1]; exact below_a1 _ _
    have hs1 : w1.heap.size = w.heap.size + 1 := by rw [← hw1]; exact heap_size_alloc _ _
    rw [hw1] at hrow hrd ⊢
    have HROW := Lib.hid hrow
    have HRD := Lib.hid hrd
    have HB1 := Lib.hid hb1
    have HS1 := Lib.hid hs1
    clear hrow hrd hb1 hs1 hw1
    go_wp2_with (with_reducible refine wpList_copy_words rfl _ _ 99 99 rfl 150 Tryz.underlying99 infoWordSize _ _ _ _ _ _ rfl rfl w.heap.size 0 (List.replicate R 0) .u64 150 HROW.out xs (by simp [Nat.min_def]) (fun h => ⟨rfl, HRD.out⟩) (by rw [List.length_replicate]; omega) ?_)
    intro w2 HG2 hx2 hs2
    go_wp2_with fail
    go_ret
    have hov : over (List.replicate R 0) 0 xs = xs ++ (List.replicate R 0).drop xs.length := by simp [over]
    have hle : (xs ++ (List.replicate R 0).drop xs.length).length = R := by simp; omega
    have hrow2 := HG2.out
    rw [hov] at hrow2
    have ho := HO.out w2 _ hrow2 (by rw [hle]; omega)
    rw [hle] at ho
    exact ⟨_, _, rfl, ho, HB1.out.trans (hx2.below (by have := HS1.out; omega) (fun k hk => by omega)), by have := HS1.out; omega⟩

theorem getStack_here (w : World) (T : TypeId) : (w.alloc (.cells #[.pointer none] T)).heap[w.heap.size]? = some (.cells #[.pointer none] T (0, 0)) := heap_here w _
set_option maxRecDepth 100000 in
theorem stackFree_deferred (g : Nat) (u : FrameMode) (w : World) (hc : w.cell? ⟨g, 0, none⟩ = some (.pointer none)) :
    CallsD Tryz.prog 225 #[.pointer (some ⟨g, 0, none⟩)] u w fun e u' w' => u' = u ∧ (e = .returned (.tuple #[]) ∧ w' = w) := by
  go_enter_d Tryz.func225, Tryz.ntmps225
  go_wp2
  first | go_end0 | refine bodyPost_ret (results_none rfl _ _ _) rfl ?_
  first | exact rfl | exact ⟨rfl, rfl⟩ | exact ⟨rfl, rfl, rfl⟩
end Go.Proofs.YtiohlcfdoleooaaGreatDoor

namespace Go.Proofs.YtiohlcfdoleooaaGreatDoor
open Go.RowKit

theorem trimN_zeros (ds : List Nat) : ∃ k, ds = trimN ds ++ List.replicate k 0 := by
  have key : ∀ (n : Nat) (ds : List Nat), ds.length = n → ∃ k, ds = trimN ds ++ List.replicate k 0 := by
    intro n
    induction n with
    | zero => intro ds hn; exact ⟨0, by rw [List.length_eq_zero_iff.1 hn]; rfl⟩
    | succ n ih =>
      intro ds hn
      obtain ⟨q, x, rfl⟩ : ∃ q x, ds = q ++ [x] := by
        have hne : ds ≠ [] := by intro e; subst e; simp at hn
        rw [← List.dropLast_concat_getLast hne]
        exact ⟨_, _, rfl⟩
      rw [trimN_snoc]
      by_cases hx : x = 0
      · obtain ⟨k, hk⟩ := ih q (by simpa using hn)
        rw [if_pos hx]
        refine ⟨k + 1, ?_⟩
        rw [List.replicate_succ', ← List.append_assoc, ← hk, hx]
      · rw [if_neg hx]; exact ⟨0, by simp⟩
  exact key _ ds rfl
theorem chr_append (a b : List Nat) : chr (a ++ b) = chr b ++ chr a := by simp [chr]
theorem conv_text {ds : List Nat} {N R : Nat} (hd : ∀ d ∈ ds, d < 10) (hl : ds.length = R) (hv : N = valD 10 ds) : ∃ z, chr ds = List.replicate z 48 ++ chr (toD 10 N) ∧ z + (toD 10 N).length = R := by
  obtain ⟨k, hk⟩ := trimN_zeros ds
  have ht := trimN_toD (b := 10) (by decide) hd
  rw [ht, ← hv] at hk
  have h1 := congrArg List.length hk
  rw [List.length_append, List.length_replicate] at h1
  refine ⟨k, ?_, by omega⟩
  rw [hk, chr_append]
  congr 1
  simp [chr]
theorem chr_head {N : Nat} (h : N ≠ 0) : ∃ d t, chr (toD 10 N) = (48 + d) :: t ∧ d ≠ 0 ∧ d < 10 := by
  have hne : toD 10 N ≠ [] := fun e => h ((toD_nil_iff (by decide)).1 e)
  have hl := toD_last (b := 10) (by decide) N hne
  have hm := toD_lt (b := 10) (by decide) N _ (List.getLast_mem hne)
  refine ⟨_, chr (toD 10 N).dropLast, ?_, hl, hm⟩
  conv => lhs; rw [← List.dropLast_concat_getLast hne, chr_snoc]
theorem text_cells {neg : Bool} {ds : List Nat} (hne : ds ≠ []) (hd : ∀ d ∈ ds, d < 10) : Lib.byteCells (numText neg ds) = nums .u8 ((if neg = true then [45] else []) ++ chr ds) := by
  unfold numText
  rw [if_neg hne, Lib.byteCells_append]
  have e1 : Lib.byteCells (signText neg) = nums .u8 (if neg = true then [45] else []) := by cases neg <;> rfl
  have e2 : Lib.byteCells (ds.reverse.map fun d => UInt8.ofNat (48 + d)) = nums .u8 (chr ds) := by
    unfold Lib.byteCells nums chr
    rw [List.map_map, List.map_map]
    apply List.map_congr_left
    intro d hdm
    have := hd d (by simpa using hdm)
    simp
    omega
  rw [e1, e2]
  simp [nums]
theorem text_length {neg : Bool} {ds : List Nat} (hne : ds ≠ []) : (numText neg ds).length = (if neg = true then 1 else 0) + ds.length := by
  unfold numText
  rw [if_neg hne]
  cases neg <;> simp [signText] <;> omega

set_option maxRecDepth 100000 in
theorem getStack_walk (w : World) : Calls Tryz.prog 224 #[] w fun e w' => e = .returned (.pointer (some ⟨w.heap.size, 0, none⟩)) ∧ w' = w.alloc (.cells #[.pointer none] 226) := by
  go_enter Tryz.func224, Tryz.ntmps224
  go_wp2_with fail
  go_ret
  exact ⟨rfl, rfl⟩

def SkipRel (z : Nat) (iv : Value) : Prop := ∃ k : Nat, iv = .int .i64 k ∧ k ≤ z
/-- What itoa hands back: the text in new memory. -/
def ItoaPost (w : World) (l : List UInt8) (e : Ending) (w' : World) : Prop :=
  ∃ g o c, e = .returned (.slice (some ⟨g, o, none⟩) l.length c) ∧ l.length ≤ c ∧ c ≤ 1000 ∧ Rd w' (some ⟨g, o, none⟩) (Lib.byteCells l) ∧ Below w.heap.size w w'

set_option exponentiation.threshold 400 in
set_option maxRecDepth 100000 in
set_option maxHeartbeats 4000000 in
theorem itoaPos_walk (N : Nat) (A : Option Addr) (c : Nat) (w : World) (hc : (wds N).length ≤ c) (hm : c ≤ 9223372036854775807) (hl : natLen N ≤ 320) (hN : N ≠ 0) (hr : Rd w A (nums .u64 (wds N))) (hleaf : LeafIs w) :
    Calls Tryz.prog 205 #[.slice A (wds N).length c, .bool false, .int .i64 10] w (ItoaPost w (numText false (toD 10 N))) := by
  have hw5 : (wds N).length ≤ 5 := toD_length_le (by decide) 5 N (Nat.lt_of_lt_of_le ((natLen_lt_iff N 320).1 hl) (by decide))
  have hw0 : (wds N).length ≠ 0 := fun e => hN ((toD_nil_iff (by decide)).1 (List.length_eq_zero_iff.1 e))
  have hroom := room_digits hl
  have hli := logI_some ⟨natLen N, by omega⟩
  have ht := toInt_law _ _ hli.1 hli.2.1 hli.2.2.1
  have hqe : FloatKind.f64.format.div (floatOfInt FloatKind.f64 (natLen N)) 4614662735865160561 = some (logQ (natLen N)) := logQ_some ⟨natLen N, by omega⟩
  have hq := quo_law _ _ _ hqe
  obtain ⟨r, hrr⟩ : ∃ r : Nat, logI (natLen N) = r := ⟨(logI (natLen N)).toNat, by have := hli.2.1; simp only at this; omega⟩
  have hr100 : r ≤ 100 := by have := hli.2.2.1; simp only at this; omega
  simp only at ht
  rw [hrr] at ht hroom
  rw [Int.toNat_natCast] at hroom
  have hmk := run_make_row' (P := Tryz.prog) 22 5 (.int .u8 0) 1 Tryz.underlying22 infoByte rfl .i64 .i64 (r + 1) (by omega) (by omega)
  have ecast : ((r + 1 : Nat) : Int) = (r : Int) + 1 := by omega
  rw [ecast] at hmk
  have h4 : floatOfInt FloatKind.f64 10 = 4621819117588971520 := by kernel_rfl
  have b1 : bits BinOp.and IntKind.u64 10 (IntKind.u64.wrap (-10)) = 2 := by decide
  have HB := Lib.hid (natBitLen_walk N A c w hc hm (by omega) hr)
  have hset : ∀ w1, Below w.heap.size w w1 → Calls Tryz.prog 172 #[.slice none 0 0, .slice A (wds N).length c] w1 (OwnPost w1.heap.size w1 N) := fun w1 hb => setNew_walk A c N w1 hc hm (by omega) (hr.below hb)
  have HSET := Lib.hid hset
  have hdig := toD_lt (b := 10) (by decide) N
  have hdne : toD 10 N ≠ [] := fun e => hN ((toD_nil_iff (by decide)).1 e)
  have hdl : (toD 10 N).length ≤ r + 1 := toD_length_le (by decide) (r + 1) N hroom
  have HCH := Lib.hid (chr_head hN)
  have HTC := Lib.hid (text_cells (neg := false) hdne hdig)
  have HTL := Lib.hid (text_length (neg := false) hdne)
  have HRM : Hid (N < 10 ^ (r + 1)) := Lib.hid (Nat.lt_of_lt_of_le hroom (Nat.pow_le_pow_right (by decide) (by omega)))
  have HW0 := Lib.hid hw0
  have HN0 := Lib.hid hN
  have hlb : (((wds N).length : Int) == 0) = false := beq_eq_false_iff_ne.2 (by omega)
  clear hr hli hqe hrr hroom hset hdig hdne hw0 hN ecast
  go_enter_defers Tryz.func205, Tryz.ntmps205
  go_wp2_with fail
  refine HB.out.mono ?_
  rintro e w1 ⟨rfl, rfl⟩
  go_wp2_with fail
  refine (log2_10_walk w).mono ?_
  rintro e w1 ⟨rfl, rfl⟩
  go_wp2_with fail
  refine (getStack_walk _).mono ?_
  rintro e w1 ⟨rfl, rfl⟩
  have hs1 := heap_size_alloc w (.cells (madeCells #[.int .u8 0] (r + 1)) 5)
  rw [hs1]
  have hrowA : Row ((w.alloc (.cells (madeCells #[.int .u8 0] (r + 1)) 5)).alloc (.cells #[.pointer none] 226)) w.heap.size .u8 5 (List.replicate (r + 1) 0) := (row_made w .u8 (r + 1) 5).alloc _
  have hstkA : ((w.alloc (.cells (madeCells #[.int .u8 0] (r + 1)) 5)).alloc (.cells #[.pointer none] 226)).heap[w.heap.size + 1]? = some (.cells #[.pointer none] 226 (0, 0)) := (by have := heap_here (w.alloc (.cells (madeCells #[.int .u8 0] (r + 1)) 5)) (.cells #[.pointer none] 226); rw [hs1] at this; exact this)
  have hbA := below_a2 w (.cells (madeCells #[.int .u8 0] (r + 1)) 5) (.cells #[.pointer none] 226)
  have hsA : ((w.alloc (.cells (madeCells #[.int .u8 0] (r + 1)) 5)).alloc (.cells #[.pointer none] 226)).heap.size = w.heap.size + 1 + 1 := by rw [heap_size_alloc, heap_size_alloc]
  obtain ⟨wa, hwa⟩ : ∃ wa, (w.alloc (.cells (madeCells #[.int .u8 0] (r + 1)) 5)).alloc (.cells #[.pointer none] 226) = wa := ⟨_, rfl⟩
  rw [hwa] at hrowA hstkA hbA hsA ⊢
  have HRA := Lib.hid hrowA
  have HSA := Lib.hid hstkA
  have HBA := Lib.hid hbA
  have HZA := Lib.hid hsA
  have hlf := hleaf.below hbA
  clear hwa hs1 hrowA hstkA hbA hsA
  go_wp2_with fail
  refine (maxPow_walk 10 19 wa (by decide) (by decide) (by decide) (by decide) (by decide) (by decide)).mono ?_
  rintro e w2 ⟨rfl, rfl⟩
  go_wp2_with fail
  refine (divisors_walk _ (wds N).length wa (by omega) hlf).mono ?_
  rintro e w2 ⟨rfl, rfl⟩
  go_wp2_with fail
  refine (HSET.out wa HBA.out).mono ?_
  rintro e w2 ⟨A2, c2, rfl, hown, hb2, hs2⟩
  have HOW := Lib.hid hown
  have HB2 := Lib.hid hb2
  clear hown hb2
  go_wp2_with fail
  refine (conv_walk wa.heap.size w.heap.size (r + 1) A2 c2 _ N _ w2 HOW.out hs2 ((HRA.out.block HB2.out (by have := HZA.out; omega))) (by have := HZA.out; omega) (by omega) HRM.out).mono ?_
  rintro e w3 ⟨rfl, ds, hmem, hval⟩
  obtain ⟨hrow3, hlen3, hd3, hb3, hk3, hs3⟩ := hmem
  rw [List.replicate_zero, List.nil_append] at hrow3
  obtain ⟨z, hz1, hz2⟩ := conv_text hd3 (by omega) hval
  have hstk3 : w3.heap[w.heap.size + 1]? = some (.cells #[.pointer none] 226 (0, 0)) := (hk3 _ (by have := HZA.out; omega) (by omega)).trans ((HB2.out.block _ (by have := HZA.out; omega)).trans HSA.out)
  have hbw3 : Below w.heap.size w w3 := (HBA.out.trans (HB2.out.mono (by have := HZA.out; omega))).trans hb3
  rw [hz1] at hrow3
  obtain ⟨d, t, hdt, hd0, hd10⟩ := HCH.out
  have hct : t.length + 1 = (toD 10 N).length := by have := congrArg List.length hdt; rw [chr_length] at this; simpa using this.symm
  rw [hdt] at hrow3
  have HR3 := Lib.hid hrow3
  have HS3 := Lib.hid hstk3
  have HBW := Lib.hid hbw3
  have HDT := Lib.hid hdt
  clear hrow3 hstk3 hbw3 hdt hz1 hval hk3 hb3 hlen3 hd3
  go_wp2_with fail
  go_loop [7] (fun iv => SkipRel z iv) (fun iv => z - natOf iv)
  case atStart => exact ⟨0, rfl, Nat.zero_le _⟩
  case round =>
    obtain ⟨k, rfl, hk⟩ := hrel
    have hkR : (k : Int) < (r : Int) + 1 := by omega
    have hk0 : (0 : Int) ≤ (k : Int) := by omega
    by_cases hkz : k < z
    · have hcell : w3.cell? ⟨w.heap.size, k, none⟩ = some (.int .u8 48) := by
        have := HR3.out.cell (j := k) (by simp; omega)
        rw [List.getElem_append_left (by simpa using hkz)] at this
        simpa using this
      go_wp2_with fail
      exact ⟨⟨k + 1, by go_num, by omega⟩, by simp [natOf]; omega⟩
    · obtain rfl : k = z := by omega
      have hcell : w3.cell? ⟨w.heap.size, k, none⟩ = some (.int .u8 ((48 : Int) + d)) := by
        have := HR3.out.cell (j := k) (by simp)
        rw [List.getElem_append_right (by simp)] at this
        simpa using this
      have hdb : (((48 : Int) + d) == 48) = false := beq_eq_false_iff_ne.2 (by omega)
      have hrd := HR3.out.rd k
      rw [List.drop_left' (by simp)] at hrd
      have HRD := Lib.hid hrd
      clear hrd hkz
      go_wp2_with fail
      refine leaves_cons (f := 225) (args := #[.pointer (some ⟨w.heap.size + 1, 0, none⟩)]) (by simp) (by simp [go_sem]) ?_
      refine (stackFree_deferred _ .returning _ (one_cell HS3.out)).mono ?_
      rintro e u' w'' ⟨rfl, rfl, rfl⟩
      have e0 : (numText false (toD 10 N)).length = r + 1 - k := by rw [HTL.out]; simp; omega
      refine ⟨_, results_tmp rfl _ _ _, w.heap.size, k, r + 1 - k, ?_, ?_, by omega, ?_, HBW.out⟩
      · rw [e0]; rfl
      · rw [e0]; exact Nat.le_refl _
      · rw [HTC.out]
        simp only [Bool.false_eq_true, ↓reduceIte, List.nil_append]
        rw [HDT.out]
        exact HRD.out

set_option exponentiation.threshold 400 in
set_option maxRecDepth 100000 in
set_option maxHeartbeats 4000000 in
theorem itoaNeg_walk (N : Nat) (A : Option Addr) (c : Nat) (w : World) (hc : (wds N).length ≤ c) (hm : c ≤ 9223372036854775807) (hl : natLen N ≤ 320) (hN : N ≠ 0) (hr : Rd w A (nums .u64 (wds N))) (hleaf : LeafIs w) :
    Calls Tryz.prog 205 #[.slice A (wds N).length c, .bool true, .int .i64 10] w (ItoaPost w (numText true (toD 10 N))) := by
  have hw5 : (wds N).length ≤ 5 := toD_length_le (by decide) 5 N (Nat.lt_of_lt_of_le ((natLen_lt_iff N 320).1 hl) (by decide))
  have hw0 : (wds N).length ≠ 0 := fun e => hN ((toD_nil_iff (by decide)).1 (List.length_eq_zero_iff.1 e))
  have hroom := room_digits hl
  have hli := logI_some ⟨natLen N, by omega⟩
  have ht := toInt_law _ _ hli.1 hli.2.1 hli.2.2.1
  have hqe : FloatKind.f64.format.div (floatOfInt FloatKind.f64 (natLen N)) 4614662735865160561 = some (logQ (natLen N)) := logQ_some ⟨natLen N, by omega⟩
  have hq := quo_law _ _ _ hqe
  obtain ⟨r, hrr⟩ : ∃ r : Nat, logI (natLen N) = r := ⟨(logI (natLen N)).toNat, by have := hli.2.1; simp only at this; omega⟩
  have hr100 : r ≤ 100 := by have := hli.2.2.1; simp only at this; omega
  simp only at ht
  rw [hrr] at ht hroom
  rw [Int.toNat_natCast] at hroom
  have hmk := run_make_row' (P := Tryz.prog) 22 5 (.int .u8 0) 1 Tryz.underlying22 infoByte rfl .i64 .i64 (r + 2) (by omega) (by omega)
  have ecast : ((r + 2 : Nat) : Int) = (r : Int) + 1 + 1 := by omega
  rw [ecast] at hmk
  have h4 : floatOfInt FloatKind.f64 10 = 4621819117588971520 := by kernel_rfl
  have b1 : bits BinOp.and IntKind.u64 10 (IntKind.u64.wrap (-10)) = 2 := by decide
  have HB := Lib.hid (natBitLen_walk N A c w hc hm (by omega) hr)
  have hset : ∀ w1, Below w.heap.size w w1 → Calls Tryz.prog 172 #[.slice none 0 0, .slice A (wds N).length c] w1 (OwnPost w1.heap.size w1 N) := fun w1 hb => setNew_walk A c N w1 hc hm (by omega) (hr.below hb)
  have HSET := Lib.hid hset
  have hdig := toD_lt (b := 10) (by decide) N
  have hdne : toD 10 N ≠ [] := fun e => hN ((toD_nil_iff (by decide)).1 e)
  have hdl : (toD 10 N).length ≤ r + 1 := toD_length_le (by decide) (r + 1) N hroom
  have HCH := Lib.hid (chr_head hN)
  have HTC := Lib.hid (text_cells (neg := true) hdne hdig)
  have HTL := Lib.hid (text_length (neg := true) hdne)
  have HRM : Hid (N < 10 ^ (r + 2)) := Lib.hid (Nat.lt_of_lt_of_le hroom (Nat.pow_le_pow_right (by decide) (by omega)))
  have HW0 := Lib.hid hw0
  have HN0 := Lib.hid hN
  have hlb : (((wds N).length : Int) == 0) = false := beq_eq_false_iff_ne.2 (by omega)
  clear hr hli hqe hrr hroom hset hdig hdne hw0 hN ecast
  go_enter_defers Tryz.func205, Tryz.ntmps205
  go_wp2_with fail
  refine HB.out.mono ?_
  rintro e w1 ⟨rfl, rfl⟩
  go_wp2_with fail
  refine (log2_10_walk w).mono ?_
  rintro e w1 ⟨rfl, rfl⟩
  go_wp2_with fail
  refine (getStack_walk _).mono ?_
  rintro e w1 ⟨rfl, rfl⟩
  have hs1 := heap_size_alloc w (.cells (madeCells #[.int .u8 0] (r + 2)) 5)
  rw [hs1]
  have hrowA : Row ((w.alloc (.cells (madeCells #[.int .u8 0] (r + 2)) 5)).alloc (.cells #[.pointer none] 226)) w.heap.size .u8 5 (List.replicate (r + 2) 0) := (row_made w .u8 (r + 2) 5).alloc _
  have hstkA : ((w.alloc (.cells (madeCells #[.int .u8 0] (r + 2)) 5)).alloc (.cells #[.pointer none] 226)).heap[w.heap.size + 1]? = some (.cells #[.pointer none] 226 (0, 0)) := (by have := heap_here (w.alloc (.cells (madeCells #[.int .u8 0] (r + 2)) 5)) (.cells #[.pointer none] 226); rw [hs1] at this; exact this)
  have hbA := below_a2 w (.cells (madeCells #[.int .u8 0] (r + 2)) 5) (.cells #[.pointer none] 226)
  have hsA : ((w.alloc (.cells (madeCells #[.int .u8 0] (r + 2)) 5)).alloc (.cells #[.pointer none] 226)).heap.size = w.heap.size + 1 + 1 := by rw [heap_size_alloc, heap_size_alloc]
  obtain ⟨wa, hwa⟩ : ∃ wa, (w.alloc (.cells (madeCells #[.int .u8 0] (r + 2)) 5)).alloc (.cells #[.pointer none] 226) = wa := ⟨_, rfl⟩
  rw [hwa] at hrowA hstkA hbA hsA ⊢
  have HRA := Lib.hid hrowA
  have HSA := Lib.hid hstkA
  have HBA := Lib.hid hbA
  have HZA := Lib.hid hsA
  have hlf := hleaf.below hbA
  clear hwa hs1 hrowA hstkA hbA hsA
  go_wp2_with fail
  refine (maxPow_walk 10 19 wa (by decide) (by decide) (by decide) (by decide) (by decide) (by decide)).mono ?_
  rintro e w2 ⟨rfl, rfl⟩
  go_wp2_with fail
  refine (divisors_walk _ (wds N).length wa (by omega) hlf).mono ?_
  rintro e w2 ⟨rfl, rfl⟩
  go_wp2_with fail
  refine (HSET.out wa HBA.out).mono ?_
  rintro e w2 ⟨A2, c2, rfl, hown, hb2, hs2⟩
  have HOW := Lib.hid hown
  have HB2 := Lib.hid hb2
  clear hown hb2
  go_wp2_with fail
  refine (conv_walk wa.heap.size w.heap.size (r + 2) A2 c2 _ N _ w2 HOW.out hs2 ((HRA.out.block HB2.out (by have := HZA.out; omega))) (by have := HZA.out; omega) (by omega) HRM.out).mono ?_
  rintro e w3 ⟨rfl, ds, hmem, hval⟩
  obtain ⟨hrow3, hlen3, hd3, hb3, hk3, hs3⟩ := hmem
  rw [List.replicate_zero, List.nil_append] at hrow3
  obtain ⟨z, hz1, hz2⟩ := conv_text hd3 (by omega) hval
  have hstk3 : w3.heap[w.heap.size + 1]? = some (.cells #[.pointer none] 226 (0, 0)) := (hk3 _ (by have := HZA.out; omega) (by omega)).trans ((HB2.out.block _ (by have := HZA.out; omega)).trans HSA.out)
  have hbw3 : Below w.heap.size w w3 := (HBA.out.trans (HB2.out.mono (by have := HZA.out; omega))).trans hb3
  rw [hz1] at hrow3
  obtain ⟨d, t, hdt, hd0, hd10⟩ := HCH.out
  have hct : t.length + 1 = (toD 10 N).length := by have := congrArg List.length hdt; rw [chr_length] at this; simpa using this.symm
  rw [hdt] at hrow3
  have HR3 := Lib.hid hrow3
  have HS3 := Lib.hid hstk3
  have HBW := Lib.hid hbw3
  have HDT := Lib.hid hdt
  clear hrow3 hstk3 hbw3 hdt hz1 hval hk3 hb3 hlen3 hd3
  go_wp2_with fail
  go_loop [7] (fun iv => SkipRel z iv) (fun iv => z - natOf iv)
  case atStart => exact ⟨0, rfl, Nat.zero_le _⟩
  case round =>
    obtain ⟨k, rfl, hk⟩ := hrel
    have hkR : (k : Int) < (r : Int) + 1 + 1 := by omega
    have hk0 : (0 : Int) ≤ (k : Int) := by omega
    by_cases hkz : k < z
    · have hcell : w3.cell? ⟨w.heap.size, k, none⟩ = some (.int .u8 48) := by
        have := HR3.out.cell (j := k) (by simp; omega)
        rw [List.getElem_append_left (by simpa using hkz)] at this
        simpa using this
      go_wp2_with fail
      exact ⟨⟨k + 1, by go_num, by omega⟩, by simp [natOf]; omega⟩
    · obtain rfl : k = z := by omega
      have hcell : w3.cell? ⟨w.heap.size, k, none⟩ = some (.int .u8 ((48 : Int) + d)) := by
        have := HR3.out.cell (j := k) (by simp)
        rw [List.getElem_append_right (by simp)] at this
        simpa using this
      have hdb : (((48 : Int) + d) == 48) = false := beq_eq_false_iff_ne.2 (by omega)
      have hz0 : 1 ≤ k := by omega
      obtain ⟨k, rfl⟩ : ∃ k', k = k' + 1 := ⟨k - 1, by omega⟩
      have hcell2 : ∃ old : Nat, w3.cell? ⟨w.heap.size, k, none⟩ = some (.int .u8 old) := ⟨_, HR3.out.cell (j := k) (by simp; omega)⟩
      obtain ⟨old, hcell2⟩ := hcell2
      have hf := HR3.out.free k
      have hk1 : (0 : Int) ≤ (k : Int) := by omega
      have hkR2 : (k : Int) < (r : Int) + 1 + 1 := by omega
      have hrd := (HR3.out.set k 45).rd k
      have hst : ((List.replicate (k + 1) 48 ++ (48 + d) :: t).set k 45).drop k = 45 :: (48 + d) :: t := by
        rw [List.replicate_succ', List.append_assoc, List.set_append_right _ _ (by simp), List.drop_left' (by simp)]
        simp
      rw [hst] at hrd
      have HRD := Lib.hid hrd
      have ek : ((k + 1 : Nat) : Int) = (k : Int) + 1 := by omega
      rw [ek] at hkR hk0 ⊢
      clear hrd hkz hst hz0
      go_wp2_with fail
      refine leaves_cons (f := 225) (args := #[.pointer (some ⟨w.heap.size + 1, 0, none⟩)]) (by simp) (by simp [go_sem]) ?_
      refine (stackFree_deferred _ .returning _ (one_cell ((one_other (a := ⟨w.heap.size, k, none⟩) (by simp)).trans HS3.out))).mono ?_
      rintro e u' w'' ⟨rfl, rfl, rfl⟩
      have e0 : (numText true (toD 10 N)).length = r + 2 - k := by rw [HTL.out]; simp; omega
      refine ⟨_, results_tmp rfl _ _ _, w.heap.size, k, r + 2 - k, ?_, ?_, by omega, ?_, HBW.out.setCell (p := ⟨w.heap.size, k, none⟩) (Nat.le_refl _) _⟩
      · rw [e0]; rfl
      · rw [e0]; exact Nat.le_refl _
      · rw [HTC.out]
        simp only [↓reduceIte, List.cons_append, List.nil_append]
        rw [HDT.out]
        exact HRD.out
end Go.Proofs.YtiohlcfdoleooaaGreatDoor

/-
  math/big's nat.add, nat.sub into new memory.
-/
namespace Go.Proofs.YtiohlcfdoleooaaGreatDoor
open Go.RowKit

theorem add_join {o1 o2 xs ys : List Nat} {n m c1 c2 : Nat} (h1 : o1.length = n) (hnm : n ≤ m) (hx : xs.length = m) (ha : valD 18446744073709551616 o1 + 18446744073709551616 ^ n * c1 = valD 18446744073709551616 (xs.take n) + valD 18446744073709551616 ys)
    (hb : valD 18446744073709551616 o2 + 18446744073709551616 ^ (m - n) * c2 = valD 18446744073709551616 (xs.drop n) + c1) :
    valD 18446744073709551616 (o1 ++ o2) + 18446744073709551616 ^ m * c2 = valD 18446744073709551616 xs + valD 18446744073709551616 ys := by
  have e1 : valD 18446744073709551616 xs = valD 18446744073709551616 (xs.take n) + 18446744073709551616 ^ n * valD 18446744073709551616 (xs.drop n) := by
    conv => lhs; rw [← List.take_append_drop n xs, valD_append]
    rw [List.length_take, hx, Nat.min_eq_left hnm]
  have e2 : 18446744073709551616 ^ m = 18446744073709551616 ^ n * 18446744073709551616 ^ (m - n) := by rw [← Nat.pow_add]; congr 1; omega
  rw [valD_append, h1, e1, e2]
  generalize 18446744073709551616 ^ n = P at *
  generalize 18446744073709551616 ^ (m - n) = Q at *
  have e3 := congrArg (P * ·) hb
  simp only [Nat.mul_add] at e3
  rw [Nat.mul_assoc]
  omega
theorem sub_join {o1 o2 xs ys : List Nat} {n m c1 c2 : Nat} (h1 : o1.length = n) (hnm : n ≤ m) (hx : xs.length = m) (ha : valD 18446744073709551616 o1 + valD 18446744073709551616 ys = valD 18446744073709551616 (xs.take n) + 18446744073709551616 ^ n * c1)
    (hb : valD 18446744073709551616 o2 + c1 = valD 18446744073709551616 (xs.drop n) + 18446744073709551616 ^ (m - n) * c2) :
    valD 18446744073709551616 (o1 ++ o2) + valD 18446744073709551616 ys = valD 18446744073709551616 xs + 18446744073709551616 ^ m * c2 := by
  have e1 : valD 18446744073709551616 xs = valD 18446744073709551616 (xs.take n) + 18446744073709551616 ^ n * valD 18446744073709551616 (xs.drop n) := by
    conv => lhs; rw [← List.take_append_drop n xs, valD_append]
    rw [List.length_take, hx, Nat.min_eq_left hnm]
  have e2 : 18446744073709551616 ^ m = 18446744073709551616 ^ n * 18446744073709551616 ^ (m - n) := by rw [← Nat.pow_add]; congr 1; omega
  rw [valD_append, h1, e1, e2]
  generalize 18446744073709551616 ^ n = P at *
  generalize 18446744073709551616 ^ (m - n) = Q at *
  have e3 := congrArg (P * ·) hb
  simp only [Nat.mul_add] at e3
  rw [Nat.mul_assoc]
  omega
/-- A row of words that the call owns, its noughts at the end cut off. -/
theorem own_trim {w : World} {g B S : Nat} {zs outs : List Nat} (hrow : Row w g .u64 150 (over zs 0 outs)) (ho : ∀ d ∈ outs, d < 18446744073709551616) (hl : outs.length ≤ zs.length) (hz : zs.length ≤ 100000) (hB : B ≤ g) (hv : valD 18446744073709551616 outs = S) :
    OwnNat B w (some ⟨g, 0, none⟩) zs.length S ∧ trimN outs = wds S ∧ Rd w (some ⟨g, 0, none⟩) (nums .u64 outs) := by
  have htr : trimN outs = wds S := by rw [wds_trim ho, hv]
  obtain ⟨r0, hr0⟩ := trimN_prefix outs
  rw [htr] at hr0
  have hov : over zs 0 outs = outs ++ zs.drop outs.length := by simp [over]
  have hle := over_length (zs := zs) (outs := outs) (o := 0) (by omega)
  refine ⟨.inr ⟨g, over zs 0 outs, rfl, hle.symm, hrow, ⟨r0 ++ zs.drop outs.length, ?_⟩, hB, by omega⟩, htr, ?_⟩
  · rw [hov]
    exact (congrArg (· ++ zs.drop outs.length) hr0).trans (List.append_assoc _ _ _)
  · have hrd := hrow.rd 0
    rw [List.drop_zero, hov] at hrd
    have htk := hrd.take outs.length
    rwa [List.take_left] at htk

set_option maxRecDepth 100000 in
set_option maxHeartbeats 4000000 in
theorem natAddGe_walk (N M : Nat) (A B : Option Addr) (c d : Nat) (w : World) (hc : (wds N).length ≤ c) (hcm : c ≤ 9223372036854775807) (hd : (wds M).length ≤ d) (hdm : d ≤ 9223372036854775807) (hl : (wds N).length ≤ 80000)
    (hx : Wd w A (wds N)) (hy : Wd w B (wds M)) (hge : (wds M).length ≤ (wds N).length) :
    Calls Tryz.prog 180 #[.slice none 0 0, .slice A (wds N).length c, .slice B (wds M).length d] w (OwnPost w.heap.size w (N + M)) := by
  have hle := hge
  have hvx := wds_val N
  have hvy := wds_val M
  have hwx := wds_lt N
  have hwy := wds_lt M
  have hxn : (wds N).length = 0 → N = 0 := fun h => (toD_nil_iff (by decide)).1 (List.length_eq_zero_iff.1 h)
  have hyn : (wds M).length = 0 → M = 0 := fun h => (toD_nil_iff (by decide)).1 (List.length_eq_zero_iff.1 h)
  by_cases hn0 : (wds M).length = 0
  · have hM := hyn hn0
    by_cases hm0 : (wds N).length = 0
    · have hN := hxn hm0
      subst hM hN
      rw [wds_zero] at hc hd ⊢
      have h1 : (0 : Int) ≤ c := by omega
      clear hx hy hvx hvy hwx hwy hxn hyn hn0 hm0
      go_enter Tryz.func180, Tryz.ntmps180
      go_wp2_with fail
      go_ret
      exact ⟨none, 0, by rw [wds_zero]; rfl, .inl ⟨rfl, rfl, rfl⟩, Below.refl _ _, Nat.le_refl _⟩
    · subst hM
      rw [wds_zero] at hd ⊢
      have HS := Lib.hid (setNew_walk A c N w hc hcm (by omega) hx.rd)
      have hmb : (((wds N).length : Int) == 0) = false := beq_eq_false_iff_ne.2 (by omega)
      have hmi : ¬ ((wds N).length : Int) < 0 := by omega
      clear hx hy hvx hvy hwx hwy hxn hyn hn0 hm0
      go_enter Tryz.func180, Tryz.ntmps180
      go_wp2_with fail
      refine HS.out.mono ?_
      rintro e w1 ⟨A1, c1, rfl, hp⟩
      go_wp2_with fail
      go_ret
      exact ⟨A1, c1, by first | rfl | simp, hp⟩
  · obtain ⟨xs, hxs⟩ : ∃ xs, wds N = xs := ⟨_, rfl⟩
    obtain ⟨ys, hys⟩ : ∃ ys, wds M = ys := ⟨_, rfl⟩
    rw [hxs] at hx hc hl hle hvx hwx hxn ⊢
    rw [hys] at hy hd hle hvy hwy hyn hn0 ⊢
    rcases hx with hx | ⟨gx, zx, rx, rfl, hrx, hzx⟩
    · rw [hx] at hle; simp at hle; exact absurd (by rw [hle]; rfl) hn0
    rcases hy with hy | ⟨gy, zy, ry, rfl, hry, hzy⟩
    · rw [hy] at hn0; exact absurd rfl hn0
    obtain ⟨n, hn⟩ : ∃ n, ys.length = n := ⟨_, rfl⟩
    obtain ⟨m, hm⟩ : ∃ m, xs.length = m := ⟨_, rfl⟩
    rw [hn] at hle hd hn0 ⊢
    rw [hm] at hle hc hl ⊢
    have HM := Lib.hid (make_new_walk none 0 0 (m + 1) w (by omega) (by omega) (Nat.le_refl _))
    have hroom : m + 1 ≤ roomFor (m + 1) ∧ roomFor (m + 1) ≤ m + 1 + 4 := by unfold roomFor; split <;> omega
    have hrow := row_made w .u64 (roomFor (m + 1)) 150
    obtain ⟨R, hR⟩ : ∃ R, roomFor (m + 1) = R := ⟨_, rfl⟩
    rw [hR] at HM hroom hrow
    have hgx : gx < w.heap.size := hrx.lt
    have hgy : gy < w.heap.size := hry.lt
    have hrx1 := hrx.alloc (.cells (madeCells #[.int .u64 0] R) 150)
    have hry1 := hry.alloc (.cells (madeCells #[.int .u64 0] R) 150)
    have hb1 := below_a1 w (.cells (madeCells #[.int .u64 0] R) 150)
    have hs1 := heap_size_alloc w (.cells (madeCells #[.int .u64 0] R) 150)
    obtain ⟨w1, hw1⟩ : ∃ w1, w.alloc (.cells (madeCells #[.int .u64 0] R) 150) = w1 := ⟨_, rfl⟩
    rw [hw1] at HM hrow hrx1 hry1 hb1 hs1
    have htl : (xs.take n).length = n := by rw [List.length_take, hm]; omega
    have hdl : (xs.drop n).length = m - n := by rw [List.length_drop, hm]
    have hzl : (List.replicate R 0).length = R := List.length_replicate
    have hrdx : Rd w1.drew (some ⟨gx, 0, none⟩) (nums .u64 (xs.take n)) := by
      have h1 := (hrx1.rd 0).take n
      rw [List.drop_zero, hzx, List.take_append_of_le_length (by omega)] at h1
      exact h1
    have hrdy : Rd w1.drew (some ⟨gy, 0, none⟩) (nums .u64 ys) := by
      have h1 := (hry1.rd 0).take ys.length
      rw [List.drop_zero, hzy, List.take_left] at h1
      exact h1
    have hAV := addVV_walk w.heap.size 0 (List.replicate R 0) (xs.take n) ys (some ⟨gx, 0, none⟩) (some ⟨gy, 0, none⟩) R c d w1.drew (hrow.drew 1) (.inr ⟨hrdx, fun a ha => by cases ha; exact Nat.ne_of_lt hgx⟩) (.inr ⟨hrdy, fun a ha => by cases ha; exact Nat.ne_of_lt hgy⟩)
      (by rw [htl, hn]) (by rw [htl, hzl]; omega) (fun d hd => hwx d (List.mem_of_mem_take hd)) hwy (by rw [htl]; omega) (by decide)
    unfold VvPost at hAV
    rw [htl] at hAV
    have HAV := Lib.hid hAV
    have HRX := Lib.hid hrx1
    have HZX := Lib.hid hzx
    have HN := Lib.hid hn
    have HMM := Lib.hid hm
    have HZL := Lib.hid hzl
    have HDL := Lib.hid hdl
    have HWX := Lib.hid hwx
    have HVX := Lib.hid hvx
    have HVY := Lib.hid hvy
    have HB1 := Lib.hid hb1
    have HS1 := Lib.hid hs1
    have HX := Lib.hid hxs
    have hmb : ((m : Int) == 0) = false := beq_eq_false_iff_ne.2 (by omega)
    have hnb : ((n : Int) == 0) = false := beq_eq_false_iff_ne.2 (by omega)
    have hmn : ¬ (m : Int) < n := by omega
    have hi0 : (0 : Int) ≤ n := by omega
    have hi1 : (n : Int) ≤ R := by omega
    have hi2 : (n : Int) ≤ c := by omega
    have hi3 : (n : Int) ≤ d := by omega
    have hi4 : (m : Int) ≤ R := by omega
    have hi5 : (m : Int) ≤ c := by omega
    have hi6 : (n : Int) ≤ m := by omega
    have ec : ((m + 1 : Nat) : Int) = (m : Int) + 1 := by omega
    rw [ec] at HM
    have hi7 : (m : Int) + 1 ≤ R := by omega
    have hi8 : (m : Int) < R := by omega
    have hi9 : (m : Int) < (m : Int) + 1 := by omega
    clear ec
    clear hAV hrx1 hry1 hzx hzy hn hm hzl hdl hwx hwy hvx hvy hb1 hs1 hxs hys hrx hry hrow htl hrdx hrdy hR hw1 hxn hyn
    go_enter Tryz.func180, Tryz.ntmps180
    go_wp2_with fail
    refine HM.out.mono ?_
    rintro e w9 ⟨rfl, hw9⟩
    obtain rfl : w1 = w9 := hw9.symm
    clear hw9
    go_wp2_with fail
    go_still_tail 9, (by kernel_rfl)
    change wpList _ _ _ _ _ _
    go_wp2_with fail
    refine HAV.out.mono ?_
    rintro e w2 ⟨c1, o1, rfl, hc1, hol1, how1, hrow2, hx2, hs2, hv2⟩
    have HR2 := Lib.hid hrow2
    have HO1 := Lib.hid hol1
    have HW1 := Lib.hid how1
    have HV2 := Lib.hid hv2
    have HX2 := Lib.hid hx2
    clear hrow2 hol1 how1 hv2 hx2
    by_cases hgt : n < m
    · have hgti : (n : Int) < m := by omega
      have hne1 : ¬ n = R := by omega
      have hne2 : ¬ R = n := by omega
      have hne3 : ¬ n = c := by omega
      have hne4 : ¬ c = n := by omega
      have hAW := addVW_walk w.heap.size n (over (List.replicate R 0) 0 o1) (xs.drop n) gx n zx (R - n) (c - n) c1 w2.drew (HR2.out.drew 1) (((HRX.out.drew 1).ext2 HX2.out (Nat.ne_of_lt hgx)).drew 1) ⟨rx, by rw [HZX.out, List.drop_append_of_le_length (by have := HMM.out; omega)]⟩ (Nat.ne_of_lt hgx)
        (by rw [HDL.out, over_length (by rw [HZL.out, HO1.out]; omega), HZL.out]; omega) (by rw [HDL.out]; omega) (by rw [HDL.out]; omega) (by omega) (by omega) (by rw [HDL.out]; omega) (by omega) (fun d hd => HWX.out d (List.mem_of_mem_drop hd)) (by rw [HDL.out]; omega) (by omega)
      unfold VwPost at hAW
      rw [HDL.out] at hAW
      have HAW := Lib.hid hAW
      clear hAW
      go_wp2_with fail
      go_still_tail 8, (by kernel_rfl)
      change wpList _ _ _ _ _ _
      go_wp2_with fail
      refine HAW.out.mono ?_
      rintro e w3 ⟨c2, o2, rfl, hc2, hol2, how2, hrow3, hx3, hs3, hv3⟩
      have hov := over_over (List.replicate R 0) o1 o2 0 (by rw [HZL.out, HO1.out]; omega)
      rw [Nat.zero_add, HO1.out] at hov
      rw [hov] at hrow3
      have hlen : (o1 ++ o2).length = m := by rw [List.length_append, HO1.out, hol2]; omega
      have hval := add_join (xs := xs) (ys := ys) (m := m) HO1.out (by omega) HMM.out HV2.out hv3
      rw [HVX.out, HVY.out] at hval
      have hdig : ∀ d ∈ o1 ++ o2, d < 18446744073709551616 := fun d hd => by
        rcases List.mem_append.1 hd with h | h
        · exact HW1.out d h
        · exact how2 d h
      have hbw : Below w.heap.size w w3 := HB1.out.trans ((((Ext.refl _ w1).drewN 1).trans HX2.out).trans (((Ext.refl _ w2).drewN 1).trans hx3) |>.below (by have := HS1.out; omega) (fun k hk => by omega))
      have hsz : w3.heap.size = w.heap.size + 1 := hs3.trans (hs2.trans HS1.out)
      obtain ⟨outs, hout⟩ : ∃ outs, o1 ++ o2 = outs := ⟨_, rfl⟩
      rw [hout] at hrow3 hlen hval hdig
      clear hx3 hs3 hv3 hol2 how2 hov hout hne1 hne2 hne3 hne4
      have hc0 : ∃ old : Nat, w3.cell? ⟨w.heap.size, m, none⟩ = some (.int .u64 old) := ⟨_, hrow3.cell (j := m) (by rw [over_length (by rw [HZL.out]; omega), HZL.out]; omega)⟩
      obtain ⟨old, hc0⟩ := hc0
      have hf0 := hrow3.free m
      have hset := over_set (zs := List.replicate R 0) (outs := outs) (o := 0) (v := c2) (by rw [HZL.out]; omega)
      rw [Nat.zero_add, hlen] at hset
      have hst : Row (w3.setCell ⟨w.heap.size, m, none⟩ (.int .u64 (c2 : Int))) w.heap.size .u64 150 (over (List.replicate R 0) 0 (outs ++ [c2])) := by rw [← hset]; exact hrow3.set _ _
      have hvv : valD 18446744073709551616 (outs ++ [c2]) = N + M := by
        rw [valD_append, hlen]
        have e1 : valD 18446744073709551616 [c2] = c2 := by simp [valD]
        rw [e1]
        exact hval
      have hl3 : (outs ++ [c2]).length = m + 1 := by rw [List.length_append, hlen]; rfl
      obtain ⟨hown, htr, hrd⟩ := own_trim hst (fun d hd => by
        rcases List.mem_append.1 hd with h | h
        · exact hdig d h
        · simp at h; omega) (by rw [hl3, HZL.out]; omega) (by rw [HZL.out]; omega) (Nat.le_refl _) hvv
      rw [HZL.out] at hown
      have hNW := norm_walk (some ⟨w.heap.size, 0, none⟩) R (outs ++ [c2]) _ (by rw [hl3]; omega) (by omega) hrd
      rw [htr, hl3] at hNW
      have HNW := Lib.hid hNW
      have HOWN := Lib.hid hown
      have HBW := Lib.hid hbw
      have HSZ := Lib.hid hsz
      clear hNW hown hbw hsz hst hvv hl3 htr hrd hset hval hdig hlen hrow3
      go_wp2_with fail
      refine HNW.out.mono ?_
      rintro e w5 ⟨rfl, rfl⟩
      go_wp2_with fail
      go_ret
      exact ⟨_, R, rfl, HOWN.out, HBW.out.setCell (p := ⟨w.heap.size, m, none⟩) (Nat.le_refl _) _, by have := HSZ.out; simp [World.setCell]; omega⟩
    · have hgti : ¬ (n : Int) < m := by omega
      obtain rfl : m = n := by omega
      obtain ⟨c2, hcc⟩ : ∃ c2, c1 = c2 := ⟨_, rfl⟩
      obtain ⟨outs, hout⟩ : ∃ outs, o1 = outs := ⟨_, rfl⟩
      obtain ⟨w3, hw3⟩ : ∃ w3, w2 = w3 := ⟨_, rfl⟩
      subst hcc hout hw3
      have hc2 := hc1
      have hrow3 := HR2.out
      have hlen := HO1.out
      have hdig := HW1.out
      have hval : _ + _ = _ + _ := HV2.out
      rw [List.take_of_length_le (by have := HMM.out; omega), HVX.out, HVY.out] at hval
      have hbw : Below w.heap.size w w2 := HB1.out.trans (((Ext.refl _ w1).drewN 1).trans HX2.out |>.below (by have := HS1.out; omega) (fun k hk => by omega))
      have hsz : w2.heap.size = w.heap.size + 1 := hs2.trans HS1.out
      have hc0 : ∃ old : Nat, w2.cell? ⟨w.heap.size, m, none⟩ = some (.int .u64 old) := ⟨_, hrow3.cell (j := m) (by rw [over_length (by rw [HZL.out]; omega), HZL.out]; omega)⟩
      obtain ⟨old, hc0⟩ := hc0
      have hf0 := hrow3.free m
      have hset := over_set (zs := List.replicate R 0) (outs := o1) (o := 0) (v := c1) (by rw [HZL.out]; omega)
      rw [Nat.zero_add, hlen] at hset
      have hst : Row (w2.setCell ⟨w.heap.size, m, none⟩ (.int .u64 (c1 : Int))) w.heap.size .u64 150 (over (List.replicate R 0) 0 (o1 ++ [c1])) := by rw [← hset]; exact hrow3.set _ _
      have hvv : valD 18446744073709551616 (o1 ++ [c1]) = N + M := by
        rw [valD_append, hlen]
        have e1 : valD 18446744073709551616 [c1] = c1 := by simp [valD]
        rw [e1]
        exact hval
      have hl3 : (o1 ++ [c1]).length = m + 1 := by rw [List.length_append, hlen]; rfl
      obtain ⟨hown, htr, hrd⟩ := own_trim hst (fun d hd => by
        rcases List.mem_append.1 hd with h | h
        · exact hdig d h
        · simp at h; omega) (by rw [hl3, HZL.out]; omega) (by rw [HZL.out]; omega) (Nat.le_refl _) hvv
      rw [HZL.out] at hown
      have hNW := norm_walk (some ⟨w.heap.size, 0, none⟩) R (o1 ++ [c1]) _ (by rw [hl3]; omega) (by omega) hrd
      rw [htr, hl3] at hNW
      have HNW := Lib.hid hNW
      have HOWN := Lib.hid hown
      have HBW := Lib.hid hbw
      have HSZ := Lib.hid hsz
      clear hNW hown hbw hsz hst hvv hl3 htr hrd hset hval hdig hlen hrow3
      go_wp2_with fail
      refine HNW.out.mono ?_
      rintro e w5 ⟨rfl, rfl⟩
      go_wp2_with fail
      go_ret
      exact ⟨_, R, rfl, HOWN.out, HBW.out.setCell (p := ⟨w.heap.size, m, none⟩) (Nat.le_refl _) _, by have := HSZ.out; simp [World.setCell]; omega⟩

set_option maxRecDepth 100000 in
set_option maxHeartbeats 4000000 in
theorem natSubGe_walk (N M : Nat) (A B : Option Addr) (c d : Nat) (w : World) (hc : (wds N).length ≤ c) (hcm : c ≤ 9223372036854775807) (hd : (wds M).length ≤ d) (hdm : d ≤ 9223372036854775807) (hl : (wds N).length ≤ 80000)
    (hx : Wd w A (wds N)) (hy : Wd w B (wds M)) (hge : M ≤ N) :
    Calls Tryz.prog 182 #[.slice none 0 0, .slice A (wds N).length c, .slice B (wds M).length d] w (OwnPost w.heap.size w (N - M)) := by
  have hle : (wds M).length ≤ (wds N).length := Nat.le_of_not_lt fun h => by have := toD_len_lt (b := 18446744073709551616) (by decide) h; omega
  have hvx := wds_val N
  have hvy := wds_val M
  have hwx := wds_lt N
  have hwy := wds_lt M
  have hxn : (wds N).length = 0 → N = 0 := fun h => (toD_nil_iff (by decide)).1 (List.length_eq_zero_iff.1 h)
  have hyn : (wds M).length = 0 → M = 0 := fun h => (toD_nil_iff (by decide)).1 (List.length_eq_zero_iff.1 h)
  by_cases hn0 : (wds M).length = 0
  · have hM := hyn hn0
    by_cases hm0 : (wds N).length = 0
    · have hN := hxn hm0
      subst hM hN
      rw [wds_zero] at hc hd ⊢
      have h1 : (0 : Int) ≤ c := by omega
      clear hx hy hvx hvy hwx hwy hxn hyn hn0 hm0
      go_enter Tryz.func182, Tryz.ntmps182
      go_wp2_with fail
      go_ret
      exact ⟨none, 0, by rw [wds_zero]; rfl, .inl ⟨rfl, rfl, rfl⟩, Below.refl _ _, Nat.le_refl _⟩
    · subst hM
      rw [wds_zero] at hd ⊢
      have HS := Lib.hid (setNew_walk A c N w hc hcm (by omega) hx.rd)
      have hmb : (((wds N).length : Int) == 0) = false := beq_eq_false_iff_ne.2 (by omega)
      have hmi : ¬ ((wds N).length : Int) < 0 := by omega
      clear hx hy hvx hvy hwx hwy hxn hyn hn0 hm0
      go_enter Tryz.func182, Tryz.ntmps182
      go_wp2_with fail
      refine HS.out.mono ?_
      rintro e w1 ⟨A1, c1, rfl, hp⟩
      go_wp2_with fail
      go_ret
      exact ⟨A1, c1, by first | rfl | simp, hp⟩
  · obtain ⟨xs, hxs⟩ : ∃ xs, wds N = xs := ⟨_, rfl⟩
    obtain ⟨ys, hys⟩ : ∃ ys, wds M = ys := ⟨_, rfl⟩
    rw [hxs] at hx hc hl hle hvx hwx hxn ⊢
    rw [hys] at hy hd hle hvy hwy hyn hn0 ⊢
    rcases hx with hx | ⟨gx, zx, rx, rfl, hrx, hzx⟩
    · rw [hx] at hle; simp at hle; exact absurd (by rw [hle]; rfl) hn0
    rcases hy with hy | ⟨gy, zy, ry, rfl, hry, hzy⟩
    · rw [hy] at hn0; exact absurd rfl hn0
    obtain ⟨n, hn⟩ : ∃ n, ys.length = n := ⟨_, rfl⟩
    obtain ⟨m, hm⟩ : ∃ m, xs.length = m := ⟨_, rfl⟩
    rw [hn] at hle hd hn0 ⊢
    rw [hm] at hle hc hl ⊢
    have HM := Lib.hid (make_new_walk none 0 0 (m) w (by omega) (by omega) (Nat.le_refl _))
    have hroom : m ≤ roomFor (m) ∧ roomFor (m) ≤ m + 4 := by unfold roomFor; split <;> omega
    have hrow := row_made w .u64 (roomFor (m)) 150
    obtain ⟨R, hR⟩ : ∃ R, roomFor (m) = R := ⟨_, rfl⟩
    rw [hR] at HM hroom hrow
    have hgx : gx < w.heap.size := hrx.lt
    have hgy : gy < w.heap.size := hry.lt
    have hrx1 := hrx.alloc (.cells (madeCells #[.int .u64 0] R) 150)
    have hry1 := hry.alloc (.cells (madeCells #[.int .u64 0] R) 150)
    have hb1 := below_a1 w (.cells (madeCells #[.int .u64 0] R) 150)
    have hs1 := heap_size_alloc w (.cells (madeCells #[.int .u64 0] R) 150)
    obtain ⟨w1, hw1⟩ : ∃ w1, w.alloc (.cells (madeCells #[.int .u64 0] R) 150) = w1 := ⟨_, rfl⟩
    rw [hw1] at HM hrow hrx1 hry1 hb1 hs1
    have htl : (xs.take n).length = n := by rw [List.length_take, hm]; omega
    have hdl : (xs.drop n).length = m - n := by rw [List.length_drop, hm]
    have hzl : (List.replicate R 0).length = R := List.length_replicate
    have hrdx : Rd w1.drew (some ⟨gx, 0, none⟩) (nums .u64 (xs.take n)) := by
      have h1 := (hrx1.rd 0).take n
      rw [List.drop_zero, hzx, List.take_append_of_le_length (by omega)] at h1
      exact h1
    have hrdy : Rd w1.drew (some ⟨gy, 0, none⟩) (nums .u64 ys) := by
      have h1 := (hry1.rd 0).take ys.length
      rw [List.drop_zero, hzy, List.take_left] at h1
      exact h1
    have hAV := subVV_walk w.heap.size 0 (List.replicate R 0) (xs.take n) ys (some ⟨gx, 0, none⟩) (some ⟨gy, 0, none⟩) R c d w1.drew (hrow.drew 1) (.inr ⟨hrdx, fun a ha => by cases ha; exact Nat.ne_of_lt hgx⟩) (.inr ⟨hrdy, fun a ha => by cases ha; exact Nat.ne_of_lt hgy⟩)
      (by rw [htl, hn]) (by rw [htl, hzl]; omega) (fun d hd => hwx d (List.mem_of_mem_take hd)) hwy (by rw [htl]; omega) (by decide)
    unfold VvPost at hAV
    rw [htl] at hAV
    have HAV := Lib.hid hAV
    have HRX := Lib.hid hrx1
    have HZX := Lib.hid hzx
    have HN := Lib.hid hn
    have HMM := Lib.hid hm
    have HZL := Lib.hid hzl
    have HDL := Lib.hid hdl
    have HWX := Lib.hid hwx
    have HVX := Lib.hid hvx
    have HVY := Lib.hid hvy
    have HB1 := Lib.hid hb1
    have HS1 := Lib.hid hs1
    have HX := Lib.hid hxs
    have hmb : ((m : Int) == 0) = false := beq_eq_false_iff_ne.2 (by omega)
    have hnb : ((n : Int) == 0) = false := beq_eq_false_iff_ne.2 (by omega)
    have hmn : ¬ (m : Int) < n := by omega
    have hi0 : (0 : Int) ≤ n := by omega
    have hi1 : (n : Int) ≤ R := by omega
    have hi2 : (n : Int) ≤ c := by omega
    have hi3 : (n : Int) ≤ d := by omega
    have hi4 : (m : Int) ≤ R := by omega
    have hi5 : (m : Int) ≤ c := by omega
    have hi6 : (n : Int) ≤ m := by omega

    clear hAV hrx1 hry1 hzx hzy hn hm hzl hdl hwx hwy hvx hvy hb1 hs1 hxs hys hrx hry hrow htl hrdx hrdy hR hw1 hxn hyn
    go_enter Tryz.func182, Tryz.ntmps182
    go_wp2_with fail
    refine HM.out.mono ?_
    rintro e w9 ⟨rfl, hw9⟩
    obtain rfl : w1 = w9 := hw9.symm
    clear hw9
    go_wp2_with fail
    go_still_tail 9, (by kernel_rfl)
    change wpList _ _ _ _ _ _
    go_wp2_with fail
    refine HAV.out.mono ?_
    rintro e w2 ⟨c1, o1, rfl, hc1, hol1, how1, hrow2, hx2, hs2, hv2⟩
    have HR2 := Lib.hid hrow2
    have HO1 := Lib.hid hol1
    have HW1 := Lib.hid how1
    have HV2 := Lib.hid hv2
    have HX2 := Lib.hid hx2
    clear hrow2 hol1 how1 hv2 hx2
    by_cases hgt : n < m
    · have hgti : (n : Int) < m := by omega
      have hne1 : ¬ n = R := by omega
      have hne2 : ¬ R = n := by omega
      have hne3 : ¬ n = c := by omega
      have hne4 : ¬ c = n := by omega
      have hAW := subVW_walk w.heap.size n (over (List.replicate R 0) 0 o1) (xs.drop n) gx n zx (R - n) (c - n) c1 w2.drew (HR2.out.drew 1) (((HRX.out.drew 1).ext2 HX2.out (Nat.ne_of_lt hgx)).drew 1) ⟨rx, by rw [HZX.out, List.drop_append_of_le_length (by have := HMM.out; omega)]⟩ (Nat.ne_of_lt hgx)
        (by rw [HDL.out, over_length (by rw [HZL.out, HO1.out]; omega), HZL.out]; omega) (by rw [HDL.out]; omega) (by rw [HDL.out]; omega) (by omega) (by omega) (by rw [HDL.out]; omega) (by omega) (fun d hd => HWX.out d (List.mem_of_mem_drop hd)) (by rw [HDL.out]; omega) (by omega)
      unfold VwPost at hAW
      rw [HDL.out] at hAW
      have HAW := Lib.hid hAW
      clear hAW
      go_wp2_with fail
      go_still_tail 7, (by kernel_rfl)
      change wpList _ _ _ _ _ _
      go_wp2_with fail
      refine HAW.out.mono ?_
      rintro e w3 ⟨c2, o2, rfl, hc2, hol2, how2, hrow3, hx3, hs3, hv3⟩
      have hov := over_over (List.replicate R 0) o1 o2 0 (by rw [HZL.out, HO1.out]; omega)
      rw [Nat.zero_add, HO1.out] at hov
      rw [hov] at hrow3
      have hlen : (o1 ++ o2).length = m := by rw [List.length_append, HO1.out, hol2]; omega
      have hval := sub_join (xs := xs) (ys := ys) (m := m) HO1.out (by omega) HMM.out HV2.out hv3
      rw [HVX.out, HVY.out] at hval
      have hdig : ∀ d ∈ o1 ++ o2, d < 18446744073709551616 := fun d hd => by
        rcases List.mem_append.1 hd with h | h
        · exact HW1.out d h
        · exact how2 d h
      have hbw : Below w.heap.size w w3 := HB1.out.trans ((((Ext.refl _ w1).drewN 1).trans HX2.out).trans (((Ext.refl _ w2).drewN 1).trans hx3) |>.below (by have := HS1.out; omega) (fun k hk => by omega))
      have hsz : w3.heap.size = w.heap.size + 1 := hs3.trans (hs2.trans HS1.out)
      obtain ⟨outs, hout⟩ : ∃ outs, o1 ++ o2 = outs := ⟨_, rfl⟩
      rw [hout] at hrow3 hlen hval hdig
      clear hx3 hs3 hv3 hol2 how2 hov hout hne1 hne2 hne3 hne4
      have hc20 : c2 = 0 := by
        have h1 := valD_lt (b := 18446744073709551616) (by decide) hdig
        rw [hlen] at h1
        refine Nat.eq_zero_of_not_pos fun hp => ?_
        have h2 := Nat.mul_le_mul_left (18446744073709551616 ^ m) hp
        omega
      subst hc20
      have hvv : valD 18446744073709551616 outs = N - M := by omega
      obtain ⟨hown, htr, hrd⟩ := own_trim hrow3 hdig (by rw [hlen, HZL.out]; omega) (by rw [HZL.out]; omega) (Nat.le_refl _) hvv
      rw [HZL.out] at hown
      have hNW := norm_walk (some ⟨w.heap.size, 0, none⟩) R outs _ (by omega) (by omega) hrd
      rw [htr, hlen] at hNW
      have HNW := Lib.hid hNW
      have HOWN := Lib.hid hown
      have HBW := Lib.hid hbw
      have HSZ := Lib.hid hsz
      clear hNW hown hbw hsz hvv htr hrd hval hdig hlen hrow3
      go_wp2_with fail
      refine HNW.out.mono ?_
      rintro e w5 ⟨rfl, rfl⟩
      go_wp2_with fail
      go_ret
      exact ⟨_, R, rfl, HOWN.out, HBW.out, by have := HSZ.out; omega⟩
    · have hgti : ¬ (n : Int) < m := by omega
      obtain rfl : m = n := by omega
      obtain ⟨c2, hcc⟩ : ∃ c2, c1 = c2 := ⟨_, rfl⟩
      obtain ⟨outs, hout⟩ : ∃ outs, o1 = outs := ⟨_, rfl⟩
      obtain ⟨w3, hw3⟩ : ∃ w3, w2 = w3 := ⟨_, rfl⟩
      subst hcc hout hw3
      have hc2 := hc1
      have hrow3 := HR2.out
      have hlen := HO1.out
      have hdig := HW1.out
      have hval : _ + _ = _ + _ := HV2.out
      rw [List.take_of_length_le (by have := HMM.out; omega), HVX.out, HVY.out] at hval
      have hbw : Below w.heap.size w w2 := HB1.out.trans (((Ext.refl _ w1).drewN 1).trans HX2.out |>.below (by have := HS1.out; omega) (fun k hk => by omega))
      have hsz : w2.heap.size = w.heap.size + 1 := hs2.trans HS1.out
      have hc20 : c1 = 0 := by
        have h1 := valD_lt (b := 18446744073709551616) (by decide) hdig
        rw [hlen] at h1
        refine Nat.eq_zero_of_not_pos fun hp => ?_
        have h2 := Nat.mul_le_mul_left (18446744073709551616 ^ m) hp
        omega
      subst hc20
      have hvv : valD 18446744073709551616 o1 = N - M := by omega
      obtain ⟨hown, htr, hrd⟩ := own_trim hrow3 hdig (by rw [hlen, HZL.out]; omega) (by rw [HZL.out]; omega) (Nat.le_refl _) hvv
      rw [HZL.out] at hown
      have hNW := norm_walk (some ⟨w.heap.size, 0, none⟩) R o1 _ (by omega) (by omega) hrd
      rw [htr, hlen] at hNW
      have HNW := Lib.hid hNW
      have HOWN := Lib.hid hown
      have HBW := Lib.hid hbw
      have HSZ := Lib.hid hsz
      clear hNW hown hbw hsz hvv htr hrd hval hdig hlen hrow3
      go_wp2_with fail
      refine HNW.out.mono ?_
      rintro e w5 ⟨rfl, rfl⟩
      go_wp2_with fail
      go_ret
      exact ⟨_, R, rfl, HOWN.out, HBW.out, by have := HSZ.out; omega⟩

set_option maxRecDepth 100000 in
set_option maxHeartbeats 1000000 in
theorem natAdd_walk (N M : Nat) (A B : Option Addr) (c d : Nat) (w : World) (hc : (wds N).length ≤ c) (hcm : c ≤ 9223372036854775807) (hd : (wds M).length ≤ d) (hdm : d ≤ 9223372036854775807) (hl : (wds N).length ≤ 80000) (hl2 : (wds M).length ≤ 80000)
    (hx : Wd w A (wds N)) (hy : Wd w B (wds M)) :
    Calls Tryz.prog 180 #[.slice none 0 0, .slice A (wds N).length c, .slice B (wds M).length d] w (OwnPost w.heap.size w (N + M)) := by
  by_cases h : (wds M).length ≤ (wds N).length
  · exact natAddGe_walk N M A B c d w hc hcm hd hdm hl hx hy h
  · have HG := Lib.hid (natAddGe_walk M N B A d c w hd hdm hc hcm hl2 hy hx (by omega))
    have hlt : ((wds N).length : Int) < (wds M).length := by omega
    rw [Nat.add_comm N M]
    clear hx hy
    go_enter Tryz.func180, Tryz.ntmps180
    go_wp2_with fail
    refine HG.out.mono ?_
    rintro e w1 ⟨A1, c1, rfl, hp⟩
    go_wp2_with fail
    go_ret
    exact ⟨A1, c1, rfl, hp⟩
end Go.Proofs.YtiohlcfdoleooaaGreatDoor
