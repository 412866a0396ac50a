/-
  itoa in base 10.
  itoa in base 10, for a number that is not 0.
-/
import Derived.Test.YtapfolgiafnllaaGreatDoorItoa2Z
import Derived.Test.YtapfolgiafnllaaGreatDoorBn18Z
import Derived.Test.YtapfolgiafnllaaGreatDoorCopyZ
import Derived.Defers
namespace Go.Proofs.YtapfolgiafnllaaGreatDoor
open Go.RowKit

/-- The quotient that itoa reckons its room by. -/
def logQ (b : Nat) : Nat := (FloatKind.f64.format.div (floatOfInt FloatKind.f64 b) 4614662735865160561).getD 0
theorem logQ_some : ∀ b : Fin 321, FloatKind.f64.format.div (floatOfInt FloatKind.f64 b.val) 4614662735865160561 = some (logQ b.val) := by decide +kernel
theorem quo_law (x y r : Nat) (h : FloatKind.f64.format.div x y = some r) (w : World) : (binOp BinOp.quo 144 (.float .f64 x) (.float .f64 y)).run Tryz.prog w = .ok (.float .f64 r) w := by
  simp [binOp, Op.floatArith, h]

def logI (b : Nat) : Int := ((FloatKind.f64.decode (logQ b)).toInt .zero).getD 0
theorem logI_some : ∀ b : Fin 321, (FloatKind.f64.decode (logQ b.val)).toInt .zero = some (logI b.val) ∧ 0 ≤ logI b.val ∧ logI b.val ≤ 100 ∧ 2 ^ b.val ≤ 10 ^ ((logI b.val).toNat + 1) := by decide +kernel
theorem toInt_law (x : Nat) (n : Int) (h : (FloatKind.f64.decode x).toInt .zero = some n) (h0 : 0 ≤ n) (h1 : n ≤ 100) (w : World) : (convert 144 3 (.float .f64 x)).run Tryz.prog w = .ok (.int .i64 n) w := by
  have hm : IntKind.i64.min ≤ n ∧ n ≤ IntKind.i64.max := by
    have e1 : IntKind.i64.min = -9223372036854775808 := by decide
    have e2 : IntKind.i64.max = 9223372036854775807 := by decide
    omega
  simp [convert, run_underlying Tryz.underlying144, run_underlying Tryz.underlying3, Conv.floatToInt, h, hm]
  intro hx
  exact absurd hx (by omega)
/-- The room: enough for the digits. -/
theorem room_digits {N : Nat} (hl : natLen N ≤ 320) : N < 10 ^ ((logI (natLen N)).toNat + 1) := by
  have h := logI_some ⟨natLen N, by omega⟩
  exact Nat.lt_of_lt_of_le ((natLen_lt_iff N (natLen N)).1 (Nat.le_refl _)) h.2.2.2

/-- leafSize, as the program's text lays it. -/
def LeafIs (w : World) : Prop := w.cell? ⟨7, 0, none⟩ = some (.int .i64 8)
theorem LeafIs.lt {w : World} (h : LeafIs w) : 7 < w.heap.size := World.block_lt_of_cell? w _ h
theorem LeafIs.below {w w' : World} (h : LeafIs w) (hb : Below w.heap.size w w') : LeafIs w' := (hb.cell (by exact h.lt)).trans h
theorem LeafIs.belowB {B : Nat} {w w' : World} (h : LeafIs w) (hb : Below B w w') (hB : 7 < B) : LeafIs w' := (hb.cell (by exact hB)).trans h

set_option maxRecDepth 100000 in
theorem divisors_walk (stk : Value) (m : Nat) (w : World) (hm : m ≤ 8) (hl : LeafIs w) :
    Calls Tryz.prog 150 #[stk, .int .i64 m, .int .u64 10, .int .i64 19, .int .u64 10000000000000000000] w fun e w' => e = .returned (.slice none 0 0) ∧ w = w' := by
  have hc : w.cell? ⟨7, 0, none⟩ = some (.int .i64 8) := hl
  have hm' : (m : Int) ≤ 8 := by omega
  go_enter Tryz.func150, Tryz.ntmps150
  go_wp2_with fail
  go_ret
  exact ⟨rfl, rfl⟩

set_option maxRecDepth 100000 in
set_option maxHeartbeats 1000000 in
/-- nat(nil).set(x): a copy. -/
theorem setNew_walk (A : Option Addr) (c N : Nat) (w : World) (hc : (wds N).length ≤ c) (_hm : c ≤ 9223372036854775807) (hl : (wds N).length ≤ 90000) (hr : Rd w A (nums .u64 (wds N))) :
    Calls Tryz.prog 97 #[.slice none 0 0, .slice A (wds N).length c] w (OwnPost w.heap.size w N) := by
  obtain ⟨xs, hxs⟩ : ∃ xs, wds N = xs := ⟨_, rfl⟩
  unfold OwnPost
  rw [hxs] at hc hl hr ⊢
  have hown : ∀ (w' : World) (zs : List Nat), Row w' w.heap.size .u64 106 (xs ++ zs) → (xs ++ zs).length ≤ 100000 → OwnNat w.heap.size w' (some ⟨w.heap.size, 0, none⟩) (xs ++ zs).length N := fun w' zs h h2 => .inr ⟨w.heap.size, xs ++ zs, rfl, rfl, h, ⟨zs, by rw [hxs]⟩, Nat.le_refl _, h2⟩
  have hz : xs = [] → N = 0 := fun h => (toD_nil_iff (by decide)).1 (hxs.trans h)
  have HO := Lib.hid hown
  have HZ := Lib.hid hz
  have HR := Lib.hid hr
  clear hown hz hxs hr
  by_cases h0 : xs.length = 0
  · obtain rfl : xs = [] := List.length_eq_zero_iff.1 h0
    have HM := Lib.hid (make_room_walk none 0 0 0 w (Nat.le_refl _) (by decide) (Nat.le_refl _))
    clear h0
    go_enter Tryz.func97, Tryz.ntmps97
    go_wp2_with fail
    refine HM.out.mono ?_
    rintro e w1 ⟨rfl, rfl⟩
    go_wp2_with (with_reducible refine wpList_copy_nothing rfl _ _ 78 78 rfl 106 Tryz.underlying78 infoWordSize _ _ _ _ _ _ rfl rfl (by simp) ?_)
    go_ret
    exact ⟨none, 0, rfl, .inl ⟨rfl, rfl, by first | exact HZ.out rfl | exact HZ.out trivial⟩, Below.refl _ _, Nat.le_refl _⟩
  · have HM := Lib.hid (make_new_walk none 0 0 xs.length w (by omega) (by omega) (Nat.le_refl _))
    have hroom : xs.length ≤ roomFor xs.length ∧ roomFor xs.length ≤ xs.length + 4 := by unfold roomFor; split <;> omega
    obtain ⟨R, hR⟩ : ∃ R, roomFor xs.length = R := ⟨_, rfl⟩
    rw [hR] at HM hroom
    clear hR
    go_enter Tryz.func97, Tryz.ntmps97
    go_wp2_with fail
    refine HM.out.mono ?_
    rintro e w1 ⟨rfl, rfl⟩
    have hrow := row_made w .u64 R 106
    have hrd := HR.out.below (below_a1 w (.cells (madeCells #[.int .u64 0] R) 106))
    obtain ⟨w1, hw1⟩ : ∃ w1, w.alloc (.cells (madeCells #[.int .u64 0] R) 106) = w1 := ⟨_, rfl⟩
    have hb1 : Below w.heap.size w w1 := by rw [← hw1]; exact below_a1 _ _
    have hs1 : w1.heap.size = w.heap.size + 1 := by rw [← hw1]; exact heap_size_alloc _ _
    rw [hw1] at hrow hrd ⊢
    have HROW := Lib.hid hrow
    have HRD := Lib.hid hrd
    have HB1 := Lib.hid hb1
    have HS1 := Lib.hid hs1
    clear hrow hrd hb1 hs1 hw1
    go_wp2_with (with_reducible refine wpList_copy_words rfl _ _ 78 78 rfl 106 Tryz.underlying78 infoWordSize _ _ _ _ _ _ rfl rfl w.heap.size 0 (List.replicate R 0) .u64 106 HROW.out xs (by simp [Nat.min_def]) (fun h => ⟨rfl, HRD.out⟩) (by rw [List.length_replicate]; omega) ?_)
    intro w2 HG2 hx2 hs2
    go_wp2_with fail
    go_ret
    have hov : over (List.replicate R 0) 0 xs = xs ++ (List.replicate R 0).drop xs.length := by simp [over]
    have hle : (xs ++ (List.replicate R 0).drop xs.length).length = R := by simp; omega
    have hrow2 := HG2.out
    rw [hov] at hrow2
    have ho := HO.out w2 _ hrow2 (by rw [hle]; omega)
    rw [hle] at ho
    exact ⟨_, _, rfl, ho, HB1.out.trans (hx2.below (by have := HS1.out; omega) (fun k hk => by omega)), by have := HS1.out; omega⟩

theorem getStack_here (w : World) (T : TypeId) : (w.alloc (.cells #[.pointer none] T)).heap[w.heap.size]? = some (.cells #[.pointer none] T (0, 0)) := heap_here w _
set_option maxRecDepth 100000 in
theorem stackFree_deferred (g : Nat) (u : FrameMode) (w : World) (hc : w.cell? ⟨g, 0, none⟩ = some (.pointer none)) :
    CallsD Tryz.prog 148 #[.pointer (some ⟨g, 0, none⟩)] u w fun e u' w' => u' = u ∧ (e = .returned (.tuple #[]) ∧ w' = w) := by
  go_enter_d Tryz.func148, Tryz.ntmps148
  go_wp2
  first | go_end0 | refine bodyPost_ret (results_none rfl _ _ _) rfl ?_
  first | exact rfl | exact ⟨rfl, rfl⟩ | exact ⟨rfl, rfl, rfl⟩
end Go.Proofs.YtapfolgiafnllaaGreatDoor

namespace Go.Proofs.YtapfolgiafnllaaGreatDoor
open Go.RowKit

theorem trimN_zeros (ds : List Nat) : ∃ k, ds = trimN ds ++ List.replicate k 0 := by
  have key : ∀ (n : Nat) (ds : List Nat), ds.length = n → ∃ k, ds = trimN ds ++ List.replicate k 0 := by
    intro n
    induction n with
    | zero => intro ds hn; exact ⟨0, by rw [List.length_eq_zero_iff.1 hn]; rfl⟩
    | succ n ih =>
      intro ds hn
      obtain ⟨q, x, rfl⟩ : ∃ q x, ds = q ++ [x] := by
        have hne : ds ≠ [] := by intro e; subst e; simp at hn
        rw [← List.dropLast_concat_getLast hne]
        exact ⟨_, _, rfl⟩
      rw [trimN_snoc]
      by_cases hx : x = 0
      · obtain ⟨k, hk⟩ := ih q (by simpa using hn)
        rw [if_pos hx]
        refine ⟨k + 1, ?_⟩
        rw [List.replicate_succ', ← List.append_assoc, ← hk, hx]
      · rw [if_neg hx]; exact ⟨0, by simp⟩
  exact key _ ds rfl
theorem chr_append (a b : List Nat) : chr (a ++ b) = chr b ++ chr a := by simp [chr]
theorem conv_text {ds : List Nat} {N R : Nat} (hd : ∀ d ∈ ds, d < 10) (hl : ds.length = R) (hv : N = valD 10 ds) : ∃ z, chr ds = List.replicate z 48 ++ chr (toD 10 N) ∧ z + (toD 10 N).length = R := by
  obtain ⟨k, hk⟩ := trimN_zeros ds
  have ht := trimN_toD (b := 10) (by decide) hd
  rw [ht, ← hv] at hk
  have h1 := congrArg List.length hk
  rw [List.length_append, List.length_replicate] at h1
  refine ⟨k, ?_, by omega⟩
  rw [hk, chr_append]
  congr 1
  simp [chr]
theorem chr_head {N : Nat} (h : N ≠ 0) : ∃ d t, chr (toD 10 N) = (48 + d) :: t ∧ d ≠ 0 ∧ d < 10 := by
  have hne : toD 10 N ≠ [] := fun e => h ((toD_nil_iff (by decide)).1 e)
  have hl := toD_last (b := 10) (by decide) N hne
  have hm := toD_lt (b := 10) (by decide) N _ (List.getLast_mem hne)
  refine ⟨_, chr (toD 10 N).dropLast, ?_, hl, hm⟩
  conv => lhs; rw [← List.dropLast_concat_getLast hne, chr_snoc]
theorem text_cells {neg : Bool} {ds : List Nat} (hne : ds ≠ []) (hd : ∀ d ∈ ds, d < 10) : Lib.byteCells (numText neg ds) = nums .u8 ((if neg = true then [45] else []) ++ chr ds) := by
  unfold numText
  rw [if_neg hne, Lib.byteCells_append]
  have e1 : Lib.byteCells (signText neg) = nums .u8 (if neg = true then [45] else []) := by cases neg <;> rfl
  have e2 : Lib.byteCells (ds.reverse.map fun d => UInt8.ofNat (48 + d)) = nums .u8 (chr ds) := by
    unfold Lib.byteCells nums chr
    rw [List.map_map, List.map_map]
    apply List.map_congr_left
    intro d hdm
    have := hd d (by simpa using hdm)
    simp
    omega
  rw [e1, e2]
  simp [nums]
theorem text_length {neg : Bool} {ds : List Nat} (hne : ds ≠ []) : (numText neg ds).length = (if neg = true then 1 else 0) + ds.length := by
  unfold numText
  rw [if_neg hne]
  cases neg <;> simp [signText] <;> omega

set_option maxRecDepth 100000 in
theorem getStack_walk (w : World) : Calls Tryz.prog 147 #[] w fun e w' => e = .returned (.pointer (some ⟨w.heap.size, 0, none⟩)) ∧ w' = w.alloc (.cells #[.pointer none] 181) := by
  go_enter Tryz.func147, Tryz.ntmps147
  go_wp2_with fail
  go_ret
  exact ⟨rfl, rfl⟩

def SkipRel (z : Nat) (iv : Value) : Prop := ∃ k : Nat, iv = .int .i64 k ∧ k ≤ z
/-- What itoa hands back: the text in new memory. -/
def ItoaPost (w : World) (l : List UInt8) (e : Ending) (w' : World) : Prop :=
  ∃ g o c, e = .returned (.slice (some ⟨g, o, none⟩) l.length c) ∧ l.length ≤ c ∧ c ≤ 1000 ∧ Rd w' (some ⟨g, o, none⟩) (Lib.byteCells l) ∧ Below w.heap.size w w'

set_option exponentiation.threshold 400 in
set_option maxRecDepth 100000 in
set_option maxHeartbeats 4000000 in
theorem itoaPos_walk (N : Nat) (A : Option Addr) (c : Nat) (w : World) (hc : (wds N).length ≤ c) (hm : c ≤ 9223372036854775807) (hl : natLen N ≤ 320) (hN : N ≠ 0) (hr : Rd w A (nums .u64 (wds N))) (hleaf : LeafIs w) :
    Calls Tryz.prog 122 #[.slice A (wds N).length c, .bool false, .int .i64 10] w (ItoaPost w (numText false (toD 10 N))) := by
  have hw5 : (wds N).length ≤ 5 := toD_length_le (by decide) 5 N (Nat.lt_of_lt_of_le ((natLen_lt_iff N 320).1 hl) (by decide))
  have hw0 : (wds N).length ≠ 0 := fun e => hN ((toD_nil_iff (by decide)).1 (List.length_eq_zero_iff.1 e))
  have hroom := room_digits hl
  have hli := logI_some ⟨natLen N, by omega⟩
  have ht := toInt_law _ _ hli.1 hli.2.1 hli.2.2.1
  have hqe : FloatKind.f64.format.div (floatOfInt FloatKind.f64 (natLen N)) 4614662735865160561 = some (logQ (natLen N)) := logQ_some ⟨natLen N, by omega⟩
  have hq := quo_law _ _ _ hqe
  obtain ⟨r, hrr⟩ : ∃ r : Nat, logI (natLen N) = r := ⟨(logI (natLen N)).toNat, by have := hli.2.1; simp only at this; omega⟩
  have hr100 : r ≤ 100 := by have := hli.2.2.1; simp only at this; omega
  simp only at ht
  rw [hrr] at ht hroom
  rw [Int.toNat_natCast] at hroom
  have hmk := run_make_row' (P := Tryz.prog) 23 5 (.int .u8 0) 1 Tryz.underlying23 infoByte rfl .i64 .i64 (r + 1) (by omega) (by omega)
  have ecast : ((r + 1 : Nat) : Int) = (r : Int) + 1 := by omega
  rw [ecast] at hmk
  have h4 : floatOfInt FloatKind.f64 10 = 4621819117588971520 := by kernel_rfl
  have b1 : bits BinOp.and IntKind.u64 10 (IntKind.u64.wrap (-10)) = 2 := by decide
  have HB := Lib.hid (natBitLen_walk N A c w hc hm (by omega) hr)
  have hset : ∀ w1, Below w.heap.size w w1 → Calls Tryz.prog 97 #[.slice none 0 0, .slice A (wds N).length c] w1 (OwnPost w1.heap.size w1 N) := fun w1 hb => setNew_walk A c N w1 hc hm (by omega) (hr.below hb)
  have HSET := Lib.hid hset
  have hdig := toD_lt (b := 10) (by decide) N
  have hdne : toD 10 N ≠ [] := fun e => hN ((toD_nil_iff (by decide)).1 e)
  have hdl : (toD 10 N).length ≤ r + 1 := toD_length_le (by decide) (r + 1) N hroom
  have HCH := Lib.hid (chr_head hN)
  have HTC := Lib.hid (text_cells (neg := false) hdne hdig)
  have HTL := Lib.hid (text_length (neg := false) hdne)
  have HRM : Hid (N < 10 ^ (r + 1)) := Lib.hid (Nat.lt_of_lt_of_le hroom (Nat.pow_le_pow_right (by decide) (by omega)))
  have HW0 := Lib.hid hw0
  have HN0 := Lib.hid hN
  have hlb : (((wds N).length : Int) == 0) = false := beq_eq_false_iff_ne.2 (by omega)
  clear hr hli hqe hrr hroom hset hdig hdne hw0 hN ecast
  go_enter_defers Tryz.func122, Tryz.ntmps122
  go_wp2_with fail
  refine HB.out.mono ?_
  rintro e w1 ⟨rfl, rfl⟩
  go_wp2_with fail
  refine (log2_10_walk w).mono ?_
  rintro e w1 ⟨rfl, rfl⟩
  go_wp2_with fail
  refine (getStack_walk _).mono ?_
  rintro e w1 ⟨rfl, rfl⟩
  have hs1 := heap_size_alloc w (.cells (madeCells #[.int .u8 0] (r + 1)) 5)
  rw [hs1]
  have hrowA : Row ((w.alloc (.cells (madeCells #[.int .u8 0] (r + 1)) 5)).alloc (.cells #[.pointer none] 181)) w.heap.size .u8 5 (List.replicate (r + 1) 0) := (row_made w .u8 (r + 1) 5).alloc _
  have hstkA : ((w.alloc (.cells (madeCells #[.int .u8 0] (r + 1)) 5)).alloc (.cells #[.pointer none] 181)).heap[w.heap.size + 1]? = some (.cells #[.pointer none] 181 (0, 0)) := (by have := heap_here (w.alloc (.cells (madeCells #[.int .u8 0] (r + 1)) 5)) (.cells #[.pointer none] 181); rw [hs1] at this; exact this)
  have hbA := below_a2 w (.cells (madeCells #[.int .u8 0] (r + 1)) 5) (.cells #[.pointer none] 181)
  have hsA : ((w.alloc (.cells (madeCells #[.int .u8 0] (r + 1)) 5)).alloc (.cells #[.pointer none] 181)).heap.size = w.heap.size + 1 + 1 := by rw [heap_size_alloc, heap_size_alloc]
  obtain ⟨wa, hwa⟩ : ∃ wa, (w.alloc (.cells (madeCells #[.int .u8 0] (r + 1)) 5)).alloc (.cells #[.pointer none] 181) = wa := ⟨_, rfl⟩
  rw [hwa] at hrowA hstkA hbA hsA ⊢
  have HRA := Lib.hid hrowA
  have HSA := Lib.hid hstkA
  have HBA := Lib.hid hbA
  have HZA := Lib.hid hsA
  have hlf := hleaf.below hbA
  clear hwa hs1 hrowA hstkA hbA hsA
  go_wp2_with fail
  refine (maxPow_walk 10 19 wa (by decide) (by decide) (by decide) (by decide) (by decide) (by decide)).mono ?_
  rintro e w2 ⟨rfl, rfl⟩
  go_wp2_with fail
  refine (divisors_walk _ (wds N).length wa (by omega) hlf).mono ?_
  rintro e w2 ⟨rfl, rfl⟩
  go_wp2_with fail
  refine (HSET.out wa HBA.out).mono ?_
  rintro e w2 ⟨A2, c2, rfl, hown, hb2, hs2⟩
  have HOW := Lib.hid hown
  have HB2 := Lib.hid hb2
  clear hown hb2
  go_wp2_with fail
  refine (conv_walk wa.heap.size w.heap.size (r + 1) A2 c2 _ N _ w2 HOW.out hs2 ((HRA.out.block HB2.out (by have := HZA.out; omega))) (by have := HZA.out; omega) (by omega) HRM.out).mono ?_
  rintro e w3 ⟨rfl, ds, hmem, hval⟩
  obtain ⟨hrow3, hlen3, hd3, hb3, hk3, hs3⟩ := hmem
  rw [List.replicate_zero, List.nil_append] at hrow3
  obtain ⟨z, hz1, hz2⟩ := conv_text hd3 (by omega) hval
  have hstk3 : w3.heap[w.heap.size + 1]? = some (.cells #[.pointer none] 181 (0, 0)) := (hk3 _ (by have := HZA.out; omega) (by omega)).trans ((HB2.out.block _ (by have := HZA.out; omega)).trans HSA.out)
  have hbw3 : Below w.heap.size w w3 := (HBA.out.trans (HB2.out.mono (by have := HZA.out; omega))).trans hb3
  rw [hz1] at hrow3
  obtain ⟨d, t, hdt, hd0, hd10⟩ := HCH.out
  have hct : t.length + 1 = (toD 10 N).length := by have := congrArg List.length hdt; rw [chr_length] at this; simpa using this.symm
  rw [hdt] at hrow3
  have HR3 := Lib.hid hrow3
  have HS3 := Lib.hid hstk3
  have HBW := Lib.hid hbw3
  have HDT := Lib.hid hdt
  clear hrow3 hstk3 hbw3 hdt hz1 hval hk3 hb3 hlen3 hd3
  go_wp2_with fail
  go_loop [7] (fun iv => SkipRel z iv) (fun iv => z - natOf iv)
  case atStart => exact ⟨0, rfl, Nat.zero_le _⟩
  case round =>
    obtain ⟨k, rfl, hk⟩ := hrel
    have hkR : (k : Int) < (r : Int) + 1 := by omega
    have hk0 : (0 : Int) ≤ (k : Int) := by omega
    by_cases hkz : k < z
    · have hcell : w3.cell? ⟨w.heap.size, k, none⟩ = some (.int .u8 48) := by
        have := HR3.out.cell (j := k) (by simp; omega)
        rw [List.getElem_append_left (by simpa using hkz)] at this
        simpa using this
      go_wp2_with fail
      exact ⟨⟨k + 1, by go_num, by omega⟩, by simp [natOf]; omega⟩
    · obtain rfl : k = z := by omega
      have hcell : w3.cell? ⟨w.heap.size, k, none⟩ = some (.int .u8 ((48 : Int) + d)) := by
        have := HR3.out.cell (j := k) (by simp)
        rw [List.getElem_append_right (by simp)] at this
        simpa using this
      have hdb : (((48 : Int) + d) == 48) = false := beq_eq_false_iff_ne.2 (by omega)
      have hrd := HR3.out.rd k
      rw [List.drop_left' (by simp)] at hrd
      have HRD := Lib.hid hrd
      clear hrd hkz
      go_wp2_with fail
      refine leaves_cons (f := 148) (args := #[.pointer (some ⟨w.heap.size + 1, 0, none⟩)]) (by simp) (by simp [go_sem]) ?_
      refine (stackFree_deferred _ .returning _ (one_cell HS3.out)).mono ?_
      rintro e u' w'' ⟨rfl, rfl, rfl⟩
      have e0 : (numText false (toD 10 N)).length = r + 1 - k := by rw [HTL.out]; simp; omega
      refine ⟨_, results_tmp rfl _ _ _, w.heap.size, k, r + 1 - k, ?_, ?_, by omega, ?_, HBW.out⟩
      · rw [e0]; rfl
      · rw [e0]; exact Nat.le_refl _
      · rw [HTC.out]
        simp only [Bool.false_eq_true, ↓reduceIte, List.nil_append]
        rw [HDT.out]
        exact HRD.out

set_option exponentiation.threshold 400 in
set_option maxRecDepth 100000 in
set_option maxHeartbeats 4000000 in
theorem itoaNeg_walk (N : Nat) (A : Option Addr) (c : Nat) (w : World) (hc : (wds N).length ≤ c) (hm : c ≤ 9223372036854775807) (hl : natLen N ≤ 320) (hN : N ≠ 0) (hr : Rd w A (nums .u64 (wds N))) (hleaf : LeafIs w) :
    Calls Tryz.prog 122 #[.slice A (wds N).length c, .bool true, .int .i64 10] w (ItoaPost w (numText true (toD 10 N))) := by
  have hw5 : (wds N).length ≤ 5 := toD_length_le (by decide) 5 N (Nat.lt_of_lt_of_le ((natLen_lt_iff N 320).1 hl) (by decide))
  have hw0 : (wds N).length ≠ 0 := fun e => hN ((toD_nil_iff (by decide)).1 (List.length_eq_zero_iff.1 e))
  have hroom := room_digits hl
  have hli := logI_some ⟨natLen N, by omega⟩
  have ht := toInt_law _ _ hli.1 hli.2.1 hli.2.2.1
  have hqe : FloatKind.f64.format.div (floatOfInt FloatKind.f64 (natLen N)) 4614662735865160561 = some (logQ (natLen N)) := logQ_some ⟨natLen N, by omega⟩
  have hq := quo_law _ _ _ hqe
  obtain ⟨r, hrr⟩ : ∃ r : Nat, logI (natLen N) = r := ⟨(logI (natLen N)).toNat, by have := hli.2.1; simp only at this; omega⟩
  have hr100 : r ≤ 100 := by have := hli.2.2.1; simp only at this; omega
  simp only at ht
  rw [hrr] at ht hroom
  rw [Int.toNat_natCast] at hroom
  have hmk := run_make_row' (P := Tryz.prog) 23 5 (.int .u8 0) 1 Tryz.underlying23 infoByte rfl .i64 .i64 (r + 2) (by omega) (by omega)
  have ecast : ((r + 2 : Nat) : Int) = (r : Int) + 1 + 1 := by omega
  rw [ecast] at hmk
  have h4 : floatOfInt FloatKind.f64 10 = 4621819117588971520 := by kernel_rfl
  have b1 : bits BinOp.and IntKind.u64 10 (IntKind.u64.wrap (-10)) = 2 := by decide
  have HB := Lib.hid (natBitLen_walk N A c w hc hm (by omega) hr)
  have hset : ∀ w1, Below w.heap.size w w1 → Calls Tryz.prog 97 #[.slice none 0 0, .slice A (wds N).length c] w1 (OwnPost w1.heap.size w1 N) := fun w1 hb => setNew_walk A c N w1 hc hm (by omega) (hr.below hb)
  have HSET := Lib.hid hset
  have hdig := toD_lt (b := 10) (by decide) N
  have hdne : toD 10 N ≠ [] := fun e => hN ((toD_nil_iff (by decide)).1 e)
  have hdl : (toD 10 N).length ≤ r + 1 := toD_length_le (by decide) (r + 1) N hroom
  have HCH := Lib.hid (chr_head hN)
  have HTC := Lib.hid (text_cells (neg := true) hdne hdig)
  have HTL := Lib.hid (text_length (neg := true) hdne)
  have HRM : Hid (N < 10 ^ (r + 2)) := Lib.hid (Nat.lt_of_lt_of_le hroom (Nat.pow_le_pow_right (by decide) (by omega)))
  have HW0 := Lib.hid hw0
  have HN0 := Lib.hid hN
  have hlb : (((wds N).length : Int) == 0) = false := beq_eq_false_iff_ne.2 (by omega)
  clear hr hli hqe hrr hroom hset hdig hdne hw0 hN ecast
  go_enter_defers Tryz.func122, Tryz.ntmps122
  go_wp2_with fail
  refine HB.out.mono ?_
  rintro e w1 ⟨rfl, rfl⟩
  go_wp2_with fail
  refine (log2_10_walk w).mono ?_
  rintro e w1 ⟨rfl, rfl⟩
  go_wp2_with fail
  refine (getStack_walk _).mono ?_
  rintro e w1 ⟨rfl, rfl⟩
  have hs1 := heap_size_alloc w (.cells (madeCells #[.int .u8 0] (r + 2)) 5)
  rw [hs1]
  have hrowA : Row ((w.alloc (.cells (madeCells #[.int .u8 0] (r + 2)) 5)).alloc (.cells #[.pointer none] 181)) w.heap.size .u8 5 (List.replicate (r + 2) 0) := (row_made w .u8 (r + 2) 5).alloc _
  have hstkA : ((w.alloc (.cells (madeCells #[.int .u8 0] (r + 2)) 5)).alloc (.cells #[.pointer none] 181)).heap[w.heap.size + 1]? = some (.cells #[.pointer none] 181 (0, 0)) := (by have := heap_here (w.alloc (.cells (madeCells #[.int .u8 0] (r + 2)) 5)) (.cells #[.pointer none] 181); rw [hs1] at this; exact this)
  have hbA := below_a2 w (.cells (madeCells #[.int .u8 0] (r + 2)) 5) (.cells #[.pointer none] 181)
  have hsA : ((w.alloc (.cells (madeCells #[.int .u8 0] (r + 2)) 5)).alloc (.cells #[.pointer none] 181)).heap.size = w.heap.size + 1 + 1 := by rw [heap_size_alloc, heap_size_alloc]
  obtain ⟨wa, hwa⟩ : ∃ wa, (w.alloc (.cells (madeCells #[.int .u8 0] (r + 2)) 5)).alloc (.cells #[.pointer none] 181) = wa := ⟨_, rfl⟩
  rw [hwa] at hrowA hstkA hbA hsA ⊢
  have HRA := Lib.hid hrowA
  have HSA := Lib.hid hstkA
  have HBA := Lib.hid hbA
  have HZA := Lib.hid hsA
  have hlf := hleaf.below hbA
  clear hwa hs1 hrowA hstkA hbA hsA
  go_wp2_with fail
  refine (maxPow_walk 10 19 wa (by decide) (by decide) (by decide) (by decide) (by decide) (by decide)).mono ?_
  rintro e w2 ⟨rfl, rfl⟩
  go_wp2_with fail
  refine (divisors_walk _ (wds N).length wa (by omega) hlf).mono ?_
  rintro e w2 ⟨rfl, rfl⟩
  go_wp2_with fail
  refine (HSET.out wa HBA.out).mono ?_
  rintro e w2 ⟨A2, c2, rfl, hown, hb2, hs2⟩
  have HOW := Lib.hid hown
  have HB2 := Lib.hid hb2
  clear hown hb2
  go_wp2_with fail
  refine (conv_walk wa.heap.size w.heap.size (r + 2) A2 c2 _ N _ w2 HOW.out hs2 ((HRA.out.block HB2.out (by have := HZA.out; omega))) (by have := HZA.out; omega) (by omega) HRM.out).mono ?_
  rintro e w3 ⟨rfl, ds, hmem, hval⟩
  obtain ⟨hrow3, hlen3, hd3, hb3, hk3, hs3⟩ := hmem
  rw [List.replicate_zero, List.nil_append] at hrow3
  obtain ⟨z, hz1, hz2⟩ := conv_text hd3 (by omega) hval
  have hstk3 : w3.heap[w.heap.size + 1]? = some (.cells #[.pointer none] 181 (0, 0)) := (hk3 _ (by have := HZA.out; omega) (by omega)).trans ((HB2.out.block _ (by have := HZA.out; omega)).trans HSA.out)
  have hbw3 : Below w.heap.size w w3 := (HBA.out.trans (HB2.out.mono (by have := HZA.out; omega))).trans hb3
  rw [hz1] at hrow3
  obtain ⟨d, t, hdt, hd0, hd10⟩ := HCH.out
  have hct : t.length + 1 = (toD 10 N).length := by have := congrArg List.length hdt; rw [chr_length] at this; simpa using this.symm
  rw [hdt] at hrow3
  have HR3 := Lib.hid hrow3
  have HS3 := Lib.hid hstk3
  have HBW := Lib.hid hbw3
  have HDT := Lib.hid hdt
  clear hrow3 hstk3 hbw3 hdt hz1 hval hk3 hb3 hlen3 hd3
  go_wp2_with fail
  go_loop [7] (fun iv => SkipRel z iv) (fun iv => z - natOf iv)
  case atStart => exact ⟨0, rfl, Nat.zero_le _⟩
  case round =>
    obtain ⟨k, rfl, hk⟩ := hrel
    have hkR : (k : Int) < (r : Int) + 1 + 1 := by omega
    have hk0 : (0 : Int) ≤ (k : Int) := by omega
    by_cases hkz : k < z
    · have hcell : w3.cell? ⟨w.heap.size, k, none⟩ = some (.int .u8 48) := by
        have := HR3.out.cell (j := k) (by simp; omega)
        rw [List.getElem_append_left (by simpa using hkz)] at this
        simpa using this
      go_wp2_with fail
      exact ⟨⟨k + 1, by go_num, by omega⟩, by simp [natOf]; omega⟩
    · obtain rfl : k = z := by omega
      have hcell : w3.cell? ⟨w.heap.size, k, none⟩ = some (.int .u8 ((48 : Int) + d)) := by
        have := HR3.out.cell (j := k) (by simp)
        rw [List.getElem_append_right (by simp)] at this
        simpa using this
      have hdb : (((48 : Int) + d) == 48) = false := beq_eq_false_iff_ne.2 (by omega)
      have hz0 : 1 ≤ k := by omega
      obtain ⟨k, rfl⟩ : ∃ k', k = k' + 1 := ⟨k - 1, by omega⟩
      have hcell2 : ∃ old : Nat, w3.cell? ⟨w.heap.size, k, none⟩ = some (.int .u8 old) := ⟨_, HR3.out.cell (j := k) (by simp; omega)⟩
      obtain ⟨old, hcell2⟩ := hcell2
      have hf := HR3.out.free k
      have hk1 : (0 : Int) ≤ (k : Int) := by omega
      have hkR2 : (k : Int) < (r : Int) + 1 + 1 := by omega
      have hrd := (HR3.out.set k 45).rd k
      have hst : ((List.replicate (k + 1) 48 ++ (48 + d) :: t).set k 45).drop k = 45 :: (48 + d) :: t := by
        rw [List.replicate_succ', List.append_assoc, List.set_append_right _ _ (by simp), List.drop_left' (by simp)]
        simp
      rw [hst] at hrd
      have HRD := Lib.hid hrd
      have ek : ((k + 1 : Nat) : Int) = (k : Int) + 1 := by omega
      rw [ek] at hkR hk0 ⊢
      clear hrd hkz hst hz0
      go_wp2_with fail
      refine leaves_cons (f := 148) (args := #[.pointer (some ⟨w.heap.size + 1, 0, none⟩)]) (by simp) (by simp [go_sem]) ?_
      refine (stackFree_deferred _ .returning _ (one_cell ((one_other (a := ⟨w.heap.size, k, none⟩) (by simp)).trans HS3.out))).mono ?_
      rintro e u' w'' ⟨rfl, rfl, rfl⟩
      have e0 : (numText true (toD 10 N)).length = r + 2 - k := by rw [HTL.out]; simp; omega
      refine ⟨_, results_tmp rfl _ _ _, w.heap.size, k, r + 2 - k, ?_, ?_, by omega, ?_, HBW.out.setCell (p := ⟨w.heap.size, k, none⟩) (Nat.le_refl _) _⟩
      · rw [e0]; rfl
      · rw [e0]; exact Nat.le_refl _
      · rw [HTC.out]
        simp only [↓reduceIte, List.cons_append, List.nil_append]
        rw [HDT.out]
        exact HRD.out
end Go.Proofs.YtapfolgiafnllaaGreatDoor
