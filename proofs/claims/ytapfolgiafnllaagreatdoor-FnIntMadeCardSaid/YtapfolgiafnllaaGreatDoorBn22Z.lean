/-
  The reference's product.
-/
import Derived.Test.YtapfolgiafnllaaGreatDoorBn11Z
import Derived.StillTailTactics
import Derived.Test.YtapfolgiafnllaaGreatDoorSetStrZ
namespace Go.Proofs.YtapfolgiafnllaaGreatDoor
open Go.RowKit

theorem infoInt : (Tryz.prog.info? 3).map (fun i => (i.zero, i.size, i.bytes)) = some (some (.int .i64 0), 1, 8) := by kernel_rfl
/-- Mul's memory: the products' row, at block g. -/
def MulMem (w : World) (x y : Int) (A B : Option Addr) (n c m d : Nat) (outs : List Nat) (wr : World) : Prop :=
  Row wr (w.heap.size + 1 + 1 + 1) .i64 3 outs ∧ outs.length = n + m ∧ Below w.heap.size w wr ∧
    wr.heap[w.heap.size]? = some (.cells #[.bool (decide (x < 0)), .slice A n c] 25 (0, 0)) ∧
    wr.heap[w.heap.size + 1]? = some (.cells #[.bool (decide (y < 0)), .slice B m d] 25 (0, 0)) ∧
    wr.heap[w.heap.size + 1 + 1]? = some (.cells #[.bool false, .slice none 0 0] 25 (0, 0))
def OutRel (w : World) (x y : Int) (A B : Option Addr) (c d : Nat) (ds es : List Nat) (i : Value) (wr : World) : Prop :=
  ∃ (k : Nat) (outs : List Nat), i = .int .i64 k ∧ k ≤ ds.length ∧ MulMem w x y A B ds.length c es.length d outs wr ∧ valD 10 outs = valD 10 (ds.take k) * valD 10 es ∧ ∀ o ∈ outs, o ≤ 81000 * k
def InRel (w : World) (x y : Int) (A B : Option Addr) (c d : Nat) (ds es : List Nat) (i : Nat) (j : Value) (wr : World) : Prop :=
  ∃ (k : Nat) (outs : List Nat), j = .int .i64 k ∧ k ≤ es.length ∧ MulMem w x y A B ds.length c es.length d outs wr ∧ valD 10 outs = valD 10 (ds.take i) * valD 10 es + 10 ^ i * (ds.getD i 0 * valD 10 (es.take k)) ∧ ∀ o ∈ outs, o ≤ 81000 * i + 81 * k

theorem MulMem.step {w wr : World} {x y : Int} {A B : Option Addr} {n c m d : Nat} {outs : List Nat} (h : MulMem w x y A B n c m d outs wr) (p r : Nat) :
    MulMem w x y A B n c m d (outs.set p r) (wr.drew.setCell ⟨w.heap.size + 1 + 1 + 1, p, none⟩ (.int .i64 (r : Int))) := by
  obtain ⟨hrow, hlen, hb, hk0, hk1, hk2⟩ := h
  refine ⟨Row.set (w := wr.drew) hrow p r, by simpa using hlen, (hb.drew).setCell (p := ⟨w.heap.size + 1 + 1 + 1, p, none⟩) (by show w.heap.size ≤ w.heap.size + 1 + 1 + 1; omega) _, ?_, ?_, ?_⟩
  · exact (one_other (w := wr.drew) (by show w.heap.size ≠ w.heap.size + 1 + 1 + 1; omega)).trans hk0
  · exact (one_other (w := wr.drew) (by show w.heap.size + 1 ≠ w.heap.size + 1 + 1 + 1; omega)).trans hk1
  · exact (one_other (w := wr.drew) (by show w.heap.size + 1 + 1 ≠ w.heap.size + 1 + 1 + 1; omega)).trans hk2
theorem MulMem.kept {w wr w2 : World} {x y : Int} {A B : Option Addr} {n c m d : Nat} {outs : List Nat} (h : MulMem w x y A B n c m d outs wr) (hb : Below w.heap.size w w2)
    (hk : ∀ b, b < w.heap.size + 1 + 1 + 1 + 1 → b < wr.heap.size → w2.heap[b]? = wr.heap[b]?) : MulMem w x y A B n c m d outs w2 := by
  obtain ⟨hrow, hlen, hb0, hk0, hk1, hk2⟩ := h
  exact ⟨(hk _ (by omega) hrow.lt).trans hrow, hlen, hb, (hk _ (by omega) (iter_lt hk0)).trans hk0, (hk _ (by omega) (iter_lt hk1)).trans hk1, (hk _ (by omega) (iter_lt hk2)).trans hk2⟩
theorem car_val {qs outs : List Nat} {k cr o V : Nat} (hk : k < outs.length) (ho : outs[k] = o) (hl : qs.length = k) (h : valD 10 qs + 10 ^ k * (cr + valD 10 (outs.drop k)) = V) :
    valD 10 (qs ++ [(cr + o) % 10]) + 10 ^ (k + 1) * ((cr + o) / 10 + valD 10 (outs.drop (k + 1))) = V := by
  subst hl ho
  rw [← h, valD_append, List.drop_eq_getElem_cons hk, Nat.pow_succ]
  simp only [valD, Nat.mul_zero, Nat.add_zero]
  rw [Nat.add_assoc, Nat.mul_assoc, ← Nat.mul_add]
  congr 2
  have := Nat.mod_add_div (cr + outs[qs.length]) 10
  omega

theorem car_end {qs outs : List Nat} {k cr n m x y : Nat} (hq : ∀ q ∈ qs, q < 10) (hk : k = outs.length) (_hl : qs.length = k) (hlen : outs.length = n + m) (hx : x < 10 ^ n) (hy : y < 10 ^ m)
    (h : valD 10 qs + 10 ^ k * (cr + valD 10 (outs.drop k)) = x * y) : trimN qs = toD 10 (x * y) := by
  rw [hk, List.drop_of_length_le (Nat.le_refl _), ← hk] at h
  have h1 : x * y < 10 ^ k := by
    rw [hk, hlen, Nat.pow_add]
    exact Nat.mul_lt_mul'' hx hy
  have h2 : cr = 0 := by
    cases cr with
    | zero => rfl
    | succ c =>
      have : 10 ^ k * 1 ≤ 10 ^ k * (c + 1 + valD 10 []) := Nat.mul_le_mul_left _ (by omega)
      omega
  subst h2
  rw [trimN_toD (by decide) hq, ← h]
  simp [valD]
theorem mul_sign (x y : Int) (ds : List Nat) (h : ds = toD 10 (x.natAbs * y.natAbs)) : ((!(decide (x < 0) == decide (y < 0))) && !ds.isEmpty) = decide (x * y < 0) := by
  rw [h, toD_isEmpty (by decide)]
  by_cases hx : x < 0
  · rw [decide_eq_true hx]
    by_cases hy : y < 0
    · rw [decide_eq_true hy]
      have := Int.mul_pos_of_neg_of_neg hx hy
      rw [decide_eq_false (show ¬ x * y < 0 by omega)]
      rfl
    · rw [decide_eq_false hy]
      by_cases h0 : y = 0
      · subst h0; simp
      · have := Int.mul_neg_of_neg_of_pos hx (show 0 < y by omega)
        have h1 : ¬ x.natAbs * y.natAbs = 0 := by rw [Nat.mul_eq_zero]; omega
        rw [decide_eq_true this, decide_eq_false h1]
        rfl
  · rw [decide_eq_false hx]
    by_cases hy : y < 0
    · rw [decide_eq_true hy]
      by_cases h0 : x = 0
      · subst h0; simp
      · have := Int.mul_neg_of_pos_of_neg (show 0 < x by omega) hy
        have h1 : ¬ x.natAbs * y.natAbs = 0 := by rw [Nat.mul_eq_zero]; omega
        rw [decide_eq_true this, decide_eq_false h1]
        rfl
    · rw [decide_eq_false hy]
      have := Int.mul_nonneg (show 0 ≤ x by omega) (show 0 ≤ y by omega)
      rw [decide_eq_false (show ¬ x * y < 0 by omega)]
      rfl
theorem mul_val {ds es outs : List Nat} {i j p q r o u v : Nat} (hi : i < ds.length) (hj : j < es.length) (hp : i + j = p) (hpl : p < outs.length) (ho : outs[p] = o) (hu : ds[i] = u) (hv : es[j] = v) (hq : u * v = q) (hr : o + q = r)
    (hval : valD 10 outs = valD 10 (ds.take i) * valD 10 es + 10 ^ i * (ds.getD i 0 * valD 10 (es.take j))) :
    valD 10 (outs.set p r) = valD 10 (ds.take i) * valD 10 es + 10 ^ i * (ds.getD i 0 * valD 10 (es.take (j + 1))) := by
  subst hr hq ho hu hv hp
  rw [valD_set _ _ _ hpl, hval, valD_take_succ hj]
  have e : ds.getD i 0 = ds[i] := by simp [List.getD_eq_getElem?_getD, List.getElem?_eq_getElem hi]
  rw [e, Nat.pow_add, Nat.mul_add ds[i], Nat.mul_add (10 ^ i), Nat.add_assoc]
  congr 2
  rw [Nat.mul_assoc, ← Nat.mul_assoc (10 ^ j), Nat.mul_comm (10 ^ j) ds[i], Nat.mul_assoc]
theorem set_le {outs : List Nat} {p r K : Nat} (h : ∀ o ∈ outs, o ≤ K) (hr : r ≤ K) : ∀ o ∈ outs.set p r, o ≤ K := by
  intro o ho
  rcases List.mem_or_eq_of_mem_set ho with h1 | rfl
  · exact h o h1
  · exact hr

theorem heap_at (w : World) (o : Obj) {k : Nat} (h : w.heap.size = k) : (w.alloc o).heap[k]? = some o := by subst h; exact heap_here w o
theorem row_at (w : World) (k : IntKind) (n : Nat) (T : TypeId) {g : Nat} (h : w.heap.size = g) : Row (w.alloc (.cells (madeCells #[.int k 0] n) T)) g k T (List.replicate n 0) := by subst h; exact row_made w k n T
theorem mul_row_end {ds es outs : List Nat} {i j : Nat} (hi : i < ds.length) (hj : ¬ j < es.length)
    (hval : valD 10 outs = valD 10 (ds.take i) * valD 10 es + 10 ^ i * (ds.getD i 0 * valD 10 (es.take j))) : valD 10 outs = valD 10 (ds.take (i + 1)) * valD 10 es := by
  have e : ds.getD i 0 = ds[i] := by simp [List.getD_eq_getElem?_getD, List.getElem?_eq_getElem hi]
  rw [hval, valD_take_succ hi, e, List.take_of_length_le (l := es) (by omega), Nat.add_mul, Nat.mul_assoc]
/-- The carrying: i sums have been carried. -/
def CarRel (w : World) (x y : Int) (A B : Option Addr) (n c m d : Nat) (outs : List Nat) (V : Nat) (dv cv iv : Value) (wr : World) : Prop :=
  ∃ (k cr : Nat) (qs : List Nat), iv = .int .i64 k ∧ k ≤ outs.length ∧ cv = .int .i64 cr ∧ cr ≤ 100000000 * 2 ∧ qs.length = k ∧ (∀ q ∈ qs, q < 10) ∧ wr.ownsRow (w.heap.size + 1 + 1 + 1 + 1) 5 1 dv k (u8s qs) ∧
    MulMem w x y A B n c m d outs wr ∧ valD 10 qs + 10 ^ k * (cr + valD 10 (outs.drop k)) = V

set_option maxRecDepth 100000 in
set_option maxHeartbeats 1000000 in
theorem mul_walk (v u : Value) (x y : Int) (w : World) (hv : IsNum w v x) (hu : IsNum w u y) (hlx : (toD 10 x.natAbs).length ≤ 1000) (hly : (toD 10 y.natAbs).length ≤ 1000) :
    Calls Tryz.prog 18 #[v, u] w (IsPost w (x * y)) := by
  obtain ⟨A, c, rfl, hc, hcm, hr⟩ := hv.open
  obtain ⟨B, d, rfl, hd, hdm, hs⟩ := hu.open
  have HR := Lib.hid hr
  have HS := Lib.hid hs
  clear hr hs hv hu
  obtain ⟨ds, hds⟩ : ∃ ds, toD 10 x.natAbs = ds := ⟨_, rfl⟩
  obtain ⟨es, hes⟩ : ∃ es, toD 10 y.natAbs = es := ⟨_, rfl⟩
  rw [hds] at hlx hc HR ⊢
  rw [hes] at hly hd HS ⊢
  have HDS := Lib.hid hds
  have HES := Lib.hid hes
  clear hds hes
  have hmk := run_make_row' (P := Tryz.prog) 59 3 (.int .i64 0) 8 Tryz.underlying59 infoInt rfl .i64 .i64 (ds.length + es.length) (by omega) (by omega)
  rw [Int.natCast_add] at hmk
  go_enter Tryz.func18, Tryz.ntmps18
  go_wp2_with fail
  go_loopw [6] (fun i wr => OutRel w x y A B c d ds es i wr) (fun i _ => idxOf ds.length i)
  case atStart =>
    refine ⟨0, List.replicate (ds.length + es.length) 0, rfl, Nat.zero_le _, ⟨row_at _ _ _ _ (by rw [heap_size_alloc, heap_size_alloc, heap_size_alloc]), by simp, ?_, ?_, ?_, ?_⟩, by rw [valD_replicate]; simp [valD], fun o ho => by rw [List.mem_replicate] at ho; omega⟩
    · exact bt (below_a2 _ _ _) (below_a2 _ _ _)
    · exact heap_old (heap_old (heap_old (heap_here _ _)))
    · exact heap_old (heap_old (heap_at _ _ (by rw [heap_size_alloc])))
    · exact heap_old (heap_at _ _ (by rw [heap_size_alloc, heap_size_alloc]))
  case round =>
    obtain ⟨i, outs, rfl, hi, hmem, hval, hbd⟩ := hrel
    obtain ⟨hrow, hlen, hb, hk0, hk1, hk2⟩ := hmem
    by_cases hlt : i < ds.length
    · have hlt' : (i : Int) < ds.length := by omega
      have c01 := num_cell1 hk0
      have c11 := num_cell1 hk1
      have HH := Lib.hid (show MulMem w x y A B ds.length c es.length d outs wr from ⟨hrow, hlen, hb, hk0, hk1, hk2⟩)
      have HV := Lib.hid hval
      have HB := Lib.hid hbd
      clear hrow hlen hb hk0 hk1 hk2 hval hbd
      go_wp2_with fail
      go_loopw [7] (fun j wr => InRel w x y A B c d ds es i j wr) (fun j _ => idxOf es.length j)
      case atStart =>
        exact ⟨0, outs, rfl, Nat.zero_le _, HH.out, by rw [HV.out]; simp [valD], fun o ho => by have := HB.out o ho; omega⟩
      case round =>
        obtain ⟨j, outs, rfl, hj, hmem, hval, hbd⟩ := hrel
        obtain ⟨hrow, hlen, hb, hk0, hk1, hk2⟩ := hmem
        have HH2 := Lib.hid (show MulMem w x y A B ds.length c es.length d outs wr from ⟨hrow, hlen, hb, hk0, hk1, hk2⟩)
        have HV2 := Lib.hid hval
        have HB2 := Lib.hid hbd
        clear hval hbd c01 c11
        have c01 := num_cell1 hk0
        have c11 := num_cell1 hk1
        by_cases hlt2 : j < es.length
        · have hlt2' : (j : Int) < es.length := by omega
          obtain ⟨p, hp⟩ : ∃ p, i + j = p := ⟨_, rfl⟩
          have hpl : p < outs.length := by omega
          have hpi : (p : Int) < (ds.length : Int) + es.length := by omega
          have hp0 : (i : Int) + j = p := by omega
          have cR := hrow.cell hpl
          have fR := hrow.free p
          obtain ⟨a, rfl, ha⟩ := rd_cell (HR.out.below hb) hlt
          obtain ⟨b, rfl, hb2⟩ := rd_cell (HS.out.below hb) hlt2
          obtain ⟨u, hu⟩ : ∃ u, ds[i] = u := ⟨_, rfl⟩
          obtain ⟨v, hv⟩ : ∃ v, es[j] = v := ⟨_, rfl⟩
          obtain ⟨o, ho⟩ : ∃ o, outs[p] = o := ⟨_, rfl⟩
          rw [hu] at ha
          rw [hv] at hb2
          rw [ho] at cR
          clear hrow hk0 hk1 hk2 hlen hb
          have hu9 : u < 10 := by have := toD_lt (b := 10) (by decide) x.natAbs u (by rw [HDS.out, ← hu]; exact List.getElem_mem _); exact this
          have hv9 : v < 10 := by have := toD_lt (b := 10) (by decide) y.natAbs v (by rw [HES.out, ← hv]; exact List.getElem_mem _); exact this
          have ho9 : o ≤ 81000 * i + 81 * j := HB2.out o (by rw [← ho]; exact List.getElem_mem _)
          have huv : u * v ≤ 81 := by
            have := Nat.mul_le_mul (show u ≤ 9 by omega) (show v ≤ 9 by omega)
            exact this
          obtain ⟨q, hq⟩ : ∃ q, u * v = q := ⟨_, rfl⟩
          obtain ⟨r, hr⟩ : ∃ r, o + q = r := ⟨_, rfl⟩
          have hqi : (u : Int) * v = q := by rw [← hq, Int.natCast_mul]
          have hri : (o : Int) + q = r := by omega
          have w1 : IntKind.i64.wrap (p : Int) = p := by rw [IntKind.wrap_i64]; omega
          have w2 : IntKind.i64.wrap (q : Int) = q := by rw [IntKind.wrap_i64]; omega
          have w3 : IntKind.i64.wrap (r : Int) = r := by rw [IntKind.wrap_i64]; omega
          have hp0' : (0 : Int) ≤ (p : Int) := by omega
          go_wp2_with fail
          go_still_tail 21, (by kernel_rfl)
          change wpList _ _ _ _ _ wr.drew
          go_wp2_with fail
          exact ⟨⟨j + 1, outs.set p r, by go_num, by omega, HH2.out.step p r, mul_val hlt hlt2 hp hpl ho hu hv hq hr HV2.out, set_le (fun o ho => by have := HB2.out o ho; omega) (by omega)⟩, by simp [idxOf]; omega⟩
        · have hlt2' : ¬ (j : Int) < es.length := by omega
          clear hrow hk0 hk1 hk2 hlen hb
          go_wp2_with fail
          exact ⟨⟨i + 1, outs, by go_num, by omega, HH2.out, mul_row_end hlt hlt2 HV2.out, fun o ho => by have := HB2.out o ho; omega⟩, by simp [idxOf]; omega⟩
    · have hlt' : ¬ (i : Int) < ds.length := by omega
      have c01 := num_cell1 hk0
      have c11 := num_cell1 hk1
      have HH := Lib.hid (show MulMem w x y A B ds.length c es.length d outs wr from ⟨hrow, hlen, hb, hk0, hk1, hk2⟩)
      have hV : valD 10 outs = x.natAbs * y.natAbs := by
        rw [hval, List.take_of_length_le (by omega), ← HDS.out, ← HES.out, valD_toD (by decide), valD_toD (by decide)]
      have HV := Lib.hid hV
      have HB := Lib.hid hbd
      have HL := Lib.hid hlen
      clear hrow hlen hb hk0 hk1 hk2 hval hbd hV
      obtain ⟨i0, hi0, hz0, hz1, hz2⟩ := info_parts infoByte
      go_wp2_with fail
      go_loopw [8, 9, 10] (fun dv cv iv wr => CarRel w x y A B ds.length c es.length d outs (x.natAbs * y.natAbs) dv cv iv wr) (fun _ _ i _ => idxOf outs.length i)
      case atStart =>
        exact ⟨0, 0, [], rfl, Nat.zero_le _, rfl, by omega, rfl, by simp, World.ownsRow_nil _ _ _ _, HH.out, by simp [valD, HV.out]⟩
      case round =>
        obtain ⟨k, cr, qs, rfl, hk, rfl, hcr, hql, hq9, hown, hmem, hval⟩ := hrel
        obtain ⟨hrow, hlen, hb, hk0, hk1, hk2⟩ := hmem
        have HM2 := Lib.hid (show MulMem w x y A B ds.length c es.length d outs wr from ⟨hrow, hlen, hb, hk0, hk1, hk2⟩)
        have HV2 := Lib.hid hval
        have HQ := Lib.hid hq9
        clear hval hq9 c01 c11
        by_cases hlt2 : k < outs.length
        · have hki : (k : Int) < (ds.length : Int) + es.length := by have := HL.out; omega
          obtain ⟨o, ho⟩ : ∃ o, outs[k] = o := ⟨_, rfl⟩
          have cR := hrow.cell hlt2
          rw [ho] at cR
          have ho9 : o ≤ 81000000 := by have := HB.out o (by rw [← ho]; exact List.getElem_mem _); omega
          clear hrow hk0 hk1 hk2 hlen
          go_wp2_with (at_builtin; refine wpList_append_own _ rfl _ _ 23 rfl (w.heap.size + 1 + 1 + 1 + 1) 5 i0 (.int .u8 0) 1 1 Tryz.underlying23 hi0 hz0 hz1 hz2 rfl (by decide) _ _ _ rfl (hown.alloc _) ⟨wr.heap.size, 0, none⟩ 1 1 [.int .u8 (((cr : Int) + o) % 10)] rfl rfl ?c1 ?c2 ?c3 ?c4 ?c5 ?_)
          case c1 => exact one_new _ _ _
          case c2 => intro u hu; simp at hu; subst hu; rfl
          case c3 => unfold maxLen; omega
          case c4 => omega
          case c5 => have := hb.size; have := iter_lt HM2.out.1; simp; omega
          intro v' w2 hown' hgrow _
          have hb2 : Below w.heap.size w w2 := (hb.alloc hb.size _).grown hgrow (by have := hb.size; rw [heap_size_alloc]; omega) (fun k hk => by have := (hown.lt k hk).1; omega)
          have hm2 : MulMem w x y A B ds.length c es.length d outs w2 := HM2.out.kept hb2 (fun b hb1 hb3 => by
            rw [hgrow.block _ (by rw [heap_size_alloc]; omega) (fun e => by have := (hown.lt _ e.symm).1; omega), Below.heap_alloc _ _ _ hb3])
          have HM3 := Lib.hid hm2
          clear hm2
          go_wp2_with fail
          refine ⟨⟨k + 1, (cr + o) / 10, qs ++ [(cr + o) % 10], by go_num, by omega, by go_num, by omega, by simp [hql], ?_, ?_, HM3.out, car_val hlt2 ho hql HV2.out⟩, by simp [idxOf]; omega⟩
          · intro q hq
            rcases List.mem_append.1 hq with h | h
            · exact HQ.out q h
            · simp at h; omega
          · rw [u8s_append]
            exact hown'
        · have hkl : k = outs.length := by omega
          have hki : ¬ (k : Int) < (ds.length : Int) + es.length := by have := HL.out; omega
          obtain ⟨Q, q, rfl, hq1, hq2, hqr⟩ := own_rd hown (by rw [u8s_length, hql])
          have HQR := Lib.hid hqr
          have c00 := num_cell0 hk0
          have c10 := num_cell0 hk1
          have hxl : x.natAbs < 10 ^ ds.length := by rw [← HDS.out]; exact toD_lt_pow (by decide) _
          have hyl : y.natAbs < 10 ^ es.length := by rw [← HES.out]; exact toD_lt_pow (by decide) _
          have htr := car_end HQ.out hkl hql HL.out hxl hyl HV2.out
          have hsg := mul_sign x y _ htr
          have HTR := Lib.hid htr
          have HSG := Lib.hid hsg
          subst hql
          clear hrow hk0 hk1 hk2 hlen hkl hqr htr hsg hxl hyl
          go_wp2_with fail
          refine (signed_walk _ Q q qs _ hq1 hq2 HQR.out).mono ?_
          rw [HSG.out, HTR.out]
          rintro e w1 ⟨v1, rfl, ⟨F, f, rfl, hf1, hf2, hfr⟩, hb1⟩
          have HFR := Lib.hid hfr
          have hk2 := (hb1.block _ (iter_lt HM2.out.2.2.2.2.2)).trans HM2.out.2.2.2.2.2
          have c20 := num_cell0 hk2
          have c21 := num_cell1 hk2
          have f20 := one_free hk2 0
          have f21 := one_free hk2 1
          have HK2 := Lib.hid hk2
          clear hk2 hfr
          go_wp2_with fail
          have k0 := cells_set (cells_set HK2.out 0 (.bool (decide (x * y < 0)))) 1 (.slice F (toD 10 (x.natAbs * y.natAbs)).length f)
          have d0 := num_cell0 k0
          have d1 := num_cell1 k0
          have hab : (x * y).natAbs = x.natAbs * y.natAbs := Int.natAbs_mul x y
          have hb3 := bt hb hb1
          exact bodyPost_ret (v := .agg #[.bool (decide (x * y < 0)), .slice F (toD 10 (x.natAbs * y.natAbs)).length f]) (by simp [results, Tryz.results18, go_sem, d0, d1]) rfl
            ⟨_, rfl, ⟨F, f, by rw [hab], by rw [hab]; exact hf1, hf2, by rw [hab]; exact rd_set2 HK2.out HFR.out⟩,
              (hb3.setCell (p := ⟨w.heap.size + 1 + 1, 0, none⟩) (by show w.heap.size ≤ w.heap.size + 1 + 1; omega) _).setCell (p := ⟨w.heap.size + 1 + 1, 1, none⟩) (by show w.heap.size ≤ w.heap.size + 1 + 1; omega) _⟩
end Go.Proofs.YtapfolgiafnllaaGreatDoor

/-
  (*big.Int).SetString in base 0, of a decimal text.
-/
namespace Go.Proofs.YtapfolgiafnllaaGreatDoor
open Go.RowKit

def ScanZRel (w1 : World) (p : Addr) (zv fv cnt ev pv iv chv dv nv dpv : Value) (wr : World) : Prop :=
  zv = .slice none 0 0 ∧ fv = .bool false ∧ cnt = .int .i64 1 ∧ ev = .iface 117 (.pointer (some p)) ∧ pv = .int .i32 48 ∧ iv = .bool false ∧ chv = .int .u8 0 ∧ dv = .int .u64 0 ∧ nv = .int .i64 0 ∧ dpv = .int .i64 (-1) ∧ wr = w1
set_option maxRecDepth 100000 in
set_option maxHeartbeats 2000000 in
/-- The text 0. -/
theorem scanZero_walk (g : Nat) (p : Addr) (w : World) (hr : ReaderAt w g [48] 0) (hp : EofIs w p) (hg : g ≠ 2) :
    Calls Tryz.prog 179 #[.slice none 0 0, .iface 115 (.pointer (some ⟨g, 0, none⟩)), .int .i64 0, .bool false] w
      fun e w' => e = .returned (.tuple #[.slice none 0 0, .int .i64 10, .int .i64 1, .nilIface]) ∧ ReaderAt w' g [48] 1 ∧ EofIs w' p ∧ Ext (fun b => b = g) w w' := by
  have m1 := met_read g
  have m2 := met_unread g
  have hn0 : nextErr [48] 0 p = .nilIface := rfl
  have hn1 : nextErr [48] 1 p = .iface 117 (.pointer (some p)) := rfl
  go_enter Tryz.func179, Tryz.ntmps179
  go_wp2_with fail
  refine (readByte_walk g [48] 0 p _ hr (by decide) hp hg (by decide)).mono ?_
  rw [hn0]
  rintro e w1 ⟨rfl, hr1, hx1, hs1⟩
  have hp1 := hp.ext hx1 (fun h => hg h.symm)
  have HX1 := Lib.hid hx1
  have hr1' : ReaderAt w1 g [48] 1 := hr1
  clear hx1 hr1
  go_wp2_with fail
  refine (readByte_walk g [48] 1 p _ hr1' (by decide) hp1 hg (by decide)).mono ?_
  rw [hn1]
  rintro e w2 ⟨rfl, hr2, hx2, hs2⟩
  have hp2 := hp1.ext hx2 (fun h => hg h.symm)
  have he2 : w2.cell? ⟨2, 0, none⟩ = some (.iface 117 (.pointer (some p))) := hp2
  have hee := eof_eq p
  have HX2 := Lib.hid hx2
  have HR2 := Lib.hid (show ReaderAt w2 g [48] 1 from hr2)
  clear hx2 hr2
  go_wp2_with fail
  refine (maxPow_walk 10 19 w2 (by decide) (by decide) (by decide) (by decide) (by decide) (by decide)).mono ?_
  rintro e w3 ⟨rfl, rfl⟩
  go_wp2_with fail
  go_loopw [0, 3, 10, 11, 13, 14, 15, 20, 21, 22] (fun zv fv cnt ev pv iv chv dv nv dpv wr => ScanZRel w2 p zv fv cnt ev pv iv chv dv nv dpv wr) (fun _ _ _ _ _ _ _ _ _ _ _ => 0)
  case atStart => exact ⟨rfl, rfl, rfl, rfl, rfl, rfl, rfl, rfl, rfl, rfl, rfl⟩
  case round =>
    obtain ⟨rfl, rfl, rfl, rfl, rfl, rfl, rfl, rfl, rfl, rfl, rfl⟩ := hrel
    go_wp2_with fail
    exact bodyPost_ret (v := .tuple #[.slice none 0 0, .int .i64 10, .int .i64 1, .nilIface]) (by simp [results, Tryz.results179, go_sem]) rfl
      ⟨rfl, HR2.out, hp2, HX1.out.trans HX2.out⟩

theorem scanAny0_walk (g : Nat) (l : List UInt8) (o : Nat) (p : Addr) (w : World) (hr : ReaderAt w g l o) (hl : l.length ≤ 1000) (hp : EofIs w p) (hg : g ≠ 2) (hgB : g < w.heap.size)
    (ho : o < l.length) (hd : allDig (l.drop o) = true) (hnz : (l.drop o).head? ≠ some 48 ∨ (o = 0 ∧ l = [48])) :
    Calls Tryz.prog 179 #[.slice none 0 0, .iface 115 (.pointer (some ⟨g, 0, none⟩)), .int .i64 0, .bool false] w
      fun e w' => ∃ A c n, e = .returned (.tuple #[.slice A (wds (decV (l.drop o))).length c, .int .i64 10, .int .i64 n, .nilIface]) ∧ OwnNat w.heap.size w' A c (decV (l.drop o)) ∧ ReaderAt w' g l l.length ∧ EofIs w' p ∧ Ext (fun b => b = g) w w' := by
  rcases hnz with hnz | ⟨rfl, rfl⟩
  · exact scan0_walk g l o p w hr hl hp hg hgB ho (fun e => hnz (by rw [List.head?_drop, List.getElem?_eq_getElem ho, e])) hd
  · refine (scanZero_walk g p w hr hp hg).mono ?_
    rintro e w1 ⟨rfl, h1, h2, h3⟩
    have e0 : decV (([48] : List UInt8).drop 0) = 0 := by decide
    rw [e0]
    exact ⟨none, 0, 1, by rw [wds_zero]; rfl, .inl ⟨rfl, rfl, rfl⟩, h1, h2, h3⟩
/-- A text that the reference reads has no nought ahead, but for 0 itself. -/
theorem read_nz {l : List UInt8} {c : UInt8} (hok : readOk l = true) (hneg : readNeg l = (c == 45)) (hb : readBody l = l.drop (if c = 45 then 1 else 0)) (ho : (if c = 45 then 1 else 0) < l.length) : (l.drop (if c = 45 then 1 else 0)).head? ≠ some 48 ∨ ((if c = 45 then 1 else 0) = 0 ∧ l = [48]) := by
  rw [← hb]
  by_cases hh : (readBody l).head? = some 48
  · right
    unfold readOk at hok
    rw [Bool.and_eq_true, Bool.and_eq_true] at hok
    obtain ⟨⟨_, h2⟩, h3⟩ := hok
    have hlen : (readBody l).length = 1 := by
      have h4 : (readBody l).length = l.length - (if c = 45 then 1 else 0) := by rw [hb, List.length_drop]
      have h5 : ¬ 1 < (readBody l).length := by
        intro h6
        rw [decide_eq_true h6, hh] at h2
        exact absurd h2 (by decide)
      omega
    obtain ⟨x, hx⟩ := List.length_eq_one_iff.1 hlen
    have hx2 : x = 48 := by rw [hx] at hh; simpa using hh
    subst hx2
    have hc : ¬ c = 45 := by
      intro hc
      rw [hneg, hx, beq_iff_eq.2 hc] at h3
      exact absurd h3 (by decide)
    rw [if_neg hc] at hb ⊢
    refine ⟨rfl, ?_⟩
    rw [hx, List.drop_zero] at hb
    exact hb.symm
  · exact .inl hh

set_option maxRecDepth 100000 in
set_option maxHeartbeats 1000000 in
theorem intScan0_walk (g gz : Nat) (l : List UInt8) (p : Addr) (w : World) (hok : readOk l = true) (hl : l.length ≤ 1000) (hr : ReaderAt w g l 0) (hz : IntNew w gz) (hp : EofIs w p) (hg : g ≠ 2) (hgz : gz ≠ 2) (hne : g ≠ gz) :
    Calls Tryz.prog 144 #[.pointer (some ⟨gz, 0, none⟩), .iface 115 (.pointer (some ⟨g, 0, none⟩)), .int .i64 0] w
      fun e w' => e = .returned (.tuple #[.pointer (some ⟨gz, 0, none⟩), .int .i64 10, .nilIface]) ∧ IntAt w' gz (readZ l) ∧ ReaderAt w' g l l.length ∧ EofIs w' p ∧ Ext (Fld g gz) w w' := by
  obtain ⟨c, t, hlt, hc43, hneg, hbody, hdig, ho⟩ := read_scan hok
  have hab := read_abs l
  have hsgn := read_lt hok
  have c0 := num_cell0 hz
  have c1 := num_cell1 hz
  have HZ := Lib.hid hz
  have HS : Hid (Calls Tryz.prog 178 #[.iface 115 (.pointer (some ⟨g, 0, none⟩))] w (ReadPost w g l (if c = 45 then 1 else 0) (.tuple #[.bool (readNeg l), .nilIface]))) := by
    apply Lib.hid
    rw [hneg, hlt]
    rw [hlt] at hr hl
    exact scanSign_walk g c t p w hr (by omega) hp hg hc43
  have hnz := read_nz hok hneg hbody ho
  obtain ⟨o, hoo⟩ : ∃ o, (if c = 45 then 1 else 0) = o := ⟨_, rfl⟩
  rw [hoo] at HS hbody ho hnz
  rw [hbody] at hab hsgn hdig
  clear hoo hneg hlt hbody
  obtain ⟨sg, hsg⟩ : ∃ sg, readNeg l = sg := ⟨_, rfl⟩
  rw [hsg] at HS hsgn
  clear hsg
  obtain ⟨N, hN⟩ : ∃ N, decV (l.drop o) = N := ⟨_, rfl⟩
  rw [hN] at hab hsgn
  have HAB := Lib.hid hab
  have HSG := Lib.hid hsgn
  have HN := Lib.hid hN
  clear hab hsgn hN
  go_enter Tryz.func144, Tryz.ntmps144
  go_wp2_with fail
  refine HS.out.mono ?_
  rintro e w1 ⟨rfl, hr1, hx1, hs1⟩
  have hz1 : IntNew w1 gz := (hx1.block gz (iter_lt hz) (fun e => hne e.symm)).trans hz
  have c01 := num_cell0 hz1
  have c11 := num_cell1 hz1
  have hp1 := hp.ext hx1 (fun h => hg h.symm)
  clear c0 c1
  go_wp2_with fail
  refine (scanAny0_walk g l o p w1 hr1 hl hp1 hg (by rw [hs1]; exact hr.lt) ho hdig hnz).mono ?_
  rw [HN.out]
  rintro e w2 ⟨A, c2, n, rfl, hown, hr2, hp2, hx2⟩
  have hz2 : IntNew w2 gz := (hx2.block gz (iter_lt hz1) (fun e => hne e.symm)).trans hz1
  have HZ2 := Lib.hid hz2
  have c02 := num_cell0 hz2
  have c12 := num_cell1 hz2
  have f02 := one_free hz2 0
  have f12 := one_free hz2 1
  have HR2 := Lib.hid hr2
  have HO := Lib.hid hown
  have hcN : (wds N).length ≤ c2 := hown.room.1
  have HX := Lib.hid (show Ext (Fld g gz) w w2 from (hx1.mono (fun _ _ h => Or.inl h)).trans (hx2.mono (fun _ _ h => Or.inl h)))
  have hgw : gz < w1.heap.size := by rw [hs1]; exact iter_lt hz
  clear hr2 hown hz1 hz2 hx1 hx2
  have key : ∀ b : Bool, decide (readZ l < 0) = b → IntAt ((w2.setCell ⟨gz, 1, none⟩ (.slice A (wds N).length c2)).setCell ⟨gz, 0, none⟩ (.bool b)) gz (readZ l) ∧
      ReaderAt ((w2.setCell ⟨gz, 1, none⟩ (.slice A (wds N).length c2)).setCell ⟨gz, 0, none⟩ (.bool b)) g l l.length ∧
      EofIs ((w2.setCell ⟨gz, 1, none⟩ (.slice A (wds N).length c2)).setCell ⟨gz, 0, none⟩ (.bool b)) p ∧
      Ext (Fld g gz) w ((w2.setCell ⟨gz, 1, none⟩ (.slice A (wds N).length c2)).setCell ⟨gz, 0, none⟩ (.bool b)) := fun b hb =>
    ⟨IntAt.put HZ2.out HAB.out hb hcN (by have := HO.out.room; omega) HO.out.wd (fun a ha => by have := HO.out.ge a ha; omega), (HR2.out.other _ (by exact hne)).other _ (by exact hne), (hp2.other _ (by exact Ne.symm hgz)).other _ (by exact Ne.symm hgz),
      (HX.out.setCell (p := ⟨gz, 1, none⟩) (fun _ => Or.inr rfl) _).setCell (p := ⟨gz, 0, none⟩) (fun _ => Or.inr rfl) _⟩
  have KEY := Lib.hid key
  clear key
  by_cases h0 : 0 < (wds N).length
  · have hb : decide (readZ l < 0) = sg := by rw [HSG.out, decide_eq_true h0]; rfl
    have HB := Lib.hid hb
    clear hb
    go_wp2_with fail
    exact bodyPost_ret (v := .tuple #[.pointer (some ⟨gz, 0, none⟩), .int .i64 10, .nilIface]) (by simp [results, Tryz.results144, go_sem]) rfl ⟨rfl, KEY.out sg HB.out⟩
  · have hb : decide (readZ l < 0) = false := by rw [HSG.out, decide_eq_false h0]; rfl
    have HB := Lib.hid hb
    clear hb
    go_wp2_with fail
    exact bodyPost_ret (v := .tuple #[.pointer (some ⟨gz, 0, none⟩), .int .i64 10, .nilIface]) (by simp [results, Tryz.results144, go_sem]) rfl ⟨rfl, KEY.out false HB.out⟩
set_option maxRecDepth 100000 in
set_option maxHeartbeats 1000000 in
theorem setFrom0_walk (g gz : Nat) (l : List UInt8) (p : Addr) (w : World) (hok : readOk l = true) (hl : l.length ≤ 1000) (hr : ReaderAt w g l 0) (hz : IntNew w gz) (hp : EofIs w p) (hg : g ≠ 2) (hgz : gz ≠ 2) (hne : g ≠ gz) :
    Calls Tryz.prog 118 #[.pointer (some ⟨gz, 0, none⟩), .iface 115 (.pointer (some ⟨g, 0, none⟩)), .int .i64 0] w
      fun e w' => e = .returned (.tuple #[.pointer (some ⟨gz, 0, none⟩), .bool true]) ∧ IntAt w' gz (readZ l) ∧ Ext (Fld g gz) w w' := by
  have m1 := met_read g
  have hnq := eof_neq p
  go_enter Tryz.func118, Tryz.ntmps118
  go_wp2_with fail
  refine (intScan0_walk g gz l p w hok hl hr hz hp hg hgz hne).mono ?_
  rintro e w1 ⟨rfl, hi1, hr1, hp1, hx1⟩
  have he1 : w1.cell? ⟨2, 0, none⟩ = some (.iface 117 (.pointer (some p))) := hp1
  have HI := Lib.hid hi1
  have HX := Lib.hid hx1
  go_wp2_with fail
  have hnx : nextErr l l.length p = .iface 117 (.pointer (some p)) := if_neg (Nat.lt_irrefl _)
  have hR := readByte_walk g l l.length p w1 hr1 (by omega) hp1 hg (Nat.le_refl _)
  rw [hnx] at hR
  have HRB := Lib.hid hR
  have HR1 := Lib.hid hr1
  clear hR hnx hr1 hi1 hx1
  refine HRB.out.mono ?_
  rintro e w2 ⟨rfl, hr2, hx2, hs2⟩
  have he2 : w2.cell? ⟨2, 0, none⟩ = some (.iface 117 (.pointer (some p))) := hp1.ext hx2 (fun h => hg h.symm)
  have HX2 := Lib.hid hx2
  clear hr2 hx2
  go_wp2_with fail
  exact bodyPost_ret (v := .tuple #[.pointer (some ⟨gz, 0, none⟩), .bool true]) (by simp [results, Tryz.results118, go_sem]) rfl
    ⟨rfl, HI.out.ext HX2.out (fun h => hne h.symm) (fun A hA hn a ha => reader_words HR1.out hA hn a ha), HX.out.trans (HX2.out.mono fun _ _ h => Or.inl h)⟩

set_option maxRecDepth 100000 in
set_option maxHeartbeats 1000000 in
theorem setString0_walk (gz : Nat) (l : List UInt8) (p : Addr) (w : World) (hok : readOk l = true) (hl : l.length ≤ 1000) (hz : IntNew w gz) (hp : EofIs w p) (hgz : gz ≠ 2) :
    Calls Tryz.prog 92 #[.pointer (some ⟨gz, 0, none⟩), .string (S l), .int .i64 0] w
      fun e w' => e = .returned (.tuple #[.pointer (some ⟨gz, 0, none⟩), .bool true]) ∧ IntAt w' gz (readZ l) ∧ Ext (fun b => b = gz) w w' := by
  go_enter Tryz.func92, Tryz.ntmps92
  go_wp2_with fail
  refine (newReader_walk l w).mono ?_
  rintro e w1 ⟨rfl, hr1, hb1⟩
  have hz1 : IntNew w1 gz := (hb1.block gz (iter_lt hz)).trans hz
  have hlt := iter_lt hz
  have hp1 := hp.below hb1
  have hplt := hp.lt
  obtain ⟨g, hg⟩ : ∃ g, w.heap.size = g := ⟨_, rfl⟩
  rw [hg] at hr1 ⊢
  have HG := Lib.hid hg
  clear hg
  go_wp2_with fail
  refine (setFrom0_walk g gz l p w1 hok hl hr1 hz1 hp1 (by have := HG.out; omega) hgz (by have := HG.out; omega)).mono ?_
  rintro e w2 ⟨rfl, hi2, hx2⟩
  go_wp2_with fail
  go_ret2
  refine ⟨rfl, hi2, (Ext.of_below hb1).trans' hx2 (fun i hi h => ?_)⟩
  rcases h with h | h
  · have := HG.out; omega
  · exact h

end Go.Proofs.YtapfolgiafnllaaGreatDoor
