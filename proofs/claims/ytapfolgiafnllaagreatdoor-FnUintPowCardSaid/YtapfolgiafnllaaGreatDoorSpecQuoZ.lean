/-
  The reference's QuoRem.
-/
import Derived.Test.YtapfolgiafnllaaGreatDoorSpecSubZ
import Derived.Test.YtapfolgiafnllaaGreatDoorSpecFitsZ
import Derived.Laws.AppendOwnNone
namespace Go.Proofs.YtapfolgiafnllaaGreatDoor
open Go.RowKit

theorem div_digit10 {N d y : Nat} (hy : 0 < y) : (N * 10 + d) / y = (N / y) * 10 + ((N % y) * 10 + d) / y ∧ (N * 10 + d) % y = ((N % y) * 10 + d) % y := by
  have h := Nat.div_add_mod N y
  obtain ⟨q, hq⟩ : ∃ q, N / y = q := ⟨_, rfl⟩
  obtain ⟨r, hr⟩ : ∃ r, N % y = r := ⟨_, rfl⟩
  rw [hq, hr] at h ⊢
  have e : N * 10 + d = (r * 10 + d) + y * (q * 10) := by
    have h2 : (y * q + r) * 10 = N * 10 := by rw [h]
    rw [Nat.add_mul, Nat.mul_assoc] at h2
    omega
  rw [e, Nat.add_mul_div_left _ _ hy, Nat.add_mul_mod_self_left]
  exact ⟨by omega, rfl⟩
theorem valD10_drop {xs : List Nat} {j : Nat} (h : j < xs.length) : valD 10 (xs.drop j) = valD 10 (xs.drop (j + 1)) * 10 + xs[j] := by
  rw [List.drop_eq_getElem_cons h]
  simp only [valD]
  omega
theorem tdivAbs (x y : Int) : (x.tdiv y).natAbs = x.natAbs / y.natAbs := Int.natAbs_tdiv x y
theorem tdiv_sgn {x y : Int} : ((!(decide (x < 0) == decide (y < 0))) && !(toD 10 (x.natAbs / y.natAbs)).isEmpty) = decide (x.tdiv y < 0) := by
  rw [toD_isEmpty (by decide)]
  obtain ⟨a, ha⟩ : ∃ a, x.natAbs = a := ⟨_, rfl⟩
  obtain ⟨b, hb⟩ : ∃ b, y.natAbs = b := ⟨_, rfl⟩
  have e : (a : Int).tdiv b = ((a / b : Nat) : Int) := rfl
  rw [ha, hb]
  have hx : x = a ∨ x = -(a : Int) := by omega
  have hy : y = b ∨ y = -(b : Int) := by omega
  by_cases h : a / b = 0
  · rw [decide_eq_true h]
    have : (x.tdiv y).natAbs = 0 := by rw [tdivAbs, ha, hb, h]
    rw [decide_eq_false (show ¬ x.tdiv y < 0 by omega)]
    simp
  · rw [decide_eq_false h]
    have ha0 : a ≠ 0 := by rintro rfl; exact h (Nat.zero_div _)
    have hb0 : b ≠ 0 := by rintro rfl; exact h (Nat.div_zero _)
    have hq : (0 : Int) < ((a / b : Nat) : Int) := by have := Nat.pos_of_ne_zero h; omega
    rcases hx with rfl | rfl <;> rcases hy with rfl | rfl
    · rw [e, decide_eq_false (by omega), decide_eq_false (by omega), decide_eq_false (by omega)]; rfl
    · rw [Int.tdiv_neg, e, decide_eq_false (by omega), decide_eq_true (by omega), decide_eq_true (by omega)]; rfl
    · rw [Int.neg_tdiv, e, decide_eq_true (by omega), decide_eq_false (by omega), decide_eq_true (by omega)]; rfl
    · rw [Int.neg_tdiv, Int.tdiv_neg, Int.neg_neg, e, decide_eq_true (by omega), decide_eq_true (by omega), decide_eq_false (by omega)]; rfl
theorem tmodAbs (x y : Int) : (x.tmod y).natAbs = x.natAbs % y.natAbs := Int.natAbs_tmod x y
theorem tmod_sgn {x y : Int} : (decide (x < 0) && !(toD 10 (x.natAbs % y.natAbs)).isEmpty) = decide (x.tmod y < 0) := by
  rw [toD_isEmpty (by decide)]
  have h := tmodAbs x y
  by_cases hx : x < 0
  · rw [decide_eq_true hx]
    have h2 : 0 ≤ (-x).tmod y := Int.tmod_nonneg y (by omega)
    rw [Int.neg_tmod] at h2
    by_cases h0 : x.natAbs % y.natAbs = 0
    · rw [decide_eq_true h0, decide_eq_false (by omega)]; rfl
    · rw [decide_eq_false h0, decide_eq_true (by omega)]; rfl
  · rw [decide_eq_false hx]
    have h2 : 0 ≤ x.tmod y := Int.tmod_nonneg y (by omega)
    rw [decide_eq_false (show ¬ x.tmod y < 0 by omega)]
    rfl

theorem FreshDig.open {B : Nat} {w : World} {v : Value} {n : Nat} (h : FreshDig B w v n) : ∃ A q, v = .slice A (toD 10 n).length q ∧ (toD 10 n).length ≤ q ∧ q ≤ 9223372036854775807 ∧ Rd w A (u8s (toD 10 n)) := by
  rcases h with ⟨rfl, rfl⟩ | ⟨a, q, rfl, h1, h2, h3, _⟩
  · exact ⟨none, 0, by rw [toD_zero]; rfl, by rw [toD_zero]; decide, by decide, by rw [toD_zero]; exact .inl rfl⟩
  · exact ⟨some a, q, rfl, h1, h2, h3⟩
theorem FreshDig.below {B : Nat} {w w' : World} {v : Value} {n : Nat} (h : FreshDig B w v n) (hb : Below w.heap.size w w') : FreshDig B w' v n := by
  rcases h with h | ⟨a, q, rfl, h1, h2, h3, h4⟩
  · exact .inl h
  · exact .inr ⟨a, q, rfl, h1, h2, h3.below hb, h4⟩
theorem FreshDig.low {B B' : Nat} {w : World} {v : Value} {n : Nat} (h : FreshDig B w v n) (hB : B' ≤ B) : FreshDig B' w v n := by
  rcases h with h | ⟨a, q, rfl, h1, h2, h3, h4⟩
  · exact .inl h
  · exact .inr ⟨a, q, rfl, h1, h2, h3, Nat.le_trans hB h4⟩
theorem FreshDig.other {B : Nat} {w : World} {v : Value} {n : Nat} (h : FreshDig B w v n) {p : Addr} (hp : p.block < B) (u : Value) : FreshDig B (w.setCell p u) v n := by
  rcases h with h | ⟨a, q, rfl, h1, h2, h3, h4⟩
  · exact .inl h
  · exact .inr ⟨a, q, rfl, h1, h2, h3.other u (fun b hb => by injection hb with hb; subst hb; omega), h4⟩

/-- QuoRem's memory. -/
structure QrMem (w : World) (nx ny : Bool) (A C : Option Addr) (n c m d : Nat) (qs : List Nat) (wr : World) : Prop where
  bx : wr.heap[w.heap.size]? = some (.cells #[.bool nx, .slice A n c] 25 (0, 0))
  yb : wr.heap[w.heap.size + 1]? = some (.cells #[.bool ny, .slice C m d] 25 (0, 0))
  r0 : Blank wr (w.heap.size + 1 + 1)
  r1 : Blank wr (w.heap.size + 1 + 1 + 1)
  row : Row wr (w.heap.size + 1 + 1 + 1 + 1) .u8 5 qs
  below : Below w.heap.size w wr
theorem QrMem.grow {w wr w2 : World} {nx ny : Bool} {A C : Option Addr} {n c m d : Nat} {qs : List Nat} (h : QrMem w nx ny A C n c m d qs wr) (hb : Below wr.heap.size wr w2) : QrMem w nx ny A C n c m d qs w2 :=
  ⟨(hb.block _ (iter_lt h.bx)).trans h.bx, (hb.block _ (iter_lt h.yb)).trans h.yb, h.r0.below hb, h.r1.below hb, h.row.below hb, bt h.below hb⟩
theorem QrMem.put {w wr : World} {nx ny : Bool} {A C : Option Addr} {n c m d : Nat} {qs : List Nat} (h : QrMem w nx ny A C n c m d qs wr) (j v : Nat) : QrMem w nx ny A C n c m d (qs.set j v) (wr.setCell ⟨w.heap.size + 1 + 1 + 1 + 1, j, none⟩ (.int .u8 (v : Int))) :=
  ⟨(one_other (by show w.heap.size ≠ w.heap.size + 1 + 1 + 1 + 1; omega)).trans h.bx, (one_other (by show w.heap.size + 1 ≠ w.heap.size + 1 + 1 + 1 + 1; omega)).trans h.yb,
   (one_other (by show w.heap.size + 1 + 1 ≠ w.heap.size + 1 + 1 + 1 + 1; omega)).trans h.r0, (one_other (by show w.heap.size + 1 + 1 + 1 ≠ w.heap.size + 1 + 1 + 1 + 1; omega)).trans h.r1, h.row.set j v,
   h.below.setCell (p := ⟨w.heap.size + 1 + 1 + 1 + 1, j, none⟩) (by show w.heap.size ≤ w.heap.size + 1 + 1 + 1 + 1; omega) _⟩
theorem QrMem.drew {w wr : World} {nx ny : Bool} {A C : Option Addr} {n c m d : Nat} {qs : List Nat} (h : QrMem w nx ny A C n c m d qs wr) : QrMem w nx ny A C n c m d qs wr.drew :=
  ⟨h.bx, h.yb, h.r0, h.r1, h.row, h.below.drew⟩
/-- The digits from k on have been divided. -/
def QrRel (w : World) (nx ny : Bool) (A C : Option Addr) (xs : List Nat) (c m d Y : Nat) (rv iv : Value) (wr : World) : Prop :=
  ∃ (k : Nat) (qs : List Nat), iv = .int .i64 ((k : Int) - 1) ∧ k ≤ xs.length ∧ qs.length = xs.length - k ∧ (∀ q ∈ qs, q < 10) ∧ QrMem w nx ny A C xs.length c m d (List.replicate k 0 ++ qs) wr ∧
    valD 10 qs = valD 10 (xs.drop k) / Y ∧ FreshDig (w.heap.size + 1 + 1 + 1 + 1 + 1) wr rv (valD 10 (xs.drop k) % Y)
/-- Of one digit t times the divisor has been taken. -/
def QiRel (w : World) (nx ny : Bool) (A C : Option Addr) (n c m d Y D j : Nat) (qs : List Nat) (rv : Value) (wr : World) : Prop :=
  ∃ (t R : Nat), R + Y * t = D ∧ QrMem w nx ny A C n c m d (List.replicate j 0 ++ t :: qs) wr ∧ FreshDig (w.heap.size + 1 + 1 + 1 + 1 + 1) wr rv R
def qiM (_rv : Value) : Nat := 0
def qiMeas (g j : Nat) (wr : World) : Nat := match wr.cell? ⟨g, j, none⟩ with
  | some (.int _ t) => (10 - t).toNat
  | _ => 0
theorem qiMeas_at {g j : Nat} {wr : World} {k : IntKind} {t : Nat} (h : wr.cell? ⟨g, j, none⟩ = some (.int k (t : Int))) : qiMeas g j wr = 10 - t := by
  unfold qiMeas
  rw [h]
  show ((10 : Int) - t).toNat = 10 - t
  omega
theorem rep_len (j t : Nat) (qs : List Nat) : (List.replicate j 0 ++ t :: qs).length = j + 1 + qs.length := by simp; omega
theorem rep_get (j t : Nat) (qs : List Nat) (h : j < (List.replicate j 0 ++ t :: qs).length) : (List.replicate j 0 ++ t :: qs)[j] = t := by simp
theorem rep_set (j t v : Nat) (qs : List Nat) : (List.replicate j 0 ++ t :: qs).set j v = List.replicate j 0 ++ v :: qs := by simp
theorem rep_succ (j : Nat) (qs : List Nat) : List.replicate (j + 1) 0 ++ qs = List.replicate j 0 ++ 0 :: qs := by
  rw [show j + 1 = j + 1 from rfl, List.replicate_succ', List.append_assoc]; rfl
def Qr2Post (w : World) (x y : Int) (e : Ending) (w' : World) : Prop := ∃ v u, e = .returned (.tuple #[v, u]) ∧ IsNum w' v (x.tdiv y) ∧ IsNum w' u (x.tmod y) ∧ Below w.heap.size w w'
theorem own_one (w : World) (d : Int) : (w.alloc (.cells #[.int .u8 d] 5)).ownsRow w.heap.size 5 1 (.slice (some ⟨w.heap.size, 0, none⟩) 1 1) 1 [.int .u8 d] :=
  ⟨rfl, .inr ⟨w.heap.size, 1, _, rfl, Nat.le_refl _, heap_here _ _, Nat.le_refl _, by unfold maxLen; omega, rfl, rfl⟩⟩

theorem wpList_append_pre {ops : Array Oper} {rest : List Oper} {o : Oper} {a : Act} {Q : Exit → Act → World → Prop} (hgd : o.guard = none) (s x : Operand)
    (ho : o.op = .call { callee := .builtin .append, args := #[s, x], argTypes := #[23, 23] }) (t : Nat) (wr : World) (rv : Value) (R B : Nat)
    (hs : a.eval s = .slice (some ⟨wr.heap.size, 0, none⟩) 1 1) (hx : a.eval x = rv) (hfd : FreshDig B wr rv R) (hlen : (toD 10 R).length ≤ 1000)
    (h : ∀ v' w', w'.ownsRow wr.heap.size 5 1 v' (1 + (toD 10 R).length) (u8s (t :: toD 10 R)) → Below wr.heap.size wr w' → wpList Tryz.prog ops Q rest (a.put o.dst v') w') :
    wpList Tryz.prog ops Q (o :: rest) a (wr.alloc (.cells #[.int .u8 (t : Int)] 5)) := by
  obtain ⟨i0, hi0, hz0, hz1, hz2⟩ := info_parts infoByte
  rcases hfd with ⟨rfl, rfl⟩ | ⟨ra, q, rfl, h1, h2, h3, h4⟩
  · refine wpList_append_own_none hgd s x 23 ho wr.heap.size 5 i0 1 Tryz.underlying23 hi0 _ 1 [.int .u8 (t : Int)] hs (own_one wr t) hx ?_
    rw [← hs]
    refine h _ _ ?_ (below_a1 _ _)
    rw [hs, toD_zero]
    exact own_one wr t
  · refine wpList_append_own _ hgd s x 23 ho wr.heap.size 5 i0 (.int .u8 0) 1 1 Tryz.underlying23 hi0 hz0 hz1 hz2 rfl (by decide) _ 1 [.int .u8 (t : Int)] hs (own_one wr t) ra _ q (u8s (toD 10 R)) hx (by rw [u8s_length, Nat.mul_one]) ?_ ?_ ?_ ?_ ?_ ?_
    · rcases h3.below (below_a1 wr (.cells #[.int .u8 (t : Int)] 5)) with h5 | ⟨b, hb, h5⟩
      · intro j u hu; rw [h5] at hu; simp at hu
      · injection hb with hb; subst hb; exact h5
    · intro u hu
      obtain ⟨d, _, rfl⟩ := List.mem_map.1 hu
      rfl
    · unfold maxLen; omega
    · omega
    · rw [heap_size_alloc]; omega
    · intro v' w' hown hgrow _
      exact h v' w' hown ((below_a1 wr _).grown hgrow (by rw [heap_size_alloc]; omega) (fun k hk => ((own_one wr t).lt k hk).1))
theorem trim_pre {t R : Nat} (ht : t < 10) : trimN (t :: toD 10 R) = toD 10 (t + 10 * R) := by
  rw [trimN_toD (b := 10) (by decide) (fun d hd => by
    rcases List.mem_cons.1 hd with rfl | h
    · exact ht
    · exact toD_lt (by decide) _ _ h)]
  show toD 10 (t + 10 * valD 10 (toD 10 R)) = _
  rw [valD_toD (by decide)]
/-- The end of QuoRem: its results' variables are there. -/
structure QeM (w w' : World) : Prop where
  below : Below w.heap.size w w'
  b2 : ∃ x C n c, w'.heap[w.heap.size + 1 + 1]? = some (.cells #[.bool x, .slice C n c] 25 (0, 0))
  b3 : ∃ x C n c, w'.heap[w.heap.size + 1 + 1 + 1]? = some (.cells #[.bool x, .slice C n c] 25 (0, 0))
theorem qem_drew {w w1 : World} {u v : Value} (h : w1.cell? ⟨w.heap.size, 0, none⟩ = some u ∧ w1.cell? ⟨w.heap.size + 1, 0, none⟩ = some v ∧ QeM w w1) : w1.drew.cell? ⟨w.heap.size, 0, none⟩ = some u ∧ w1.drew.cell? ⟨w.heap.size + 1, 0, none⟩ = some v ∧ QeM w w1.drew :=
  ⟨h.1, h.2.1, h.2.2.below.drew, h.2.2.b2, h.2.2.b3⟩
theorem QeM.grow {w w1 w2 : World} (h : QeM w w1) (k : Below w1.heap.size w1 w2) : QeM w w2 := by
  obtain ⟨h1, ⟨x, C, n, c, h2⟩, ⟨x', C', n', c', h3⟩⟩ := h
  exact ⟨bt h1 k, ⟨x, C, n, c, (k.block _ (iter_lt h2)).trans h2⟩, ⟨x', C', n', c', (k.block _ (iter_lt h3)).trans h3⟩⟩
theorem qem_grow {w w1 w2 : World} {u v : Value} (h : w1.cell? ⟨w.heap.size, 0, none⟩ = some u ∧ w1.cell? ⟨w.heap.size + 1, 0, none⟩ = some v ∧ QeM w w1) (k : Below w1.heap.size w1 w2) : w2.cell? ⟨w.heap.size, 0, none⟩ = some u ∧ w2.cell? ⟨w.heap.size + 1, 0, none⟩ = some v ∧ QeM w w2 :=
  ⟨(k.cell (by exact World.block_lt_of_cell? w1 _ h.1)).trans h.1, (k.cell (by exact World.block_lt_of_cell? w1 _ h.2.1)).trans h.2.1, h.2.2.grow k⟩
theorem qem_set2 {w w1 : World} {u v : Value} {y : Bool} {D : Option Addr} {p q : Nat} (h : w1.cell? ⟨w.heap.size, 0, none⟩ = some u ∧ w1.cell? ⟨w.heap.size + 1, 0, none⟩ = some v ∧ QeM w w1) :
    ((w1.setCell ⟨w.heap.size + 1 + 1, 0, none⟩ (.bool y)).setCell ⟨w.heap.size + 1 + 1, 1, none⟩ (.slice D p q)).cell? ⟨w.heap.size, 0, none⟩ = some u ∧ ((w1.setCell ⟨w.heap.size + 1 + 1, 0, none⟩ (.bool y)).setCell ⟨w.heap.size + 1 + 1, 1, none⟩ (.slice D p q)).cell? ⟨w.heap.size + 1, 0, none⟩ = some v ∧
    QeM w ((w1.setCell ⟨w.heap.size + 1 + 1, 0, none⟩ (.bool y)).setCell ⟨w.heap.size + 1 + 1, 1, none⟩ (.slice D p q)) := by
  obtain ⟨h1, h2, h3, ⟨x, C, n, c, h4⟩, ⟨x', C', n', c', h5⟩⟩ := h
  have e : ∀ b : Nat, b ≠ w.heap.size + 1 + 1 → ((w1.setCell ⟨w.heap.size + 1 + 1, 0, none⟩ (.bool y)).setCell ⟨w.heap.size + 1 + 1, 1, none⟩ (.slice D p q)).heap[b]? = w1.heap[b]? := fun b hb => (one_other (by exact hb)).trans (one_other (by exact hb))
  exact ⟨(World.cell?_of_block (e _ (by show w.heap.size ≠ w.heap.size + 1 + 1; omega))).trans h1, (World.cell?_of_block (e _ (by show w.heap.size + 1 ≠ w.heap.size + 1 + 1; omega))).trans h2,
    (h3.setCell (p := ⟨w.heap.size + 1 + 1, 0, none⟩) (by show w.heap.size ≤ w.heap.size + 1 + 1; omega) _).setCell (p := ⟨w.heap.size + 1 + 1, 1, none⟩) (by show w.heap.size ≤ w.heap.size + 1 + 1; omega) _, ⟨y, D, p, q, cells_set (cells_set h4 0 _) 1 _⟩, ⟨x', C', n', c', (e _ (by omega)).trans h5⟩⟩
theorem qem_set3 {w w1 : World} {u v : Value} {y : Bool} {D : Option Addr} {p q : Nat} (h : w1.cell? ⟨w.heap.size, 0, none⟩ = some u ∧ w1.cell? ⟨w.heap.size + 1, 0, none⟩ = some v ∧ QeM w w1) :
    ((w1.setCell ⟨w.heap.size + 1 + 1 + 1, 0, none⟩ (.bool y)).setCell ⟨w.heap.size + 1 + 1 + 1, 1, none⟩ (.slice D p q)).cell? ⟨w.heap.size, 0, none⟩ = some u ∧ ((w1.setCell ⟨w.heap.size + 1 + 1 + 1, 0, none⟩ (.bool y)).setCell ⟨w.heap.size + 1 + 1 + 1, 1, none⟩ (.slice D p q)).cell? ⟨w.heap.size + 1, 0, none⟩ = some v ∧
    QeM w ((w1.setCell ⟨w.heap.size + 1 + 1 + 1, 0, none⟩ (.bool y)).setCell ⟨w.heap.size + 1 + 1 + 1, 1, none⟩ (.slice D p q)) := by
  obtain ⟨h1, h2, h3, ⟨x, C, n, c, h4⟩, ⟨x', C', n', c', h5⟩⟩ := h
  have e : ∀ b : Nat, b ≠ w.heap.size + 1 + 1 + 1 → ((w1.setCell ⟨w.heap.size + 1 + 1 + 1, 0, none⟩ (.bool y)).setCell ⟨w.heap.size + 1 + 1 + 1, 1, none⟩ (.slice D p q)).heap[b]? = w1.heap[b]? := fun b hb => (one_other (by exact hb)).trans (one_other (by exact hb))
  exact ⟨(World.cell?_of_block (e _ (by show w.heap.size ≠ w.heap.size + 1 + 1 + 1; omega))).trans h1, (World.cell?_of_block (e _ (by show w.heap.size + 1 ≠ w.heap.size + 1 + 1 + 1; omega))).trans h2,
    (h3.setCell (p := ⟨w.heap.size + 1 + 1 + 1, 0, none⟩) (by show w.heap.size ≤ w.heap.size + 1 + 1 + 1; omega) _).setCell (p := ⟨w.heap.size + 1 + 1 + 1, 1, none⟩) (by show w.heap.size ≤ w.heap.size + 1 + 1 + 1; omega) _, ⟨x, C, n, c, (e _ (by omega)).trans h4⟩, ⟨y, D, p, q, cells_set (cells_set h5 0 _) 1 _⟩⟩

set_option maxRecDepth 100000 in
set_option maxHeartbeats 4000000 in
theorem quoRem_walk (v u : Value) (x y : Int) (w : World) (hv : IsNum w v x) (hu : IsNum w u y) (hy0 : y ≠ 0) (hlx : (toD 10 x.natAbs).length ≤ 1000) (hly : (toD 10 y.natAbs).length ≤ 999) :
    Calls Tryz.prog 24 #[v, u] w (Qr2Post w x y) := by
  obtain ⟨A, c, rfl, hc, hcm, hr⟩ := hv.open
  obtain ⟨B, d, rfl, hd, hdm, hs⟩ := hu.open
  have HR := Lib.hid hr
  have HS := Lib.hid hs
  clear hr hs hv hu
  have hY0 : 0 < y.natAbs := by omega
  obtain ⟨Y, hY⟩ : ∃ Y, y.natAbs = Y := ⟨_, rfl⟩
  obtain ⟨xs, hxs⟩ : ∃ xs, toD 10 x.natAbs = xs := ⟨_, rfl⟩
  have hx9 : ∀ q ∈ xs, q < 10 := by rw [← hxs]; exact toD_lt (by decide) _
  have hxv : valD 10 xs = x.natAbs := by rw [← hxs]; exact valD_toD (by decide) _
  have hYl := toD_lt_pow (b := 10) (by decide) Y
  rw [hY] at hly hd HS hY0 ⊢
  rw [hxs] at hlx hc HR ⊢
  have HX9 := Lib.hid hx9
  have HXV := Lib.hid hxv
  have HCMP := Lib.hid (fun (R : Nat) (A' : Option Addr) (c' : Nat) (w' : World) (h1 : (toD 10 R).length ≤ c') (h2 : c' ≤ 9223372036854775807) (h3 : Rd w' A' (u8s (toD 10 R))) (h4 : Rd w' B (u8s (toD 10 Y))) => compare_walk R Y A' B c' d w' h1 hd h2 hdm h3 h4)
  have HLES := Lib.hid (fun (R : Nat) (A' : Option Addr) (c' : Nat) (w' : World) (h0 : Y ≤ R) (h1 : (toD 10 R).length ≤ c') (h2 : c' ≤ 9223372036854775807) (h3 : Rd w' A' (u8s (toD 10 R))) (h4 : Rd w' B (u8s (toD 10 Y))) (h5 : (toD 10 R).length ≤ 1000) => less_walkE R Y A' B c' d w' h0 h1 hd h2 hdm h3 h4 h5 (by omega))
  obtain ⟨m, hm⟩ : ∃ m, (toD 10 Y).length = m := ⟨_, rfl⟩
  rw [hm] at HCMP HLES hly hd hYl ⊢
  have HYL := Lib.hid hYl
  have HSY := Lib.hid HS.out
  obtain ⟨nx, hnx⟩ : ∃ nx, decide (x < 0) = nx := ⟨_, rfl⟩
  obtain ⟨ny, hny⟩ : ∃ ny, decide (y < 0) = ny := ⟨_, rfl⟩
  have hsq := tdiv_sgn (x := x) (y := y)
  have hsr := tmod_sgn (x := x) (y := y)
  rw [hnx, hny, hY] at hsq
  rw [hnx, hY] at hsr
  rw [hnx, hny]
  have HSQ := Lib.hid hsq
  have HSR := Lib.hid hsr
  have HY := Lib.hid hY
  have hmk := run_make_row' (P := Tryz.prog) 23 5 (.int .u8 0) 1 Tryz.underlying23 infoByte rfl .i64 .i64 xs.length (by omega) (by omega)
  clear hx9 hxv hYl hm hnx hny hsq hsr hY hxs hy0 HS
  go_enter Tryz.func24, Tryz.ntmps24
  go_wp2_with fail
  go_loopw [7, 8] (fun rv iv wr => QrRel w nx ny A B xs c m d Y rv iv wr) (fun _ iv _ => idx1 iv)
  case atStart =>
    refine ⟨xs.length, [], rfl, Nat.le_refl _, by rw [Nat.sub_self]; rfl, by simp, ⟨?_, ?_, ?_, ?_, ?_, ?_⟩, ?_, .inl ⟨rfl, ?_⟩⟩
    · exact heap_old (heap_old (heap_old (heap_old (heap_here _ _))))
    · exact heap_old (heap_old (heap_old (heap_at _ _ (by rw [heap_size_alloc]))))
    · exact heap_old (heap_old (heap_at _ _ (by rw [heap_size_alloc, heap_size_alloc])))
    · exact heap_old (heap_at _ _ (by rw [heap_size_alloc, heap_size_alloc, heap_size_alloc]))
    · rw [List.append_nil]
      exact row_at _ _ _ _ (by rw [heap_size_alloc, heap_size_alloc, heap_size_alloc, heap_size_alloc])
    · exact bt (bt (below_a2 _ _ _) (below_a2 _ _ _)) (below_a1 _ _)
    · rw [List.drop_of_length_le (Nat.le_refl _)]; simp [valD]
    · rw [List.drop_of_length_le (Nat.le_refl _)]; simp [valD]
  case round =>
    obtain ⟨k, qs, rfl, hk, hql, hq9, hmem, hval, hfd⟩ := hrel
    have HQL := Lib.hid hql
    have HQ9 := Lib.hid hq9
    have HMEM := Lib.hid hmem
    have HVAL := Lib.hid hval
    have HFD := Lib.hid hfd
    have c00 := num_cell0 hmem.bx
    have c01 := num_cell1 hmem.bx
    have c10 := num_cell0 hmem.yb
    have c11 := num_cell1 hmem.yb
    clear hql hq9 hval hmem hfd
    match k, hk, HQL, HMEM, HVAL, HFD with
    | 0, hk, HQL, HMEM, HVAL, HFD =>
      have e1 : ((0 : Nat) : Int) - 1 = -1 := rfl
      have hlen : qs.length = xs.length := HQL.out
      have hrow : Row wr (w.heap.size + 1 + 1 + 1 + 1) .u8 5 qs := HMEM.out.row
      have hrd := hrow.rd 0
      rw [List.drop_zero] at hrd
      have hv : valD 10 qs = x.natAbs / Y := by rw [HVAL.out, ← HXV.out]; rfl
      have htq : trimN qs = toD 10 (x.natAbs / Y) := by rw [trimN_toD (by decide) HQ9.out, hv]
      have hs1 : ∀ (w' : World), Below wr.heap.size wr w' → Calls Tryz.prog 39 #[.bool (!(nx == ny)), .slice (some ⟨w.heap.size + 1 + 1 + 1 + 1, 0, none⟩) xs.length xs.length] w' (NumPost w' (decide (x.tdiv y < 0)) (toD 10 (x.natAbs / Y))) := fun w' hb => by
        have h := signed_walk (!(nx == ny)) (some ⟨w.heap.size + 1 + 1 + 1 + 1, 0, none⟩) xs.length qs w' (Nat.le_of_eq hlen) (by omega) (hrd.below hb)
        rw [htq, hlen, HSQ.out] at h
        exact h
      obtain ⟨A2, q2, rfl, l1, l2, rd2⟩ := HFD.out.open
      have hRe : valD 10 (xs.drop 0) % Y = x.natAbs % Y := by rw [← HXV.out]; rfl
      rw [hRe] at l1 rd2 ⊢
      obtain ⟨l', hl'⟩ : ∃ l', (toD 10 (x.natAbs % Y)).length = l' := ⟨_, rfl⟩
      have hs2 : ∀ (w' : World), Below wr.heap.size wr w' → Calls Tryz.prog 39 #[.bool nx, .slice A2 l' q2] w' (NumPost w' (decide (x.tmod y < 0)) (toD 10 (x.natAbs % Y))) := fun w' hb => by
        have h := signed_walk nx A2 q2 (toD 10 (x.natAbs % Y)) w' l1 l2 (rd2.below hb)
        rw [trimN_self (by decide), HSR.out, hl'] at h
        exact h
      rw [hl']
      have HS1 := Lib.hid hs1
      have HS2 := Lib.hid hs2
      have HQA := Lib.hid (show (x.tdiv y).natAbs = x.natAbs / Y by rw [tdivAbs, HY.out])
      have HRA := Lib.hid (show (x.tmod y).natAbs = x.natAbs % Y by rw [tmodAbs, HY.out])
      have hkept : wr.cell? ⟨w.heap.size, 0, none⟩ = some (.bool nx) ∧ wr.cell? ⟨w.heap.size + 1, 0, none⟩ = some (.bool ny) ∧ QeM w wr := ⟨c00, c10, HMEM.out.below, ⟨_, _, _, _, HMEM.out.r0⟩, ⟨_, _, _, _, HMEM.out.r1⟩⟩
      have HWR := Lib.hid (Below.refl wr.heap.size wr)
      rw [e1]
      clear e1 hrow hrd hv htq hs1 hs2 hRe hl' l1 rd2 HCMP HLES hlen c01 c11
      go_wp2_with fail
      go_region_held3 (fun w' => w'.cell? ⟨w.heap.size, 0, none⟩ = some (.bool nx) ∧ w'.cell? ⟨w.heap.size + 1, 0, none⟩ = some (.bool ny) ∧ QeM w w')
        (first | (with_reducible exact qem_drew hkept) | (with_reducible exact qem_grow (by assumption) hgr) | (with_reducible exact qem_set2 (by assumption)) | (with_reducible exact qem_set3 (by assumption)) | (with_reducible assumption))
        (first
          | (go_at_call_of 39 (xs.length); (with_reducible refine (HS1.out _ HWR.out.drew).mono ?_); rintro e w7 ⟨v1, rfl, ⟨F, f, rfl, hf1, hf2, hfr⟩, hgr⟩; have HF7 := Lib.hid hfr; have HB7 := Lib.hid (bt HWR.out.drew hgr); clear hfr)
          | (go_at_call_of 39 (l'); (with_reducible refine (HS2.out _ HB7.out).mono ?_); rintro e w8 ⟨v2, rfl, ⟨G, g, rfl, hg1, hg2, hgf⟩, hgr⟩; have HF8 := Lib.hid (HF7.out.below hgr); have HG8 := Lib.hid hgf; obtain ⟨hq1, ⟨x2, C2, n2, m2, hk2⟩, ⟨x3, C3, n3, m3, hk3⟩⟩ := QeM.grow (by go_split_ands; assumption) hgr; have c20 := num_cell0 hk2; have c21 := num_cell1 hk2; have f20 := one_free hk2 0; have f21 := one_free hk2 1; have hk3' : ∀ u v, ((w8.setCell ⟨w.heap.size + 1 + 1, 0, none⟩ u).setCell ⟨w.heap.size + 1 + 1, 1, none⟩ v).heap[w.heap.size + 1 + 1 + 1]? = some (.cells #[.bool x3, .slice C3 n3 m3] 25 (0, 0)) := fun u v => (one_other (by show w.heap.size + 1 + 1 + 1 ≠ w.heap.size + 1 + 1; omega)).trans ((one_other (by show w.heap.size + 1 + 1 + 1 ≠ w.heap.size + 1 + 1; omega)).trans hk3); have c30 := fun u v => num_cell0 (hk3' u v); have c31 := fun u v => num_cell1 (hk3' u v); have f30 := fun u v => one_free (hk3' u v) 0; have f31 := fun u v => one_free (hk3' u v) 1; have HK2 := Lib.hid hk2; have HK3 := Lib.hid hk3'; clear hgf hk2 hk3 hk3' hq1))
      all_goals
        have hB := (‹_ ∧ _ ∧ QeM w (World.setCell (World.setCell (World.setCell (World.setCell w8 _ _) _ _) _ _) _ _)›).2.2.below
        go_wp2_with fail
        have k2 := cells_set (cells_set HK2.out 0 (.bool (decide (x.tdiv y < 0)))) 1 (.slice F (toD 10 (x.natAbs / Y)).length f)
        have k3 := HK3.out (.bool (decide (x.tdiv y < 0))) (.slice F (toD 10 (x.natAbs / Y)).length f)
        have r1 := rd_set2 (u := .bool (decide (x.tdiv y < 0))) (v := .slice F (toD 10 (x.natAbs / Y)).length f) HK2.out HF8.out
        have r2 := rd_set2 (u := .bool (decide (x.tdiv y < 0))) (v := .slice F (toD 10 (x.natAbs / Y)).length f) HK2.out HG8.out
        have r3 := rd_set2 (u := .bool (decide (x.tmod y < 0))) (v := .slice G (toD 10 (x.natAbs % Y)).length g) k3 r1
        have r4 := rd_set2 (u := .bool (decide (x.tmod y < 0))) (v := .slice G (toD 10 (x.natAbs % Y)).length g) k3 r2
        have k4 := cells_set (cells_set k3 0 (.bool (decide (x.tmod y < 0)))) 1 (.slice G (toD 10 (x.natAbs % Y)).length g)
        have k5 := ((one_other (a := ⟨w.heap.size + 1 + 1 + 1, 1, none⟩) (u := .slice G (toD 10 (x.natAbs % Y)).length g) (by show w.heap.size + 1 + 1 ≠ w.heap.size + 1 + 1 + 1; omega)).trans (one_other (a := ⟨w.heap.size + 1 + 1 + 1, 0, none⟩) (u := .bool (decide (x.tmod y < 0))) (by show w.heap.size + 1 + 1 ≠ w.heap.size + 1 + 1 + 1; omega))).trans k2
        have d20 := num_cell0 k5
        have d21 := num_cell1 k5
        have d30 := num_cell0 k4
        have d31 := num_cell1 k4
        exact bodyPost_ret (v := .tuple #[.agg #[.bool (decide (x.tdiv y < 0)), .slice F (toD 10 (x.natAbs / Y)).length f], .agg #[.bool (decide (x.tmod y < 0)), .slice G (toD 10 (x.natAbs % Y)).length g]]) (by simp [results, Tryz.results24, go_sem, d20, d21, d30, d31]) rfl
          ⟨_, _, rfl, ⟨F, f, by rw [HQA.out], by rw [HQA.out]; exact hf1, hf2, by rw [HQA.out]; exact r3⟩, ⟨G, g, by rw [HRA.out], by rw [HRA.out]; exact hg1, hg2, by rw [HRA.out]; exact r4⟩, hB⟩
    | j + 1, hk, HQL, HMEM, HVAL, HFD =>
      have hj : j < xs.length := hk
      have hj0 : (0 : Int) ≤ (j : Int) := by omega
      have hj1 : (j : Int) < xs.length := by omega
      have e1 : ((j + 1 : Nat) : Int) - 1 = (j : Int) := by omega
      obtain ⟨a, rfl, ha⟩ := u8s_cell (HR.out.below HMEM.out.below) hj
      have hvd := valD10_drop hj
      obtain ⟨t, ht⟩ : ∃ t, xs[j] = t := ⟨_, rfl⟩
      have ht9 : t < 10 := by rw [← ht]; exact HX9.out _ (List.getElem_mem _)
      rw [ht] at ha hvd
      have hRY := Nat.mod_lt (valD 10 (xs.drop (j + 1))) hY0
      obtain ⟨dg1, dg2⟩ := div_digit10 (N := valD 10 (xs.drop (j + 1))) (d := t) hY0
      rw [← hvd, ← HVAL.out] at dg1
      rw [← hvd] at dg2
      obtain ⟨R, hR⟩ : ∃ R, valD 10 (xs.drop (j + 1)) % Y = R := ⟨_, rfl⟩
      have hfd := HFD.out
      rw [hR] at hfd dg1 dg2 hRY
      have HDG1 := Lib.hid dg1
      have HDG2 := Lib.hid dg2
      have hRl : (toD 10 R).length ≤ 1000 := Nat.le_trans (toD_length_le (by decide) m _ (Nat.lt_trans hRY HYL.out)) (by omega)
      have hszr : w.heap.size + 1 + 1 + 1 + 1 < wr.heap.size := HMEM.out.row.lt
      have HFD2 := Lib.hid hfd
      rw [e1]
      clear hvd ht dg1 dg2 hR hfd e1 HFD
      go_wp2_with (at_builtin; refine wpList_append_pre rfl _ _ rfl t wr _ R _ rfl rfl HFD2.out hRl ?_)
      intro v' w2 hown hb2
      obtain ⟨A', c', rfl, hl1, hl2, hrd, hfr⟩ := own_rd2 hown (by rw [u8s_length, List.length_cons]; omega)
      have HRD := Lib.hid hrd
      have hlen1 : (t :: toD 10 R).length = 1 + (toD 10 R).length := by rw [List.length_cons]; omega
      have HTR := Lib.hid (trim_walk A' c' (t :: toD 10 R) w2 (by omega) hl2 hrd)
      rw [hlen1, trim_pre ht9] at HTR
      have hrt := hrd.trimN
      rw [trim_pre ht9] at hrt
      have hle := trimN_length (t :: toD 10 R)
      rw [trim_pre ht9] at hle
      have hfd1 : FreshDig (w.heap.size + 1 + 1 + 1 + 1 + 1) w2 (.slice A' (toD 10 (t + 10 * R)).length c') (t + 10 * R) := by
        rcases hfr with ⟨_, _, h0⟩ | ⟨a', rfl, ha'⟩
        · omega
        · exact .inr ⟨a', c', rfl, by omega, hl2, hrt, by omega⟩
      have HF1 := Lib.hid hfd1
      have HM1 := Lib.hid (HMEM.out.grow hb2)
      obtain ⟨D, hD⟩ : ∃ D, t + 10 * R = D := ⟨_, rfl⟩
      rw [hD] at HTR HF1
      have hDY : D < 10 * Y := by omega
      have hDR : R * 10 + t = D := by omega
      have HDG1' := Lib.hid HDG1.out
      have HDG2' := Lib.hid HDG2.out
      rw [hDR] at HDG1' HDG2'
      obtain ⟨ld, hld⟩ : ∃ ld, (toD 10 D).length = ld := ⟨_, rfl⟩
      rw [hld] at HTR HF1
      have HLD := Lib.hid hld
      clear hown hb2 hrd hfr hrt hle hfd1 hlen1 hl1 hl2 hD hDR c00 c01 c10 c11 HRD HDG1 HDG2 HFD2 hld ha hRl hRY
      go_wp2_with fail
      refine HTR.out.mono ?_
      rintro e w3 ⟨rfl, rfl⟩
      clear HTR
      go_wp2_with fail
      go_loopw [7] (fun rv wr => QiRel w nx ny (some a) B xs.length c m d Y D j qs rv wr) (fun _ wr => qiMeas (w.heap.size + 1 + 1 + 1 + 1) j wr)
      case atStart =>
        have hm := HM1.out
        rw [rep_succ] at hm
        exact ⟨0, D, by rw [Nat.mul_zero, Nat.add_zero], hm, HF1.out⟩
      case round =>
        obtain ⟨t', R', hsum, hmem, hfd⟩ := hrel
        have HM2 := Lib.hid hmem
        have HF2 := Lib.hid hfd
        obtain ⟨A2, q2, rfl, l1, l2, rd2⟩ := hfd.open
        have RD2 := Lib.hid rd2
        have c10 := num_cell0 hmem.yb
        have c11 := num_cell1 hmem.yb
        have HSU := Lib.hid hsum
        clear hmem hfd rd2
        by_cases hle : Y ≤ R'
        · have ht' : t' < 9 := by
            refine Nat.lt_of_not_le fun h => ?_
            have := Nat.mul_le_mul_left Y h
            omega
          have hsc : ¬ sgnC ((R' : Int) - Y) < 0 := by unfold sgnC; split <;> (try split) <;> omega
          have hR1 : (toD 10 R').length ≤ 1000 := Nat.le_trans (toD_length_le (by decide) (m + 1) _ (Nat.lt_of_lt_of_le (m := 10 * Y) (by omega) (by rw [Nat.pow_succ']; exact Nat.mul_le_mul_left 10 (Nat.le_of_lt HYL.out)))) (by omega)
          obtain ⟨sc, hsce⟩ : ∃ sc, sgnC ((R' : Int) - Y) = sc := ⟨_, rfl⟩
          rw [hsce] at hsc
          have HSC := Lib.hid hsce
          obtain ⟨l', hl'⟩ : ∃ l', (toD 10 R').length = l' := ⟨_, rfl⟩
          have HCM := Lib.hid (fun (w' : World) => HCMP.out R' A2 q2 w' l1 l2)
          have HLE := Lib.hid (fun (w' : World) (h3) (h4) => HLES.out R' A2 q2 w' hle l1 l2 h3 h4 hR1)
          rw [hl'] at HCM HLE l1 hR1 ⊢
          clear hsce hl' hsum
          go_wp2_with fail
          refine (HCM.out wr RD2.out (HSY.out.below HM2.out.below)).mono ?_
          rw [HSC.out]
          rintro e w4 ⟨rfl, hb4⟩
          have hm4 := HM2.out.grow hb4
          have HM4 := Lib.hid hm4
          have RD4 := Lib.hid (RD2.out.below hb4)
          have c10 := num_cell0 hm4.yb
          have c11 := num_cell1 hm4.yb
          clear hb4 hm4
          go_wp2_with fail
          refine (HLE.out w4 RD4.out (HSY.out.below HM4.out.below)).mono ?_
          rintro e w5 ⟨v5, rfl, hfd5, hb5⟩
          have hm5 := HM4.out.grow hb5
          have HM5 := Lib.hid hm5
          have hsz4 : w.heap.size + 1 + 1 + 1 + 1 < w4.heap.size := HM4.out.row.lt
          have HF5 := Lib.hid (hfd5.low (show w.heap.size + 1 + 1 + 1 + 1 + 1 ≤ w4.heap.size by omega))
          have hjl : j < (List.replicate j 0 ++ t' :: qs).length := by rw [rep_len]; omega
          have hcj := hm5.row.cell hjl
          rw [rep_get] at hcj
          have hfj := hm5.row.free j
          have ht2 : (t' : Int) < 9 := by omega
          have hold := qiMeas_at (HM2.out.row.cell hjl)
          rw [rep_get] at hold
          have HOLD := Lib.hid hold
          clear hb5 hm5 hfd5 hold
          go_wp2_with fail
          have hm6 := HM5.out.put j (t' + 1)
          rw [rep_set] at hm6
          have hnew := qiMeas_at (hm6.row.cell (show j < (List.replicate j 0 ++ (t' + 1) :: qs).length by rw [rep_len]; omega))
          rw [rep_get] at hnew
          refine ⟨⟨t' + 1, R' - Y, by have := HSU.out; rw [Nat.mul_add]; omega, hm6, HF5.out.other (by show w.heap.size + 1 + 1 + 1 + 1 < w.heap.size + 1 + 1 + 1 + 1 + 1; omega) _⟩, ?_⟩
          have := HOLD.out
          have e2 : ((t' + 1 : Nat) : Int) = (t' : Int) + 1 := by omega
          rw [e2] at hnew
          rw [hnew, this]
          omega
        · have hsc : sgnC ((R' : Int) - Y) < 0 := by unfold sgnC; rw [if_pos (by omega)]; omega
          obtain ⟨sc, hsce⟩ : ∃ sc, sgnC ((R' : Int) - Y) = sc := ⟨_, rfl⟩
          rw [hsce] at hsc
          have HSC := Lib.hid hsce
          obtain ⟨l', hl'⟩ : ∃ l', (toD 10 R').length = l' := ⟨_, rfl⟩
          have HCM := Lib.hid (fun (w' : World) => HCMP.out R' A2 q2 w' l1 l2)
          rw [hl'] at HCM l1
          have hq : D / Y = t' ∧ D % Y = R' := by
            have h := HSU.out
            subst h
            rw [Nat.add_mul_div_left _ _ hY0, Nat.add_mul_mod_self_left, Nat.div_eq_of_lt (by omega), Nat.mod_eq_of_lt (by omega)]
            exact ⟨by omega, rfl⟩
          have HQ := Lib.hid hq
          have ht10 : t' < 10 := by
            refine Nat.lt_of_not_le fun h => ?_
            have := Nat.mul_le_mul_left Y h
            have := HSU.out
            omega
          have HL' := Lib.hid hl'
          rw [hl']
          clear hsce hl' hsum hq hle
          go_wp2_with fail
          refine (HCM.out wr RD2.out (HSY.out.below HM2.out.below)).mono ?_
          rw [HSC.out]
          rintro e w4 ⟨rfl, hb4⟩
          have hm4 := HM2.out.grow hb4
          have HM4 := Lib.hid hm4
          have hf4 := HF2.out.below hb4
          rw [HL'.out] at hf4
          have HF4 := Lib.hid hf4
          clear hb4 hm4 hf4
          go_wp2_with fail
          refine ⟨⟨j, t' :: qs, rfl, by omega, by have := HQL.out; rw [List.length_cons]; omega, ?_, HM4.out, ?_, ?_⟩, by simp [idx1]⟩
          · intro q hq
            rcases List.mem_cons.1 hq with h | h
            · rw [h]; exact ht10
            · exact HQ9.out q h
          · rw [HDG1'.out, HQ.out.1]
            simp only [valD]
            omega
          · rw [HDG2'.out, HQ.out.2]
            exact HF4.out
end Go.Proofs.YtapfolgiafnllaaGreatDoor
