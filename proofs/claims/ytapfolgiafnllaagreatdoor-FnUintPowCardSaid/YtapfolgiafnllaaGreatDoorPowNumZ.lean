/-
  What the reference's RelativePow finds in memory.
-/
import Derived.Test.YtapfolgiafnllaaGreatDoorBn03Z
import Derived.Test.YtapfolgiafnllaaGreatDoorSpecQuoZ
import Derived.Test.YtapfolgiafnllaaGreatDoorBn21Z
namespace Go.Proofs.YtapfolgiafnllaaGreatDoor
open Go.RowKit

/-- Block g holds the reference's number z. -/
def NumB (w : World) (g : Nat) (z : Int) : Prop :=
  ∃ b A n c, w.heap[g]? = some (.cells #[.bool b, .slice A n c] 25 (0, 0)) ∧ IsNum w (.agg #[.bool b, .slice A n c]) z
theorem NumB.lt {w : World} {g : Nat} {z : Int} (h : NumB w g z) : g < w.heap.size := by obtain ⟨_, _, _, _, h, _⟩ := h; exact iter_lt h
theorem NumB.below {w w' : World} {g : Nat} {z : Int} (h : NumB w g z) (hb : Below w.heap.size w w') : NumB w' g z := by
  obtain ⟨b, A, n, c, h1, h2⟩ := h
  exact ⟨b, A, n, c, (hb.block g (iter_lt h1)).trans h1, h2.below hb⟩
theorem isNum_set2 {w : World} {g : Nat} {x b : Bool} {C A : Option Addr} {p q n c : Nat} {z : Int} {u v : Value} (hk : w.heap[g]? = some (.cells #[.bool x, .slice C p q] 25 (0, 0))) (hz : IsNum w (.agg #[.bool b, .slice A n c]) z) :
    IsNum ((w.setCell ⟨g, 0, none⟩ u).setCell ⟨g, 1, none⟩ v) (.agg #[.bool b, .slice A n c]) z := by
  obtain ⟨B, d, h1, h2, h3, h4⟩ := hz
  exact ⟨B, d, h1, h2, h3, rd_set2 hk h4⟩
theorem NumB.put {w : World} {g : Nat} {y z : Int} {b : Bool} {A : Option Addr} {n c : Nat} (h : NumB w g y) (hz : IsNum w (.agg #[.bool b, .slice A n c]) z) :
    NumB ((w.setCell ⟨g, 0, none⟩ (.bool b)).setCell ⟨g, 1, none⟩ (.slice A n c)) g z := by
  obtain ⟨x, C, p, q, hk, _⟩ := h
  exact ⟨b, A, n, c, cells_set (cells_set hk 0 _) 1 _, isNum_set2 hk hz⟩
theorem NumB.other {w : World} {g k : Nat} {y z : Int} (h : NumB w g z) (hk : NumB w k y) (hne : g ≠ k) (u v : Value) : NumB ((w.setCell ⟨k, 0, none⟩ u).setCell ⟨k, 1, none⟩ v) g z := by
  obtain ⟨b, A, n, c, h1, h2⟩ := h
  obtain ⟨x, C, p, q, hk, _⟩ := hk
  exact ⟨b, A, n, c, (one_other hne).trans ((one_other hne).trans h1), isNum_set2 hk h2⟩
theorem NumB.new {w : World} {b : Bool} {A : Option Addr} {n c : Nat} {z : Int} (hz : IsNum w (.agg #[.bool b, .slice A n c]) z) : NumB (w.alloc (.cells #[.bool b, .slice A n c] 25)) w.heap.size z :=
  ⟨b, A, n, c, heap_here _ _, hz.below (below_a1 _ _)⟩
theorem isNum_nil (w : World) : IsNum w (.agg #[.bool false, .slice none 0 0]) 0 := ⟨none, 0, by rw [Int.natAbs_zero, toD_zero]; rfl, by rw [Int.natAbs_zero, toD_zero]; exact Nat.le_refl _, by decide, .inl (by rw [Int.natAbs_zero, toD_zero]; rfl)⟩
/-- What a call hands back, in parts. -/
theorem IsNum.parts {w : World} {v : Value} {z : Int} (h : IsNum w v z) : ∃ b A n c, v = .agg #[.bool b, .slice A n c] ∧ IsNum w (.agg #[.bool b, .slice A n c]) z := by
  obtain ⟨A, c, rfl, h1, h2, h3⟩ := h.open
  exact ⟨_, A, _, c, rfl, ⟨A, c, rfl, h1, h2, h3⟩⟩

/-- The variables of the reference's RelativePow. -/
structure SpMem (w : World) (x n b : Int) (wr : World) : Prop where
  x : NumB wr w.heap.size x
  n : NumB wr (w.heap.size + 1) n
  b : NumB wr (w.heap.size + 1 + 1) b
  r : NumB wr (w.heap.size + 1 + 1 + 1) 0
  below : Below w.heap.size w wr
theorem SpMem.grow {w wr w2 : World} {x n b : Int} (h : SpMem w x n b wr) (k : Below wr.heap.size wr w2) : SpMem w x n b w2 :=
  ⟨h.x.below k, h.n.below k, h.b.below k, h.r.below k, bt h.below k⟩
theorem below_put2 {B k : Nat} {w wr : World} (h : Below B w wr) (hk : B ≤ k) (u v : Value) : Below B w ((wr.setCell ⟨k, 0, none⟩ u).setCell ⟨k, 1, none⟩ v) := (h.setCell (p := ⟨k, 0, none⟩) hk _).setCell (p := ⟨k, 1, none⟩) hk _
theorem SpMem.setX {w wr : World} {x n b y : Int} {s : Bool} {A : Option Addr} {l c : Nat} (h : SpMem w x n b wr) (hy : IsNum wr (.agg #[.bool s, .slice A l c]) y) : SpMem w y n b ((wr.setCell ⟨w.heap.size, 0, none⟩ (.bool s)).setCell ⟨w.heap.size, 1, none⟩ (.slice A l c)) :=
  ⟨h.x.put hy, h.n.other h.x (by omega) _ _, h.b.other h.x (by omega) _ _, h.r.other h.x (by omega) _ _, below_put2 h.below (Nat.le_refl _) _ _⟩
theorem SpMem.setN {w wr : World} {x n b y : Int} {s : Bool} {A : Option Addr} {l c : Nat} (h : SpMem w x n b wr) (hy : IsNum wr (.agg #[.bool s, .slice A l c]) y) : SpMem w x y b ((wr.setCell ⟨w.heap.size + 1, 0, none⟩ (.bool s)).setCell ⟨w.heap.size + 1, 1, none⟩ (.slice A l c)) :=
  ⟨h.x.other h.n (by omega) _ _, h.n.put hy, h.b.other h.n (by omega) _ _, h.r.other h.n (by omega) _ _, below_put2 h.below (by omega) _ _⟩
theorem SpMem.later {w wr : World} {x n b y : Int} {k : Nat} (h : SpMem w x n b wr) (hk : NumB wr k y) (hl : w.heap.size + 1 + 1 + 1 < k) (u v : Value) : SpMem w x n b ((wr.setCell ⟨k, 0, none⟩ u).setCell ⟨k, 1, none⟩ v) :=
  ⟨h.x.other hk (by omega) _ _, h.n.other hk (by omega) _ _, h.b.other hk (by omega) _ _, h.r.other hk (by omega) _ _, below_put2 h.below (by omega) _ _⟩
theorem spMem_start {w : World} {x n b : Int} {s1 s2 s3 : Bool} {A1 A2 A3 : Option Addr} {l1 c1 l2 c2 l3 c3 : Nat} (hx : IsNum w (.agg #[.bool s1, .slice A1 l1 c1]) x) (hn : IsNum w (.agg #[.bool s2, .slice A2 l2 c2]) n) (hb : IsNum w (.agg #[.bool s3, .slice A3 l3 c3]) b) :
    SpMem w x n b ((((w.alloc (.cells #[.bool s1, .slice A1 l1 c1] 25)).alloc (.cells #[.bool s2, .slice A2 l2 c2] 25)).alloc (.cells #[.bool s3, .slice A3 l3 c3] 25)).alloc (.cells #[.bool false, .slice none 0 0] 25)) := by
  have hbl := bt (below_a2 w (.cells #[.bool s1, .slice A1 l1 c1] 25) (.cells #[.bool s2, .slice A2 l2 c2] 25)) (below_a2 _ (.cells #[.bool s3, .slice A3 l3 c3] 25) (.cells #[.bool false, .slice none 0 0] 25))
  exact ⟨⟨s1, A1, l1, c1, heap_old (heap_old (heap_old (heap_here _ _))), hx.below hbl⟩, ⟨s2, A2, l2, c2, heap_old (heap_old (heap_at _ _ (by rw [heap_size_alloc]))), hn.below hbl⟩, ⟨s3, A3, l3, c3, heap_old (heap_at _ _ (by rw [heap_size_alloc, heap_size_alloc])), hb.below hbl⟩, ⟨false, none, 0, 0, heap_at _ _ (by rw [heap_size_alloc, heap_size_alloc, heap_size_alloc]), isNum_nil _⟩, hbl⟩
/-- .. with 2, the half of b and the result so far. -/
structure SpAt (w : World) (x n b z h : Int) (b8 b9 b11 : Nat) (wr : World) : Prop where
  mem : SpMem w x n b wr
  t : NumB wr b8 2
  h : NumB wr b9 h
  z : NumB wr b11 z
  l8 : w.heap.size + 1 + 1 + 1 < b8
  l9 : b8 < b9
  l11 : b9 < b11
theorem SpAt.grow {w wr w2 : World} {x n b z h : Int} {b8 b9 b11 : Nat} (p : SpAt w x n b z h b8 b9 b11 wr) (k : Below wr.heap.size wr w2) : SpAt w x n b z h b8 b9 b11 w2 :=
  ⟨p.mem.grow k, p.t.below k, p.h.below k, p.z.below k, p.l8, p.l9, p.l11⟩
theorem SpAt.setX {w wr : World} {x n b z h y : Int} {b8 b9 b11 : Nat} {s : Bool} {A : Option Addr} {l c : Nat} (p : SpAt w x n b z h b8 b9 b11 wr) (hy : IsNum wr (.agg #[.bool s, .slice A l c]) y) : SpAt w y n b z h b8 b9 b11 ((wr.setCell ⟨w.heap.size, 0, none⟩ (.bool s)).setCell ⟨w.heap.size, 1, none⟩ (.slice A l c)) := by
  have h8 := p.l8
  have h9 := p.l9
  have h11 := p.l11
  exact ⟨p.mem.setX hy, p.t.other p.mem.x (by omega) _ _, p.h.other p.mem.x (by omega) _ _, p.z.other p.mem.x (by omega) _ _, h8, h9, h11⟩
theorem SpAt.setN {w wr : World} {x n b z h y : Int} {b8 b9 b11 : Nat} {s : Bool} {A : Option Addr} {l c : Nat} (p : SpAt w x n b z h b8 b9 b11 wr) (hy : IsNum wr (.agg #[.bool s, .slice A l c]) y) : SpAt w x y b z h b8 b9 b11 ((wr.setCell ⟨w.heap.size + 1, 0, none⟩ (.bool s)).setCell ⟨w.heap.size + 1, 1, none⟩ (.slice A l c)) := by
  have h8 := p.l8
  have h9 := p.l9
  have h11 := p.l11
  exact ⟨p.mem.setN hy, p.t.other p.mem.n (by omega) _ _, p.h.other p.mem.n (by omega) _ _, p.z.other p.mem.n (by omega) _ _, h8, h9, h11⟩
theorem SpAt.setZ {w wr : World} {x n b z h y : Int} {b8 b9 b11 : Nat} {s : Bool} {A : Option Addr} {l c : Nat} (p : SpAt w x n b z h b8 b9 b11 wr) (hy : IsNum wr (.agg #[.bool s, .slice A l c]) y) : SpAt w x n b y h b8 b9 b11 ((wr.setCell ⟨b11, 0, none⟩ (.bool s)).setCell ⟨b11, 1, none⟩ (.slice A l c)) := by
  have h8 := p.l8
  have h9 := p.l9
  have h11 := p.l11
  exact ⟨p.mem.later p.z (by omega) _ _, p.t.other p.z (by omega) _ _, p.h.other p.z (by omega) _ _, p.z.put hy, h8, h9, h11⟩
theorem SpAt.later {w wr : World} {x n b z h y : Int} {b8 b9 b11 k : Nat} (p : SpAt w x n b z h b8 b9 b11 wr) (hk : NumB wr k y) (hl : b11 < k) (u v : Value) : SpAt w x n b z h b8 b9 b11 ((wr.setCell ⟨k, 0, none⟩ u).setCell ⟨k, 1, none⟩ v) := by
  have h8 := p.l8
  have h9 := p.l9
  have h11 := p.l11
  exact ⟨p.mem.later hk (by omega) _ _, p.t.other hk (by omega) _ _, p.h.other hk (by omega) _ _, p.z.other hk (by omega) _ _, h8, h9, h11⟩
/-- A round begins. -/
def SpLoop (w : World) (b h : Int) (b8 b9 b11 : Nat) (R : Option Int) (N : Nat) (wr : World) : Prop :=
  ∃ x z, SpAt w x (N : Int) b z h b8 b9 b11 wr ∧ overU x = false ∧ overU z = false ∧ N < 2 ^ 256 ∧ powR b h N x z = R
/-- Within a round. -/
def SpIn (w : World) (b h : Int) (b8 b9 b11 : Nat) (R : Option Int) (N : Nat) (k : Nat) (kv : Value) (wr : World) : Prop :=
  ∃ x z, SpAt w x (N : Int) b z h b8 b9 b11 wr ∧ overU x = false ∧ overU z = false ∧ ((k = 2 ∧ kv = .int .i64 0 ∧ powR b h N x z = R) ∨ (k = 1 ∧ kv = .int .i64 1 ∧ N % 2 = 1 ∧ powR1 b h N x z = R) ∨ (k = 0 ∧ kv = .int .i64 2 ∧ powR b h (N / 2) x z = R))
/-- The quotient has been laid into y. -/
def SpY (w : World) (x n b z h : Int) (b8 b9 b11 b14 : Nat) (q : Int) (wr : World) : Prop := SpAt w x n b z h b8 b9 b11 wr ∧ NumB wr b14 q
theorem len_fit {z : Int} (h : overU z = false) : (toD 10 z.natAbs).length ≤ 999 := by
  rw [overU_fits] at h
  have h2 : z.natAbs < 2 ^ 256 := by
    cases h3 : decide (z.natAbs < 2 ^ 256) with
    | true => exact of_decide_eq_true h3
    | false => rw [h3] at h; simp at h
  exact Nat.le_trans (toD_length_le (by decide) 100 _ (Nat.lt_of_lt_of_le h2 (by decide))) (by decide)
theorem fit_over {z : Int} (h : 0 ≤ z) : decide (z.natAbs < 2 ^ 256) = !overU z := by
  rw [overU_fits, decide_eq_false (show ¬ z < 0 by omega)]
  simp
end Go.Proofs.YtapfolgiafnllaaGreatDoor
