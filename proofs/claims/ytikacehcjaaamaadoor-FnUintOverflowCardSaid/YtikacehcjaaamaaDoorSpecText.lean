/-
  The reference's numbers: OfUint, Text.
-/
import Derived.Test.YtikacehcjaaamaaDoorSpecNum
namespace Go.Proofs.YtikacehcjaaamaaDoor
open Go.RowKit
attribute [local simp] S_extract S_append

/-- Decimal digits, the lowest one first. -/
def dec10 (n : Nat) : List Nat := if h : n = 0 then [] else n % 10 :: dec10 (n / 10)
termination_by n
decreasing_by omega
theorem dec10_zero : dec10 0 = [] := by unfold dec10; rfl
theorem dec10_pos {n : Nat} (h : n ≠ 0) : dec10 n = n % 10 :: dec10 (n / 10) := by
  conv => lhs; unfold dec10
  rw [dif_neg h]

theorem dec10_length : ∀ (k n : Nat), n < 10 ^ k → (dec10 n).length ≤ k
  | 0, n, h => by
    have : n = 0 := by simpa using h
    subst this
    rw [dec10_zero]
    simp
  | k + 1, n, h => by
    by_cases h0 : n = 0
    · subst h0
      rw [dec10_zero]
      simp
    · rw [dec10_pos h0, List.length_cons]
      have := dec10_length k (n / 10) (by rw [Nat.pow_succ] at h; omega)
      omega

def OfRel (n : Nat) (w : World) (u d : Value) (wr : World) : Prop :=
  ∃ (m : Nat) (ds : List Nat), u = .int .u64 m ∧ m ≤ n ∧ dec10 n = ds ++ dec10 m ∧ wr.ownsRow (w.heap.size + 1) 5 1 d ds.length (u8s ds) ∧ Below w.heap.size w wr ∧
    wr.heap[w.heap.size]? = some (.cells #[.bool false, .slice none 0 0] 24 (0, 0))
def natOf : Value → Nat | .int _ n => n.toNat | _ => 0

set_option maxRecDepth 100000 in
set_option maxHeartbeats 1000000 in
theorem ofUint_walk (n : Nat) (w : World) (hn : n < 18446744073709551616) :
    Calls Tryd.prog 46 #[.int .u64 n] w (NumPost w false (dec10 n)) := by
  obtain ⟨i0, hi, hz0, hz1, hz2⟩ := info_parts infoByte
  go_enter Tryd.func46, Tryd.ntmps46
  go_wp2_with fail
  go_loopw [0, 3] (fun u d wr => OfRel n w u d wr) (fun u _ _ => natOf u)
  case atStart => exact ⟨n, [], rfl, Nat.le_refl _, by simp, World.ownsRow_nil _ _ _ _, (Below.refl _ _).alloc (Nat.le_refl _) _, heap_here _ _⟩
  case round =>
    obtain ⟨m, ds, rfl, hm, hd, hown, hb, hk⟩ := hrel
    have hdl : ds.length ≤ 20 := by
      have h1 := dec10_length 20 n (by omega)
      rw [hd, List.length_append] at h1
      omega
    have HD := Lib.hid hd
    have HK := Lib.hid hk
    clear hd hk
    by_cases h0 : m = 0
    · subst h0
      have hds : dec10 n = ds := by rw [HD.out, dec10_zero, List.append_nil]
      obtain ⟨A, c, rfl, hc1, hc2, hrd⟩ := own_rd hown (u8s_length ds)
      have c0 := num_cell0 HK.out
      have c1 := num_cell1 HK.out
      have f0 := one_free HK.out 0
      have f1 := one_free HK.out 1
      have HDS := Lib.hid hds
      have HRD := Lib.hid hrd
      clear hds hrd hown
      go_wp2_with fail
      have k0 := cells_set (cells_set HK.out 0 (.bool false)) 1 (.slice A ds.length c)
      have d0 := num_cell0 k0
      have d1 := num_cell1 k0
      exact bodyPost_ret (v := .agg #[.bool false, .slice A ds.length c]) (by simp [results, Tryd.results46, go_sem, d0, d1]) rfl
        ⟨.agg #[.bool false, .slice A ds.length c], rfl, ⟨A, c, by rw [HDS.out], by rw [HDS.out]; exact hc1, hc2, by rw [HDS.out]; exact rd_set2 HK.out HRD.out⟩,
          (hb.setCell (p := ⟨w.heap.size, 0, none⟩) (Nat.le_refl _) _).setCell (p := ⟨w.heap.size, 1, none⟩) (Nat.le_refl _) _⟩
    · have h0' : (0 : Int) < (m : Int) := by omega
      have hm64 : (m : Int) ≤ 18446744073709551615 := by omega
      have hstep : dec10 n = (ds ++ [m % 10]) ++ dec10 (m / 10) := by rw [HD.out, dec10_pos h0]; simp
      have HS := Lib.hid hstep
      clear hstep
      go_wp2_with (at_builtin; refine wpList_append_own _ rfl _ _ 22 rfl (w.heap.size + 1) 5 i0 (.int .u8 0) 1 1 Tryd.underlying22 hi hz0 hz1 hz2 rfl (by decide) _ _ _ rfl (hown.alloc _) ⟨wr.heap.size, 0, none⟩ 1 1 [.int .u8 ((m : Int) % 10)] rfl rfl ?c1 ?c2 ?c3 ?c4 ?c5 ?_)
      case c1 => exact one_new _ _ _
      case c2 => intro u hu; simp at hu; subst hu; rfl
      case c3 => unfold maxLen; omega
      case c4 => omega
      case c5 => have := hb.size; have := iter_lt HK.out; simp; omega
      intro v' w2 hown' hgrow _
      have hk2 : w2.heap[w.heap.size]? = some (.cells #[.bool false, .slice none 0 0] 24 (0, 0)) := by
        rw [hgrow.block _ (by have := iter_lt HK.out; rw [heap_size_alloc]; omega) (fun e => by have := (hown.lt _ e.symm).1; omega), Below.heap_alloc _ _ _ (iter_lt HK.out)]
        exact HK.out
      have HK2 := Lib.hid hk2
      clear hk2
      go_wp2_with fail
      refine ⟨⟨m / 10, ds ++ [m % 10], by go_num, by omega, HS.out, ?_, (hb.alloc hb.size _).grown hgrow (by have := hb.size; rw [heap_size_alloc]; omega) (fun k hk => by have := (hown.lt k hk).1; omega), HK2.out⟩, ?_⟩
      · rw [u8s_append, List.length_append]
        exact hown'
      · simp [natOf]
        omega

/-- The decimal text of a number. -/
def signText (neg : Bool) : List UInt8 := if neg = true then [45] else []
def numText (neg : Bool) (ds : List Nat) : List UInt8 :=
  if ds = [] then [48] else signText neg ++ ds.reverse.map fun d => UInt8.ofNat (48 + d)

set_option maxRecDepth 100000 in
theorem conv_bytes {w : World} {base n : Nat} {v : Value} {l : List UInt8} (h : w.ownsRow base 5 1 v n (Lib.byteCells l)) :
    (convert 22 9 v).run Tryd.prog w = .ok (.string (S l)) w := by
  have hl : l.length = n := by have := h.1; rw [Lib.byteCells_length] at this; omega
  rcases h.2 with ⟨rfl, rfl⟩ | ⟨g, cap, cur, rfl, _⟩
  · obtain rfl : l = [] := List.eq_nil_of_length_eq_zero hl
    exact run_convert_bytes_nil w _ _ Tryd.underlying22 Tryd.underlying5 0 0 _ Tryd.underlying9
  · have := run_convert_bytes_arg (P := Tryd.prog) w 22 5 Tryd.underlying22 Tryd.underlying5 g 0 n cap (l.map fun b => (b.toNat : Int)) (by simpa using hl) (fun i hi => ?_) 9 Tryd.underlying9
    · rw [this]
      congr 2
      unfold strOfNums S
      congr 2
      rw [List.map_map]
      conv => rhs; rw [← List.map_id l]
      apply List.map_congr_left
      intro b _
      simp
    · have hc := h.cells (g := g) rfl i (.int .u8 ((l.map fun b => (b.toNat : Int)).getD i 0)) (by
        have hi2 : i < l.length := by omega
        simp [Lib.byteCells, List.getElem?_eq_getElem hi2, List.getD_eq_getElem?_getD])
      have ha : (⟨g, 0, none⟩ : Addr).add i = ⟨g, 0 + i, none⟩ := by unfold Addr.add; split <;> simp_all
      rwa [ha] at hc

/-- The first k characters of a number's text. -/
def chars (neg : Bool) (ds : List Nat) (k : Nat) : List UInt8 := signText neg ++ (ds.reverse.take k).map fun d => UInt8.ofNat (48 + d)
def TextRel (neg : Bool) (ds : List Nat) (A : Option Addr) (c : Nat) (w : World) (s i : Value) (wr : World) : Prop :=
  ∃ k : Nat, i = .int .i64 ((ds.length : Int) - 1 - k) ∧ k ≤ ds.length ∧ wr.ownsRow (w.heap.size + 1) 5 1 s (chars neg ds k).length (Lib.byteCells (chars neg ds k)) ∧ Below w.heap.size w wr ∧
    wr.heap[w.heap.size]? = some (.cells #[.bool neg, .slice A ds.length c] 24 (0, 0))

end Go.Proofs.YtikacehcjaaamaaDoor
