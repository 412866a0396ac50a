/-
  The reference's numbers: OfUint, Text.
-/
import Derived.Test.YtfbaocoeiobolaaSpecNum
namespace Go.Proofs.Ytfbaocoeiobolaa
open Go.RowKit
attribute [local simp] S_extract S_append

/-- Decimal digits, the lowest one first. -/
def dec10 (n : Nat) : List Nat := if h : n = 0 then [] else n % 10 :: dec10 (n / 10)
termination_by n
decreasing_by omega
theorem dec10_zero : dec10 0 = [] := by unfold dec10; rfl
theorem dec10_pos {n : Nat} (h : n ≠ 0) : dec10 n = n % 10 :: dec10 (n / 10) := by
  conv => lhs; unfold dec10
  rw [dif_neg h]

theorem dec10_length : ∀ (k n : Nat), n < 10 ^ k → (dec10 n).length ≤ k
  | 0, n, h => by
    have : n = 0 := by simpa using h
    subst this
    rw [dec10_zero]
    simp
  | k + 1, n, h => by
    by_cases h0 : n = 0
    · subst h0
      rw [dec10_zero]
      simp
    · rw [dec10_pos h0, List.length_cons]
      have := dec10_length k (n / 10) (by rw [Nat.pow_succ] at h; omega)
      omega

def OfRel (n : Nat) (w : World) (u d : Value) (wr : World) : Prop :=
  ∃ (m : Nat) (ds : List Nat), u = .int .u64 m ∧ m ≤ n ∧ dec10 n = ds ++ dec10 m ∧ wr.ownsRow (w.heap.size + 1) 5 1 d ds.length (u8s ds) ∧ Below w.heap.size w wr ∧
    wr.heap[w.heap.size]? = some (.cells #[.bool false, .slice none 0 0] 25 (0, 0))
def natOf : Value → Nat | .int _ n => n.toNat | _ => 0

set_option maxRecDepth 100000 in
set_option maxHeartbeats 1000000 in
theorem ofUint_walk (n : Nat) (w : World) (hn : n < 18446744073709551616) :
    Calls Try.prog 11 #[.int .u64 n] w (NumPost w false (dec10 n)) := by
  obtain ⟨i0, hi, hz0, hz1, hz2⟩ := info_parts infoByte
  go_enter Try.func11, Try.ntmps11
  go_wp2_with fail
  go_loopw [0, 3] (fun u d wr => OfRel n w u d wr) (fun u _ _ => natOf u)
  case atStart => exact ⟨n, [], rfl, Nat.le_refl _, by simp, World.ownsRow_nil _ _ _ _, (Below.refl _ _).alloc (Nat.le_refl _) _, heap_here _ _⟩
  case round =>
    obtain ⟨m, ds, rfl, hm, hd, hown, hb, hk⟩ := hrel
    have hdl : ds.length ≤ 20 := by
      have h1 := dec10_length 20 n (by omega)
      rw [hd, List.length_append] at h1
      omega
    have HD := Lib.hid hd
    have HK := Lib.hid hk
    clear hd hk
    by_cases h0 : m = 0
    · subst h0
      have hds : dec10 n = ds := by rw [HD.out, dec10_zero, List.append_nil]
      obtain ⟨A, c, rfl, hc1, hc2, hrd⟩ := own_rd hown (u8s_length ds)
      have c0 := num_cell0 HK.out
      have c1 := num_cell1 HK.out
      have f0 := one_free HK.out 0
      have f1 := one_free HK.out 1
      have HDS := Lib.hid hds
      have HRD := Lib.hid hrd
      clear hds hrd hown
      go_wp2_with fail
      have k0 := cells_set (cells_set HK.out 0 (.bool false)) 1 (.slice A ds.length c)
      have d0 := num_cell0 k0
      have d1 := num_cell1 k0
      exact bodyPost_ret (v := .agg #[.bool false, .slice A ds.length c]) (by simp [results, Try.results11, go_sem, d0, d1]) rfl
        ⟨.agg #[.bool false, .slice A ds.length c], rfl, ⟨A, c, by rw [HDS.out], by rw [HDS.out]; exact hc1, hc2, by rw [HDS.out]; exact rd_set2 HK.out HRD.out⟩,
          (hb.setCell (p := ⟨w.heap.size, 0, none⟩) (Nat.le_refl _) _).setCell (p := ⟨w.heap.size, 1, none⟩) (Nat.le_refl _) _⟩
    · have h0' : (0 : Int) < (m : Int) := by omega
      have hm64 : (m : Int) ≤ 18446744073709551615 := by omega
      have hstep : dec10 n = (ds ++ [m % 10]) ++ dec10 (m / 10) := by rw [HD.out, dec10_pos h0]; simp
      have HS := Lib.hid hstep
      clear hstep
      go_wp2_with (at_builtin; refine wpList_append_own _ rfl _ _ 23 rfl (w.heap.size + 1) 5 i0 (.int .u8 0) 1 1 Try.underlying23 hi hz0 hz1 hz2 rfl (by decide) _ _ _ rfl (hown.alloc _) ⟨wr.heap.size, 0, none⟩ 1 1 [.int .u8 ((m : Int) % 10)] rfl rfl ?c1 ?c2 ?c3 ?c4 ?c5 ?_)
      case c1 => exact one_new _ _ _
      case c2 => intro u hu; simp at hu; subst hu; rfl
      case c3 => unfold maxLen; omega
      case c4 => omega
      case c5 => have := hb.size; have := iter_lt HK.out; simp; omega
      intro v' w2 hown' hgrow _
      have hk2 : w2.heap[w.heap.size]? = some (.cells #[.bool false, .slice none 0 0] 25 (0, 0)) := by
        rw [hgrow.block _ (by have := iter_lt HK.out; rw [heap_size_alloc]; omega) (fun e => by have := (hown.lt _ e.symm).1; omega), Below.heap_alloc _ _ _ (iter_lt HK.out)]
        exact HK.out
      have HK2 := Lib.hid hk2
      clear hk2
      go_wp2_with fail
      refine ⟨⟨m / 10, ds ++ [m % 10], by go_num, by omega, HS.out, ?_, (hb.alloc hb.size _).grown hgrow (by have := hb.size; rw [heap_size_alloc]; omega) (fun k hk => by have := (hown.lt k hk).1; omega), HK2.out⟩, ?_⟩
      · rw [u8s_append, List.length_append]
        exact hown'
      · simp [natOf]
        omega

/-- The decimal text of a number. -/
def signText (neg : Bool) : List UInt8 := if neg = true then [45] else []
def numText (neg : Bool) (ds : List Nat) : List UInt8 :=
  if ds = [] then [48] else signText neg ++ ds.reverse.map fun d => UInt8.ofNat (48 + d)

theorem conv_bytes {w : World} {base n : Nat} {v : Value} {l : List UInt8} (h : w.ownsRow base 5 1 v n (Lib.byteCells l)) :
    (convert 23 9 v).run Try.prog w = .ok (.string (S l)) w := by
  have hl : l.length = n := by have := h.1; rw [Lib.byteCells_length] at this; omega
  rcases h.2 with ⟨rfl, rfl⟩ | ⟨g, cap, cur, rfl, _⟩
  · obtain rfl : l = [] := List.eq_nil_of_length_eq_zero hl
    exact run_convert_bytes_nil w _ _ Try.underlying23 Try.underlying5 0 0 _ Try.underlying9
  · have := run_convert_bytes_arg (P := Try.prog) w 23 5 Try.underlying23 Try.underlying5 g 0 n cap (l.map fun b => (b.toNat : Int)) (by simpa using hl) (fun i hi => ?_) 9 Try.underlying9
    · rw [this]
      congr 2
      unfold strOfNums S
      congr 2
      rw [List.map_map]
      conv => rhs; rw [← List.map_id l]
      apply List.map_congr_left
      intro b _
      simp
    · have hc := h.cells (g := g) rfl i (.int .u8 ((l.map fun b => (b.toNat : Int)).getD i 0)) (by
        have hi2 : i < l.length := by omega
        simp [Lib.byteCells, List.getElem?_eq_getElem hi2, List.getD_eq_getElem?_getD])
      have ha : (⟨g, 0, none⟩ : Addr).add i = ⟨g, 0 + i, none⟩ := by unfold Addr.add; split <;> simp_all
      rwa [ha] at hc

/-- The first k characters of a number's text. -/
def chars (neg : Bool) (ds : List Nat) (k : Nat) : List UInt8 := signText neg ++ (ds.reverse.take k).map fun d => UInt8.ofNat (48 + d)
def TextRel (neg : Bool) (ds : List Nat) (A : Option Addr) (c : Nat) (w : World) (s i : Value) (wr : World) : Prop :=
  ∃ k : Nat, i = .int .i64 ((ds.length : Int) - 1 - k) ∧ k ≤ ds.length ∧ wr.ownsRow (w.heap.size + 1) 5 1 s (chars neg ds k).length (Lib.byteCells (chars neg ds k)) ∧ Below w.heap.size w wr ∧
    wr.heap[w.heap.size]? = some (.cells #[.bool neg, .slice A ds.length c] 25 (0, 0))

set_option maxRecDepth 100000 in
set_option maxHeartbeats 1000000 in
theorem text_walk (v : Value) (neg : Bool) (ds : List Nat) (w : World) (hv : NumIs w v neg ds) (hd : ∀ d ∈ ds, d < 10) (hl : ds.length ≤ 1000000) :
    Calls Try.prog 12 #[v] w fun e w' => e = .returned (.string (S (numText neg ds))) ∧ Below w.heap.size w w' := by
  obtain ⟨i0, hi, hz0, hz1, hz2⟩ := info_parts infoByte
  obtain ⟨A, c, rfl, hc, hm, hr⟩ := hv
  by_cases h0 : ds = []
  · subst h0
    go_enter Try.func12, Try.ntmps12
    go_wp2_with fail
    go_ret
    exact ⟨rfl, (Below.refl _ _).alloc (Nat.le_refl _) _⟩
  · have h0' : 0 < ds.length := by cases ds with | nil => exact absurd rfl h0 | cons a b => simp
    have hlen : ((ds.length : Int) == 0) = false := beq_eq_false_iff_ne.2 (by omega)
    have HR := Lib.hid hr
    have HD := Lib.hid hd
    clear hr hd
    go_enter Try.func12, Try.ntmps12
    go_upto_if 10 with fail
    go_cut [3] (fun v wx => wx.ownsRow (w.heap.size + 1) 5 1 v (signText neg).length (Lib.byteCells (signText neg)) ∧ Below w.heap.size w wx ∧ wx.heap[w.heap.size]? = some (.cells #[.bool neg, .slice A ds.length c] 25 (0, 0)))
    case first =>
      have hk := heap_here w (.cells #[.bool neg, .slice A ds.length c] 25)
      have HK := Lib.hid hk
      clear hk
      cases neg with
      | false =>
        go_wp2_with fail
        go_meet
        exact ⟨World.ownsRow_nil _ _ _ _, (Below.refl _ _).alloc (Nat.le_refl _) _, HK.out⟩
      | true =>
        go_wp2_with (at_builtin; refine wpList_append_own _ rfl _ _ 23 rfl (w.heap.size + 1) 5 i0 (.int .u8 0) 1 1 Try.underlying23 hi hz0 hz1 hz2 rfl (by decide) _ _ _ rfl (World.ownsRow_nil _ _ _ _) ⟨w.heap.size + 1, 0, none⟩ 1 1 [.int .u8 45] rfl rfl ?c1 ?c2 ?c3 ?c4 ?c5 ?_)
        case c1 => have := one_new (w.alloc (.cells #[.bool true, .slice A ds.length c] 25)) (.int .u8 45) 5; rw [heap_size_alloc] at this; exact this
        case c2 => intro u hu; simp at hu; subst hu; rfl
        case c3 => unfold maxLen; omega
        case c4 => omega
        case c5 => simp
        intro v' w2 hown' hgrow _
        go_wp2_with fail
        go_meet
        refine ⟨hown', (((Below.refl _ _).alloc (Nat.le_refl _) _).alloc (by rw [heap_size_alloc]; omega) _).grown hgrow (by simp only [heap_size_alloc]; omega) (fun k hk => by simp [Value.ownBlock] at hk), ?_⟩
        rw [hgrow.block _ (by simp only [heap_size_alloc]; omega) (by simp [Value.ownBlock]), Below.heap_alloc _ _ _ (by rw [heap_size_alloc]; omega)]
        exact HK.out
    case rest =>
      obtain ⟨hown, hb, hk⟩ := hcut
      have hlen3 : (signText neg).length ≤ 1 := by unfold signText; split <;> simp
      have HK := Lib.hid hk
      have c0 := num_cell0 hk
      have c1 := num_cell1 hk
      clear hk
      go_wp2_with fail
      have HW := Lib.hid hown
      clear hown c0 c1
      go_loopw [3, 4] (fun s i wr => TextRel neg ds A c w s i wr) (fun _ i _ => (intOf i + 1).toNat)
      case atStart => exact ⟨0, by simp, Nat.zero_le _, by simpa [chars] using HW.out, hb, HK.out⟩
      case round =>
        obtain ⟨k, rfl, hk, hown, hbr, hkr⟩ := hrel
        have c0 := num_cell0 hkr
        have c1 := num_cell1 hkr
        have HK2 := Lib.hid hkr
        clear hkr HW HK
        by_cases hlt : k < ds.length
        · obtain ⟨m, hm0, hm1, hm2⟩ : ∃ m : Nat, (ds.length : Int) - 1 - k = m ∧ m < ds.length ∧ m + k + 1 = ds.length := ⟨ds.length - k - 1, by omega, by omega, by omega⟩
          obtain ⟨d, hd⟩ : ∃ d, ds[m]'hm1 = d := ⟨_, rfl⟩
          have hd10 : d < 10 := HD.out d (by rw [← hd]; exact List.getElem_mem _)
          have hcell : ∃ x, A = some x ∧ wr.cell? (x.add m) = some (.int .u8 d) := by
            rcases HR.out.below hbr with h | ⟨x, rfl, h⟩
            · have := congrArg List.length h
              rw [u8s_length, List.length_nil] at this
              omega
            · exact ⟨x, rfl, h m _ (by simp [u8s, List.getElem?_eq_getElem hm1, hd])⟩
          obtain ⟨x, rfl, hcell⟩ := hcell
          have hsnoc : chars neg ds (k + 1) = chars neg ds k ++ [UInt8.ofNat (48 + d)] := by
            unfold chars
            have hk3 : k < ds.reverse.length := by simpa using hlt
            rw [List.take_succ_eq_append_getElem hk3, List.map_append, List.append_assoc]
            congr 2
            have : ds.reverse[k]'hk3 = d := by
              rw [List.getElem_reverse, ← hd]
              congr 1
              omega
            simp [this]
          have hchl : (chars neg ds k).length ≤ 1000001 := by
            unfold chars
            simp
            omega
          have hd0 : (0 : Int) ≤ (d : Int) := by omega
          have hd1 : (d : Int) < 10 := by omega
          have hm3 : (0 : Int) ≤ (m : Int) := by omega
          have hm4 : (m : Int) < (ds.length : Int) := by omega
          have HSN := Lib.hid hsnoc
          have HD3 := Lib.hid hd
          have HM0 := Lib.hid hm0
          rw [hm0]
          clear hsnoc hd hm0 HR HD
          go_wp2_with (at_builtin; refine wpList_append_own _ rfl _ _ 23 rfl (w.heap.size + 1) 5 i0 (.int .u8 0) 1 1 Try.underlying23 hi hz0 hz1 hz2 rfl (by decide) _ _ _ rfl (hown.alloc _) ⟨wr.heap.size, 0, none⟩ 1 1 [.int .u8 (48 + (d : Int))] rfl rfl ?c1 ?c2 ?c3 ?c4 ?c5 ?_)
          case c1 => exact one_new _ _ _
          case c2 => intro u hu; simp at hu; subst hu; rfl
          case c3 => unfold maxLen; omega
          case c4 => omega
          case c5 => have := hbr.size; have := iter_lt HK2.out; simp; omega
          intro v' w2 hown' hgrow _
          have hk2 : w2.heap[w.heap.size]? = some (.cells #[.bool neg, .slice (some x) ds.length c] 25 (0, 0)) := by
            rw [hgrow.block _ (by have := iter_lt HK2.out; rw [heap_size_alloc]; omega) (fun e => by have := (hown.lt _ e.symm).1; omega), Below.heap_alloc _ _ _ (iter_lt HK2.out)]
            exact HK2.out
          have HK3 := Lib.hid hk2
          clear hk2
          go_wp2_with fail
          refine ⟨⟨k + 1, by rw [show (ds.length : Int) - 1 - ((k + 1 : Nat) : Int) = (m : Int) - 1 from by omega], by omega, ?_, (hbr.alloc hbr.size _).grown hgrow (by have := hbr.size; rw [heap_size_alloc]; omega) (fun k hk => by have := (hown.lt k hk).1; omega), HK3.out⟩, ?_⟩
          · rw [HSN.out, Lib.byteCells_append, List.length_append]
            have e4 : Lib.byteCells [UInt8.ofNat (48 + d)] = [Value.int .u8 (48 + (d : Int))] := by
              simp [Lib.byteCells]
              omega
            rw [e4]
            exact hown'
          · simp [intOf]
        · have hkl : k = ds.length := by omega
          subst hkl
          have hfin : numText neg ds = chars neg ds ds.length := by
            unfold numText chars
            rw [if_neg h0, List.take_of_length_le (by simp)]
          have hneg : ((ds.length : Int) - 1 - (ds.length : Int)) = -1 := by omega
          have hconv := conv_bytes hown
          have HF := Lib.hid hfin
          rw [hneg]
          clear hfin hneg
          go_wp2_with fail
          go_ret
          rw [HF.out]
          exact ⟨rfl, hbr⟩
end Go.Proofs.Ytfbaocoeiobolaa
