/-
  bytes.Reader.
  math/big's scan of a decimal text in base 0 from a bytes.Reader.
-/
import Derived.Test.YtiohlcfdoleooaaGreatDoorSetStr0
namespace Go.Proofs.YtiohlcfdoleooaaGreatDoor
open Go.RowKit

/-- Block g is a bytes.Reader of l, at place i; its text lies in an older block. -/
def BReaderAt (w : World) (g : Nat) (l : List UInt8) (i : Nat) : Prop := ∃ (pr : Int) (A : Addr) (c : Nat), w.heap[g]? = some (.cells #[.slice (some A) l.length c, .int .i64 i, .int .i64 pr] 163 (0, 0)) ∧
  (∀ j (h : j < l.length), w.cell? (A.add j) = some (.int .u8 (l[j].toNat : Int))) ∧ A.block < g
theorem BReaderAt.lt {w : World} {g : Nat} {l : List UInt8} {i : Nat} (h : BReaderAt w g l i) : g < w.heap.size := by obtain ⟨_, _, _, h, _⟩ := h; exact iter_lt h
theorem BReaderAt.belowB {B : Nat} {w w' : World} {g : Nat} {l : List UInt8} {i : Nat} (h : BReaderAt w g l i) (hB : g < B) (hb : Below B w w') : BReaderAt w' g l i := by
  obtain ⟨pr, A, c, h, h2, h3⟩ := h
  exact ⟨pr, A, c, (hb.block g hB).trans h, fun j hj => (hb.cell (by rw [add_block]; omega)).trans (h2 j hj), h3⟩
/-- The text's bytes lie in no big.Int. -/
theorem BReaderAt.int2 {w : World} {g gz : Nat} {l : List UInt8} {i : Nat} {x : Bool} {B : Option Addr} {n m : Nat} {T : TypeId} {u1 u2 : Value} (h : BReaderAt w g l i) (hz : w.heap[gz]? = some (.cells #[.bool x, .slice B n m] T (0, 0))) (hl : 0 < l.length) (hne : g ≠ gz) :
    BReaderAt ((w.setCell ⟨gz, 1, none⟩ u1).setCell ⟨gz, 0, none⟩ u2) g l i := by
  obtain ⟨pr, A, c, h1, h2, h3⟩ := h
  have hA : A.block ≠ gz := by
    intro hb
    have h4 := h2 0 hl
    have e : A.add 0 = A := by unfold Addr.add; rw [if_pos rfl]
    rw [e] at h4
    have hcell : w.cell? A = if A.spot.isSome then none else (#[Value.bool x, .slice B n m])[A.off]? := by simp [World.cell?, hb, hz]
    rw [hcell] at h4
    split at h4
    · cases h4
    · have h5 := Array.mem_of_getElem? h4
      simp at h5
  exact ⟨pr, A, c, (one_other hne).trans ((one_other hne).trans h1), fun j hj => (cell_other (by rw [add_block]; exact hA)).trans ((cell_other (by rw [add_block]; exact hA)).trans (h2 j hj)), h3⟩
theorem reader_wordsB {w : World} {g : Nat} {l : List UInt8} {i : Nat} {A : Option Addr} {ws : List Nat} (hr : BReaderAt w g l i) (h : Rd w A (nums .u64 ws)) : nums .u64 ws ≠ [] → ∀ a, A = some a → a.block ≠ g := by
  obtain ⟨pr, B, c, hk, _⟩ := hr
  refine words_apart hk (fun v hv n => ?_) h
  simp at hv
  rcases hv with rfl | rfl | rfl <;> simp

set_option maxRecDepth 100000 in
set_option maxHeartbeats 1000000 in
theorem newReaderB_walk (l : List UInt8) (A : Addr) (c : Nat) (w : World) (hb : ∀ j (h : j < l.length), w.cell? (A.add j) = some (.int .u8 (l[j].toNat : Int))) (hA : A.block < w.heap.size) :
    Calls Tryz.prog 175 #[.slice (some A) l.length c] w fun e w' => e = .returned (.pointer (some ⟨w.heap.size, 0, none⟩)) ∧ BReaderAt w' w.heap.size l 0 ∧ Below w.heap.size w w' := by
  have HB := Lib.hid hb
  clear hb
  go_enter Tryz.func175, Tryz.ntmps175
  go_wp2_with fail
  go_ret
  exact ⟨rfl, ⟨-1, A, c, heap_here _ _, fun j hj => (Below.cell (below_a1 _ _) (by rw [add_block]; exact hA)).trans (HB.out j hj), hA⟩, below_a1 _ _⟩

/-- What ReadByte leaves behind. -/
def ReadPostB (w : World) (g : Nat) (l : List UInt8) (i : Nat) (v : Value) (e : Ending) (w' : World) : Prop := e = .returned v ∧ BReaderAt w' g l i ∧ Ext (fun b => b = g) w w' ∧ w'.heap.size = w.heap.size

set_option maxRecDepth 100000 in
set_option maxHeartbeats 1000000 in
theorem readByteB_walk (g : Nat) (l : List UInt8) (i : Nat) (p : Addr) (w : World) (hr : BReaderAt w g l i) (hl : l.length ≤ 140737488355328) (hp : EofIs w p) (hg : g ≠ 2) (hi : i ≤ l.length) :
    Calls Tryz.prog 341 #[.pointer (some ⟨g, 0, none⟩)] w
      (ReadPostB w g l (min (i + 1) l.length) (.tuple #[.int .u8 ((l.getD i 0).toNat : Int), nextErr l i p])) := by
  obtain ⟨pr, A, c, hk, hb, hA⟩ := hr
  have c0 := three0 hk
  have c1 := three1 hk
  have c2 := three2 hk
  have f0 := one_free hk 0
  have f1 := one_free hk 1
  have f2 := one_free hk 2
  have HK := Lib.hid hk
  clear hk
  obtain ⟨w2, hw2⟩ : ∃ w2, w.setCell ⟨g, 2, none⟩ (.int .i64 (-1)) = w2 := ⟨_, rfl⟩
  have k2 : w2.heap[g]? = some (.cells #[.slice (some A) l.length c, .int .i64 i, .int .i64 (-1)] 163 (0, 0)) := by rw [← hw2]; exact cells_set HK.out 2 _
  have b2 : ∀ j (h : j < l.length), w2.cell? (A.add j) = some (.int .u8 (l[j].toNat : Int)) := by
    intro j h
    rw [← hw2]
    exact (cell_other (by rw [add_block]; exact Nat.ne_of_lt hA)).trans (hb j h)
  have hE : w2.cell? ⟨2, 0, none⟩ = some (.iface 145 (.pointer (some p))) := by rw [← hw2]; exact (cell_other (by exact Ne.symm hg)).trans hp
  have hx : Ext (fun b => b = g) w w2 := by rw [← hw2]; exact Ext.setCell (D := fun b => b = g) (Ext.refl _ _) (fun _ => rfl) _
  have hsz : w2.heap.size = w.heap.size := by rw [← hw2]; simp [World.setCell]
  have d0 := three0 k2
  have d1 := three1 k2
  have d2 := three2 k2
  have e0 := one_free k2 0
  have e1 := one_free k2 1
  have K2 := Lib.hid k2
  have B2 := Lib.hid b2
  have HA := Lib.hid hA
  clear k2 b2 hb hA
  by_cases h : i < l.length
  · have h' : ¬ (l.length : Int) ≤ i := by omega
    have h2 : (i : Int) < l.length := by omega
    have hd : l.getD i 0 = l[i] := by simp [List.getD_eq_getElem?_getD, List.getElem?_eq_getElem h]
    have hn : nextErr l i p = .nilIface := if_pos h
    rw [hn, hd, Nat.min_eq_left (by omega)]
    have hbi := B2.out i h
    obtain ⟨x, hx0⟩ : ∃ x, (l[i]).toNat = x := ⟨_, rfl⟩
    rw [hx0] at hbi ⊢
    clear hd hx0
    go_enter Tryz.func341, Tryz.ntmps341
    go_wp2_with fail
    go_quiet (fail)
    go_wp2_with fail
    have hi0 : (0 : Int) ≤ i := by omega
    go_quiet (fail)
    go_wp2_with fail
    exact bodyPost_ret (v := .tuple #[.int .u8 (x : Int), .nilIface]) (by simp [results, Tryz.results341, go_sem]) rfl
      ⟨rfl, ⟨-1, A, c, cells_set (w := w2.drewN _) K2.out 1 (.int .i64 ((i + 1 : Nat) : Int)), fun j hj => (cell_other (by rw [add_block]; exact Nat.ne_of_lt HA.out)).trans (B2.out j hj), HA.out⟩, (hx.drewN _).setCell (p := ⟨g, 1, none⟩) (fun _ => rfl) _, by simpa [World.setCell] using hsz⟩
  · have h' : (l.length : Int) ≤ i := by omega
    have hn : nextErr l i p = .iface 145 (.pointer (some p)) := if_neg h
    have hd : l.getD i 0 = 0 := by simp [List.getD_eq_getElem?_getD, List.getElem?_eq_none (show l.length ≤ i by omega)]
    have hil : min (i + 1) l.length = i := by omega
    rw [hn, hd, hil]
    clear hn hd hil
    go_enter Tryz.func341, Tryz.ntmps341
    go_wp2_with fail
    go_quiet (fail)
    go_wp2_with fail
    go_quiet (fail)
    go_wp2_with fail
    exact bodyPost_ret (v := .tuple #[.int .u8 0, .iface 145 (.pointer (some p))]) (by simp [results, Tryz.results341, go_sem]) rfl
      ⟨rfl, ⟨-1, A, c, K2.out, B2.out, HA.out⟩, (hx.drewN _).drewN _, hsz⟩

set_option maxRecDepth 100000 in
set_option maxHeartbeats 1000000 in
theorem unreadByteB_walk (g : Nat) (l : List UInt8) (i : Nat) (w : World) (hr : BReaderAt w g l (i + 1)) (hl : l.length ≤ 140737488355328) (hi : i + 1 ≤ l.length) :
    Calls Tryz.prog 342 #[.pointer (some ⟨g, 0, none⟩)] w (ReadPostB w g l i .nilIface) := by
  obtain ⟨pr, A, c, hk, hb, hA⟩ := hr
  have c1 := three1 hk
  have c2 := three2 hk
  have f1 := one_free hk 1
  have f2 := one_free hk 2
  have hi1 : ((i + 1 : Nat) : Int) = (i : Int) + 1 := by omega
  rw [hi1] at c1
  have h0 : ¬ (i : Int) + 1 ≤ 0 := by omega
  have h3 : (i : Int) + 1 ≤ 140737488355328 := by omega
  have HK := Lib.hid hk
  have HB := Lib.hid hb
  have HA := Lib.hid hA
  clear hk hb hA
  go_enter Tryz.func342, Tryz.ntmps342
  go_wp2_with fail
  exact bodyPost_ret (v := .nilIface) (by simp [results, Tryz.results342, go_sem]) rfl
    ⟨rfl, ⟨-1, A, c, cells_set (cells_set HK.out 2 (.int .i64 (-1))) 1 (.int .i64 (i : Int)), fun j hj => (cell_other (by rw [add_block]; exact Nat.ne_of_lt HA.out)).trans ((cell_other (by rw [add_block]; exact Nat.ne_of_lt HA.out)).trans (HB.out j hj)), HA.out⟩, Ext.setCell (D := fun b => b = g) (Ext.setCell (D := fun b => b = g) (Ext.refl _ _) (fun _ => rfl) _) (fun _ => rfl) _, by simp [World.setCell]⟩

set_option maxRecDepth 100000 in
theorem met_readB (g : Nat) (w : World) : (method 382 129 (.pointer (some ⟨g, 0, none⟩)) "ReadByte").run Tryz.prog w = .ok (341, .pointer (some ⟨g, 0, none⟩)) w := by kernel_rfl
set_option maxRecDepth 100000 in
theorem met_unreadB (g : Nat) (w : World) : (method 382 129 (.pointer (some ⟨g, 0, none⟩)) "UnreadByte").run Tryz.prog w = .ok (342, .pointer (some ⟨g, 0, none⟩)) w := by kernel_rfl

set_option maxRecDepth 100000 in
set_option maxHeartbeats 1000000 in
theorem scanSignB_walk (g : Nat) (c : UInt8) (l : List UInt8) (p : Addr) (w : World) (hr : BReaderAt w g (c :: l) 0) (hl : (c :: l).length ≤ 140737488355328) (hp : EofIs w p) (hg : g ≠ 2) (hc : c ≠ 43) :
    Calls Tryz.prog 215 #[.iface 129 (.pointer (some ⟨g, 0, none⟩))] w
      (ReadPostB w g (c :: l) (if c = 45 then 1 else 0) (.tuple #[.bool (c == 45), .nilIface])) := by
  have m1 := met_readB g
  have hn : nextErr (c :: l) 0 p = .nilIface := if_pos (by simp)
  have m2 := met_unreadB g
  have hcb : ((c.toNat : Int) == 43) = false := by
    have : ¬ ((c.toNat : Int) = 43) := fun k => hc (UInt8.toNat_inj.1 (show c.toNat = 43 by omega))
    exact beq_eq_false_iff_ne.2 this
  by_cases h : c = 45
  · subst h
    rw [if_pos rfl]
    go_enter Tryz.func215, Tryz.ntmps215
    go_wp2_with fail
    refine (readByteB_walk g _ 0 p _ hr hl hp hg (Nat.zero_le _)).mono ?_
    rw [hn]
    rintro e w1 ⟨rfl, hr1, hx1, hs1⟩
    go_wp2_with fail
    have e1 : min (0 + 1) (45 :: l).length = 1 := by simp
    rw [e1] at hr1
    exact bodyPost_ret (v := .tuple #[.bool true, .nilIface]) (by simp [results, Tryz.results215, go_sem]) rfl ⟨rfl, hr1, hx1, hs1⟩
  · have hcb2 : ((c.toNat : Int) == 45) = false := by
      have : ¬ ((c.toNat : Int) = 45) := fun k => h (UInt8.toNat_inj.1 (show c.toNat = 45 by omega))
      exact beq_eq_false_iff_ne.2 this
    have hcb3 : (c == 45) = false := beq_eq_false_iff_ne.2 h
    rw [if_neg h, hcb3]
    go_enter Tryz.func215, Tryz.ntmps215
    go_wp2_with fail
    refine (readByteB_walk g _ 0 p _ hr hl hp hg (Nat.zero_le _)).mono ?_
    rw [hn]
    rintro e w1 ⟨rfl, hr1, hx1, hs1⟩
    go_wp2_with fail
    have e1 : min (0 + 1) (c :: l).length = 0 + 1 := by simp
    rw [e1] at hr1
    refine (unreadByteB_walk g _ 0 _ hr1 hl (by simp)).mono ?_
    rintro e w2 ⟨rfl, hr2, hx2, hs2⟩
    go_wp2_with fail
    exact bodyPost_ret (v := .tuple #[.bool false, .nilIface]) (by simp [results, Tryz.results215, go_sem]) rfl ⟨rfl, hr2, hx1.trans hx2, hs2.trans hs1⟩

/-- scan's loop: k digits have been read. -/
def ScanRelB (w : World) (g : Nat) (l : List UInt8) (o : Nat) (p : Addr) (zv fv cnt ev pv iv chv dv nv dpv : Value) (wr : World) : Prop :=
  ∃ (k N A c d i : _) (q : Int), zv = .slice A (wds N).length c ∧ fv = .bool false ∧ cnt = .int .i64 (k : Nat) ∧ ev = nextErr l (o + k) p ∧ pv = .int .i32 q ∧ (q == 95) = false ∧ iv = .bool false ∧
    chv = .int .u8 ((l.getD (o + k) 0).toNat : Int) ∧ dv = .int .u64 (d : Nat) ∧ nv = .int .i64 (i : Nat) ∧ dpv = .int .i64 (-1) ∧ o + k ≤ l.length ∧ i < 19 ∧ d < 10 ^ i ∧ N * 10 ^ i + d = decV ((l.drop o).take k) ∧
    OwnNat w.heap.size wr A c N ∧ BReaderAt wr g l (min (o + k + 1) l.length) ∧ EofIs wr p ∧ Ext (fun b => b = g) w wr

set_option maxRecDepth 100000 in
set_option maxHeartbeats 2000000 in
theorem scan0B_walk (g : Nat) (l : List UInt8) (o : Nat) (p : Addr) (w : World) (hr : BReaderAt w g l o) (hl : l.length ≤ 1000) (hp : EofIs w p) (hg : g ≠ 2) (hgB : g < w.heap.size)
    (ho : o < l.length) (hnz : l[o] ≠ 48) (hd : allDig (l.drop o) = true) :
    Calls Tryz.prog 216 #[.slice none 0 0, .iface 129 (.pointer (some ⟨g, 0, none⟩)), .int .i64 0, .bool false] w
      fun e w' => ∃ A c n, e = .returned (.tuple #[.slice A (wds (decV (l.drop o))).length c, .int .i64 10, .int .i64 n, .nilIface]) ∧ OwnNat w.heap.size w' A c (decV (l.drop o)) ∧ BReaderAt w' g l l.length ∧ EofIs w' p ∧ Ext (fun b => b = g) w w' := by
  have hnzb : ((l[o].toNat : Int) == 48) = false := by
    have : ¬ ((l[o].toNat : Int) = 48) := fun k => hnz (UInt8.toNat_inj.1 (show l[o].toNat = 48 by omega))
    exact beq_eq_false_iff_ne.2 this
  have m1 := met_readB g
  have m2 := met_unreadB g
  go_enter Tryz.func216, Tryz.ntmps216
  go_wp2_with fail
  refine (readByteB_walk g l o p _ hr (by omega) hp hg (Nat.le_of_lt ho)).mono ?_
  have hn0 : nextErr l o p = .nilIface := if_pos ho
  rw [hn0]
  rintro e w1 ⟨rfl, hr1, hx1, hs1⟩
  have HR1 := Lib.hid hr1
  have HX1 := Lib.hid hx1
  go_wp2_with fail
  refine (maxPow_walk 10 19 w1 (by decide) (by decide) (by decide) (by decide) (by decide) (by decide)).mono ?_
  rintro e w2 ⟨rfl, rfl⟩
  clear hr1 hx1 hr
  go_wp2_with fail
  go_loopw [0, 3, 10, 11, 13, 14, 15, 20, 21, 22] (fun zv fv cnt ev pv iv chv dv nv dpv wr => ScanRelB w g l o p zv fv cnt ev pv iv chv dv nv dpv wr) (fun _ _ cnt _ _ _ _ _ _ _ _ => idxOf l.length cnt)
  case atStart =>
    refine ⟨0, 0, none, 0, 0, 0, 46, by rw [wds_zero]; rfl, rfl, rfl, ?_, rfl, rfl, rfl, ?_, rfl, rfl, rfl, by omega, by decide, by decide, by rw [List.take_zero, decV_nil], .inl ⟨rfl, rfl, rfl⟩, HR1.out, hp.ext HX1.out (fun h => hg h.symm), HX1.out⟩
    · exact hn0.symm
    · simp [List.getD_eq_getElem?_getD, List.getElem?_eq_getElem ho]
  case round =>
    obtain ⟨k, N, A, c, d, i, q, rfl, rfl, rfl, rfl, rfl, hq, rfl, rfl, rfl, rfl, rfl, hk, hi, hdl, hval, hown, hrd, heof, hx⟩ := hrel
    have hbig : 10 ^ i ≤ 10 ^ 18 := Nat.pow_le_pow_right (by decide) (by omega)
    have HVAL := Lib.hid hval
    have HOWN := Lib.hid hown
    have HX := Lib.hid hx
    clear hval hown hx
    by_cases hlt : o + k < l.length
    · have hne : nextErr l (o + k) p = .nilIface := by unfold nextErr; rw [if_pos hlt]
      rw [hne]
      have hgd : l.getD (o + k) 0 = l[o + k] := by simp [List.getD_eq_getElem?_getD, List.getElem?_eq_getElem hlt]
      obtain ⟨ch, hch⟩ : ∃ ch, l[o + k] = ch := ⟨_, rfl⟩
      have hmem : ch ∈ l.drop o := by
        rw [← hch]
        have : l[o + k] = (l.drop o)[k]'(by simp; omega) := by simp
        rw [this]
        exact List.getElem_mem _
      have hdg := allDig_digits hd
      have hch2 : 48 ≤ ch.toNat ∧ ch.toNat ≤ 57 := by
        have h1 := List.all_eq_true.1 hd ch hmem
        have h2 := h1
        rw [Bool.and_eq_true, decide_eq_true_eq, decide_eq_true_eq] at h2
        rw [UInt8.le_iff_toNat_le, UInt8.le_iff_toNat_le] at h2
        exact h2
      rw [hgd, hch]
      clear hgd hmem hdg
      obtain ⟨x, hxx⟩ : ∃ x, ch.toNat = x := ⟨_, rfl⟩
      have hdn : digN ch = x - 48 := by unfold digN; rw [hxx]
      rw [hxx] at hch2 ⊢
      have x1 : ((x : Int) == 46) = false := beq_eq_false_iff_ne.2 (by omega)
      have x2 : ((x : Int) == 95) = false := beq_eq_false_iff_ne.2 (by omega)
      have x3 : (48 : Int) ≤ x := by omega
      have x4 : (x : Int) ≤ 57 := by omega
      have x5 : ¬ (10 : Int) ≤ (x : Int) - 48 := by omega
      have hmin : min (o + k + 1) l.length = o + k + 1 := by omega
      rw [hmin] at hrd
      have hd2 : (d : Int) * 10 + ((x : Int) - 48) = ((d * 10 + (x - 48) : Nat) : Int) := by omega
      have hdl2 : d * 10 + (x - 48) < 10 ^ (i + 1) := by rw [Nat.pow_succ]; omega
      have hval2 : N * 10 ^ (i + 1) + (d * 10 + (x - 48)) = decV ((l.drop o).take (k + 1)) := by
        have htk : (l.drop o).take (k + 1) = (l.drop o).take k ++ [ch] := by
          rw [List.take_add_one, List.getElem?_drop, List.getElem?_eq_getElem hlt, hch]; rfl
        rw [htk, decV_snoc, ← HVAL.out, hdn, Nat.pow_succ, Nat.add_mul, Nat.mul_assoc]
        omega
      have HV2 := Lib.hid hval2
      have HD2 := Lib.hid hd2
      clear hval2 hd2 hne
      by_cases h18 : i = 18
      · have h18b : ((i : Int) + 1 == 19) = true := by rw [h18]; rfl
        have hwl := scan_len hd (by simp; omega) HVAL.out
        have hlt19 : d * 10 + (x - 48) < 18446744073709551616 := by rw [h18] at hdl2; omega
        go_wp2_with fail
        rw [HD2.out]
        refine (mulAddWW_walk w.heap.size A c N 10000000000000000000 (d * 10 + (x - 48)) wr HOWN.out (by have := HX.out.size; exact this) (by decide) (by decide) hlt19 hwl).mono ?_
        rintro e w3 ⟨A3, c3, rfl, hown3, hb3, hs3⟩
        have hr3 := hrd.belowB hgB hb3
        have he3 := heof.belowB hp.lt hb3
        have hv3 : N * 10000000000000000000 + (d * 10 + (x - 48)) = decV ((l.drop o).take (k + 1)) := by have := HV2.out; rw [h18] at this; exact this
        have HOW3 := Lib.hid hown3
        have HB3 := Lib.hid hb3
        obtain ⟨N3, hN3⟩ : ∃ N3, N * 10000000000000000000 + (d * 10 + (x - 48)) = N3 := ⟨_, rfl⟩
        rw [hN3] at hv3 HOW3 ⊢
        have HV3 := Lib.hid hv3
        clear hown3 hb3 hv3 hN3 hrd heof HD2
        go_wp2_with fail
        refine (readByteB_walk g l (o + k + 1) p w3 hr3 (by omega) he3 hg (by omega)).mono ?_
        rintro e w4 ⟨rfl, hr4, hx4, hs4⟩
        have HR4 := Lib.hid hr4
        have HX4 := Lib.hid hx4
        clear hr4 hx4
        go_wp2_with fail
        refine ⟨⟨k + 1, N3, A3, c3, 0, 0, 48, rfl, rfl, by go_num, rfl, rfl, rfl, rfl, rfl, rfl, rfl, rfl, by omega, by omega, by decide, by rw [← HV3.out]; simp, HOW3.out.ext HX4.out (fun b hb => by omega), HR4.out, he3.ext HX4.out (fun h => hg h.symm), (HX.out.belowB HB3.out).trans HX4.out⟩, by simp [idxOf]; omega⟩
      · have h18b : ((i : Int) + 1 == 19) = false := beq_eq_false_iff_ne.2 (by omega)
        go_wp2_with fail
        refine (readByteB_walk g l (o + k + 1) p wr hrd (by omega) heof hg (by omega)).mono ?_
        rintro e w3 ⟨rfl, hr3, hx3, hs3⟩
        have HR3 := Lib.hid hr3
        have HX3 := Lib.hid hx3
        clear hr3 hx3
        go_wp2_with fail
        refine ⟨⟨k + 1, N, A, c, d * 10 + (x - 48), i + 1, 48, rfl, rfl, by go_num, rfl, rfl, rfl, rfl, rfl, by rw [HD2.out], by go_num, rfl, by omega, by omega, hdl2, HV2.out, HOWN.out.ext HX3.out (fun b hb => by omega), HR3.out, heof.ext HX3.out (fun h => hg h.symm), HX.out.trans HX3.out⟩, by simp [idxOf]; omega⟩
    · have hne : nextErr l (o + k) p = .iface 145 (.pointer (some p)) := if_neg hlt
      rw [hne]
      have hkl : o + k = l.length := by omega
      have hk0 : ((k : Int) == 0) = false := beq_eq_false_iff_ne.2 (by omega)
      have he : wr.cell? ⟨2, 0, none⟩ = some (.iface 145 (.pointer (some p))) := heof
      have hee := eof_eq p
      have htk : (l.drop o).take k = l.drop o := List.take_of_length_le (by simp; omega)
      have hr9 : min (o + k + 1) l.length = l.length := by omega
      rw [hr9] at hrd
      by_cases hi0 : i = 0
      · have hi0b : decide ((0 : Int) < i) = false := decide_eq_false (by omega)
        have hN : decV (l.drop o) = N := by
          have := HVAL.out
          rw [htk, hi0] at this
          rw [hi0] at hdl
          simp at hdl
          simp [hdl] at this
          exact this.symm
        subst hN
        clear htk
        go_wp2_with fail
        exact bodyPost_ret (v := .tuple #[.slice A (wds (decV (l.drop o))).length c, .int .i64 10, .int .i64 (k : Int), .nilIface]) (by simp [results, Tryz.results216, go_sem]) rfl
          ⟨A, c, k, rfl, HOWN.out, hrd, heof, HX.out⟩
      · have hi0b : decide ((0 : Int) < i) = true := decide_eq_true (by omega)
        have hpw : 10 ^ i % 18446744073709551616 = 10 ^ i := Nat.mod_eq_of_lt (by omega)
        have hwl := scan_len hd (by simp; omega) HVAL.out
        have hp0 : 10 ^ i ≠ 0 := Nat.ne_of_gt (Nat.pow_pos (by decide))
        have hval := HVAL.out
        rw [htk] at hval
        have HP := Lib.hid (pow_walk 10 i wr (by decide) (by omega))
        rw [hpw] at HP
        obtain ⟨P, hP⟩ : ∃ P, 10 ^ i = P := ⟨_, rfl⟩
        rw [hP] at HP hval hp0 hbig hdl
        have hM := mulAddWW_walk w.heap.size A c N P d wr HOWN.out (by have := HX.out.size; exact this) hp0 (by omega) (by omega) hwl
        rw [hval] at hM
        have HM := Lib.hid hM
        clear hM hval hpw htk hP
        go_wp2_with fail
        refine HP.out.mono ?_
        rintro e w3 ⟨rfl, rfl⟩
        go_wp2_with fail
        refine HM.out.mono ?_
        rintro e w4 ⟨A4, c4, rfl, hown4, hb4, hs4⟩
        have HOW4 := Lib.hid hown4
        have HB4 := Lib.hid hb4
        clear hown4 hb4
        go_wp2_with fail
        exact bodyPost_ret (v := .tuple #[.slice A4 (wds (decV (l.drop o))).length c4, .int .i64 10, .int .i64 (k : Int), .nilIface]) (by simp [results, Tryz.results216, go_sem]) rfl
          ⟨A4, c4, k, rfl, HOW4.out, hrd.belowB hgB HB4.out, heof.belowB hp.lt HB4.out, HX.out.belowB HB4.out⟩

set_option maxRecDepth 100000 in
set_option maxHeartbeats 2000000 in
/-- The text 0. -/
theorem scanZeroB_walk (g : Nat) (p : Addr) (w : World) (hr : BReaderAt w g [48] 0) (hp : EofIs w p) (hg : g ≠ 2) :
    Calls Tryz.prog 216 #[.slice none 0 0, .iface 129 (.pointer (some ⟨g, 0, none⟩)), .int .i64 0, .bool false] w
      fun e w' => e = .returned (.tuple #[.slice none 0 0, .int .i64 10, .int .i64 1, .nilIface]) ∧ BReaderAt w' g [48] 1 ∧ EofIs w' p ∧ Ext (fun b => b = g) w w' := by
  have m1 := met_readB g
  have m2 := met_unreadB g
  have hn0 : nextErr [48] 0 p = .nilIface := rfl
  have hn1 : nextErr [48] 1 p = .iface 145 (.pointer (some p)) := rfl
  go_enter Tryz.func216, Tryz.ntmps216
  go_wp2_with fail
  refine (readByteB_walk g [48] 0 p _ hr (by decide) hp hg (by decide)).mono ?_
  rw [hn0]
  rintro e w1 ⟨rfl, hr1, hx1, hs1⟩
  have hp1 := hp.ext hx1 (fun h => hg h.symm)
  have HX1 := Lib.hid hx1
  have hr1' : BReaderAt w1 g [48] 1 := hr1
  clear hx1 hr1
  go_wp2_with fail
  refine (readByteB_walk g [48] 1 p _ hr1' (by decide) hp1 hg (by decide)).mono ?_
  rw [hn1]
  rintro e w2 ⟨rfl, hr2, hx2, hs2⟩
  have hp2 := hp1.ext hx2 (fun h => hg h.symm)
  have he2 : w2.cell? ⟨2, 0, none⟩ = some (.iface 145 (.pointer (some p))) := hp2
  have hee := eof_eq p
  have HX2 := Lib.hid hx2
  have HR2 := Lib.hid (show BReaderAt w2 g [48] 1 from hr2)
  clear hx2 hr2
  go_wp2_with fail
  refine (maxPow_walk 10 19 w2 (by decide) (by decide) (by decide) (by decide) (by decide) (by decide)).mono ?_
  rintro e w3 ⟨rfl, rfl⟩
  go_wp2_with fail
  go_loopw [0, 3, 10, 11, 13, 14, 15, 20, 21, 22] (fun zv fv cnt ev pv iv chv dv nv dpv wr => ScanZRel w2 p zv fv cnt ev pv iv chv dv nv dpv wr) (fun _ _ _ _ _ _ _ _ _ _ _ => 0)
  case atStart => exact ⟨rfl, rfl, rfl, rfl, rfl, rfl, rfl, rfl, rfl, rfl, rfl⟩
  case round =>
    obtain ⟨rfl, rfl, rfl, rfl, rfl, rfl, rfl, rfl, rfl, rfl, rfl⟩ := hrel
    go_wp2_with fail
    exact bodyPost_ret (v := .tuple #[.slice none 0 0, .int .i64 10, .int .i64 1, .nilIface]) (by simp [results, Tryz.results216, go_sem]) rfl
      ⟨rfl, HR2.out, hp2, HX1.out.trans HX2.out⟩

theorem scanAny0B_walk (g : Nat) (l : List UInt8) (o : Nat) (p : Addr) (w : World) (hr : BReaderAt w g l o) (hl : l.length ≤ 1000) (hp : EofIs w p) (hg : g ≠ 2) (hgB : g < w.heap.size)
    (ho : o < l.length) (hd : allDig (l.drop o) = true) (hnz : (l.drop o).head? ≠ some 48 ∨ (o = 0 ∧ l = [48])) :
    Calls Tryz.prog 216 #[.slice none 0 0, .iface 129 (.pointer (some ⟨g, 0, none⟩)), .int .i64 0, .bool false] w
      fun e w' => ∃ A c n, e = .returned (.tuple #[.slice A (wds (decV (l.drop o))).length c, .int .i64 10, .int .i64 n, .nilIface]) ∧ OwnNat w.heap.size w' A c (decV (l.drop o)) ∧ BReaderAt w' g l l.length ∧ EofIs w' p ∧ Ext (fun b => b = g) w w' := by
  rcases hnz with hnz | ⟨rfl, rfl⟩
  · exact scan0B_walk g l o p w hr hl hp hg hgB ho (fun e => hnz (by rw [List.head?_drop, List.getElem?_eq_getElem ho, e])) hd
  · refine (scanZeroB_walk g p w hr hp hg).mono ?_
    rintro e w1 ⟨rfl, h1, h2, h3⟩
    have e0 : decV (([48] : List UInt8).drop 0) = 0 := by decide
    rw [e0]
    exact ⟨none, 0, 1, by rw [wds_zero]; rfl, .inl ⟨rfl, rfl, rfl⟩, h1, h2, h3⟩

set_option maxRecDepth 100000 in
set_option maxHeartbeats 1000000 in
theorem intScan0B_walk (g gz : Nat) (l : List UInt8) (p : Addr) (w : World) (hok : readOk l = true) (hl : l.length ≤ 1000) (hr : BReaderAt w g l 0) (hz : IntNew w gz) (hp : EofIs w p) (hg : g ≠ 2) (hgz : gz ≠ 2) (hne : g ≠ gz) :
    Calls Tryz.prog 197 #[.pointer (some ⟨gz, 0, none⟩), .iface 129 (.pointer (some ⟨g, 0, none⟩)), .int .i64 0] w
      fun e w' => e = .returned (.tuple #[.pointer (some ⟨gz, 0, none⟩), .int .i64 10, .nilIface]) ∧ IntAt w' gz (readZ l) ∧ BReaderAt w' g l l.length ∧ EofIs w' p ∧ Ext (Fld g gz) w w' := by
  obtain ⟨c, t, hlt, hc43, hneg, hbody, hdig, ho⟩ := read_scan hok
  have hab := read_abs l
  have hsgn := read_lt hok
  have c0 := num_cell0 hz
  have c1 := num_cell1 hz
  have HZ := Lib.hid hz
  have HS : Hid (Calls Tryz.prog 215 #[.iface 129 (.pointer (some ⟨g, 0, none⟩))] w (ReadPostB w g l (if c = 45 then 1 else 0) (.tuple #[.bool (readNeg l), .nilIface]))) := by
    apply Lib.hid
    rw [hneg, hlt]
    rw [hlt] at hr hl
    exact scanSignB_walk g c t p w hr (by omega) hp hg hc43
  have hnz := read_nz hok hneg hbody ho
  obtain ⟨o, hoo⟩ : ∃ o, (if c = 45 then 1 else 0) = o := ⟨_, rfl⟩
  rw [hoo] at HS hbody ho hnz
  rw [hbody] at hab hsgn hdig
  have HLO := Lib.hid ho
  clear hoo hneg hlt hbody
  obtain ⟨sg, hsg⟩ : ∃ sg, readNeg l = sg := ⟨_, rfl⟩
  rw [hsg] at HS hsgn
  clear hsg
  obtain ⟨N, hN⟩ : ∃ N, decV (l.drop o) = N := ⟨_, rfl⟩
  rw [hN] at hab hsgn
  have HAB := Lib.hid hab
  have HSG := Lib.hid hsgn
  have HN := Lib.hid hN
  clear hab hsgn hN
  go_enter Tryz.func197, Tryz.ntmps197
  go_wp2_with fail
  refine HS.out.mono ?_
  rintro e w1 ⟨rfl, hr1, hx1, hs1⟩
  have hz1 : IntNew w1 gz := (hx1.block gz (iter_lt hz) (fun e => hne e.symm)).trans hz
  have c01 := num_cell0 hz1
  have c11 := num_cell1 hz1
  have hp1 := hp.ext hx1 (fun h => hg h.symm)
  clear c0 c1
  go_wp2_with fail
  refine (scanAny0B_walk g l o p w1 hr1 hl hp1 hg (by rw [hs1]; exact hr.lt) ho hdig hnz).mono ?_
  rw [HN.out]
  rintro e w2 ⟨A, c2, n, rfl, hown, hr2, hp2, hx2⟩
  have hz2 : IntNew w2 gz := (hx2.block gz (iter_lt hz1) (fun e => hne e.symm)).trans hz1
  have HZ2 := Lib.hid hz2
  have c02 := num_cell0 hz2
  have c12 := num_cell1 hz2
  have f02 := one_free hz2 0
  have f12 := one_free hz2 1
  have HR2 := Lib.hid hr2
  have HO := Lib.hid hown
  have hcN : (wds N).length ≤ c2 := hown.room.1
  have HX := Lib.hid (show Ext (Fld g gz) w w2 from (hx1.mono (fun _ _ h => Or.inl h)).trans (hx2.mono (fun _ _ h => Or.inl h)))
  have hgw : gz < w1.heap.size := by rw [hs1]; exact iter_lt hz
  clear hr2 hown hz1 hz2 hx1 hx2
  have key : ∀ b : Bool, decide (readZ l < 0) = b → IntAt ((w2.setCell ⟨gz, 1, none⟩ (.slice A (wds N).length c2)).setCell ⟨gz, 0, none⟩ (.bool b)) gz (readZ l) ∧
      BReaderAt ((w2.setCell ⟨gz, 1, none⟩ (.slice A (wds N).length c2)).setCell ⟨gz, 0, none⟩ (.bool b)) g l l.length ∧
      EofIs ((w2.setCell ⟨gz, 1, none⟩ (.slice A (wds N).length c2)).setCell ⟨gz, 0, none⟩ (.bool b)) p ∧
      Ext (Fld g gz) w ((w2.setCell ⟨gz, 1, none⟩ (.slice A (wds N).length c2)).setCell ⟨gz, 0, none⟩ (.bool b)) := fun b hb =>
    ⟨IntAt.put HZ2.out HAB.out hb hcN (by have := HO.out.room; omega) HO.out.wd (fun a ha => by have := HO.out.ge a ha; omega), HR2.out.int2 HZ2.out (Nat.lt_of_le_of_lt (Nat.zero_le _) HLO.out) hne, (hp2.other _ (by exact Ne.symm hgz)).other _ (by exact Ne.symm hgz),
      (HX.out.setCell (p := ⟨gz, 1, none⟩) (fun _ => Or.inr rfl) _).setCell (p := ⟨gz, 0, none⟩) (fun _ => Or.inr rfl) _⟩
  have KEY := Lib.hid key
  clear key
  by_cases h0 : 0 < (wds N).length
  · have hb : decide (readZ l < 0) = sg := by rw [HSG.out, decide_eq_true h0]; rfl
    have HB := Lib.hid hb
    clear hb
    go_wp2_with fail
    exact bodyPost_ret (v := .tuple #[.pointer (some ⟨gz, 0, none⟩), .int .i64 10, .nilIface]) (by simp [results, Tryz.results197, go_sem]) rfl ⟨rfl, KEY.out sg HB.out⟩
  · have hb : decide (readZ l < 0) = false := by rw [HSG.out, decide_eq_false h0]; rfl
    have HB := Lib.hid hb
    clear hb
    go_wp2_with fail
    exact bodyPost_ret (v := .tuple #[.pointer (some ⟨gz, 0, none⟩), .int .i64 10, .nilIface]) (by simp [results, Tryz.results197, go_sem]) rfl ⟨rfl, KEY.out false HB.out⟩

set_option maxRecDepth 100000 in
set_option maxHeartbeats 1000000 in
theorem setFrom0B_walk (g gz : Nat) (l : List UInt8) (p : Addr) (w : World) (hok : readOk l = true) (hl : l.length ≤ 1000) (hr : BReaderAt w g l 0) (hz : IntNew w gz) (hp : EofIs w p) (hg : g ≠ 2) (hgz : gz ≠ 2) (hne : g ≠ gz) :
    Calls Tryz.prog 174 #[.pointer (some ⟨gz, 0, none⟩), .iface 129 (.pointer (some ⟨g, 0, none⟩)), .int .i64 0] w
      fun e w' => e = .returned (.tuple #[.pointer (some ⟨gz, 0, none⟩), .bool true]) ∧ IntAt w' gz (readZ l) ∧ Ext (Fld g gz) w w' := by
  have m1 := met_readB g
  have hnq := eof_neq p
  go_enter Tryz.func174, Tryz.ntmps174
  go_wp2_with fail
  refine (intScan0B_walk g gz l p w hok hl hr hz hp hg hgz hne).mono ?_
  rintro e w1 ⟨rfl, hi1, hr1, hp1, hx1⟩
  have he1 : w1.cell? ⟨2, 0, none⟩ = some (.iface 145 (.pointer (some p))) := hp1
  have HI := Lib.hid hi1
  have HX := Lib.hid hx1
  go_wp2_with fail
  have hnx : nextErr l l.length p = .iface 145 (.pointer (some p)) := if_neg (Nat.lt_irrefl _)
  have hR := readByteB_walk g l l.length p w1 hr1 (by omega) hp1 hg (Nat.le_refl _)
  rw [hnx] at hR
  have HRB := Lib.hid hR
  have HR1 := Lib.hid hr1
  clear hR hnx hr1 hi1 hx1
  refine HRB.out.mono ?_
  rintro e w2 ⟨rfl, hr2, hx2, hs2⟩
  have he2 : w2.cell? ⟨2, 0, none⟩ = some (.iface 145 (.pointer (some p))) := hp1.ext hx2 (fun h => hg h.symm)
  have HX2 := Lib.hid hx2
  clear hr2 hx2
  go_wp2_with fail
  exact bodyPost_ret (v := .tuple #[.pointer (some ⟨gz, 0, none⟩), .bool true]) (by simp [results, Tryz.results174, go_sem]) rfl
    ⟨rfl, HI.out.ext HX2.out (fun h => hne h.symm) (fun A hA hn a ha => reader_wordsB HR1.out hA hn a ha), HX.out.trans (HX2.out.mono fun _ _ h => Or.inl h)⟩

end Go.Proofs.YtiohlcfdoleooaaGreatDoor
