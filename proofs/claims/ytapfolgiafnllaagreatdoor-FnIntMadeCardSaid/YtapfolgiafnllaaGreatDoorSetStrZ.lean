/-
  io.EOF is itself.
  math/big's scan of a number in base 10.
  math/big's scan of a number in base 0, which the text tells: decimal texts.
  (*big.Int).SetString in base 10.
  (*big.Int).SetString, impl.number.
-/
import Derived.Test.YtapfolgiafnllaaGreatDoorNat5Z
import Derived.LaidEqlPtr
namespace Go.Proofs.YtapfolgiafnllaaGreatDoor
open Go.RowKit

theorem infoErrT : (Tryz.prog.info? 117).map (·.comparable) = some true := by kernel_rfl
theorem infoErrE : (Tryz.prog.info? 119).map (·.size) = some 1 := by kernel_rfl
set_option maxRecDepth 100000 in
theorem eof_eqIn (p : Addr) (w : World) (d : Nat) : (Op.equalIn (d + 2) 64 (.iface 117 (.pointer (some p))) (.iface 117 (.pointer (some p)))).run Tryz.prog w = .ok true w := by
  obtain ⟨i, hi, hc⟩ := Option.map_eq_some_iff.1 infoErrT
  obtain ⟨j, hj, hs⟩ := Option.map_eq_some_iff.1 infoErrE
  simp [Op.equalIn, run_underlying Tryz.underlying64, run_underlying Tryz.underlying117, typeInfo, hi, hc, sizeOf, hj, run_sameAddr_same]
set_option maxRecDepth 100000 in
theorem eof_eq (p : Addr) (w : World) : (binOp .eql 64 (.iface 117 (.pointer (some p))) (.iface 117 (.pointer (some p)))).run Tryz.prog w = .ok (.bool true) w := by
  simp only [binOp]
  simp [Op.equal, Op.maxDepth, eof_eqIn p w 9998]
set_option maxRecDepth 100000 in
theorem eof_neq (p : Addr) (w : World) : (binOp .neq 64 (.iface 117 (.pointer (some p))) (.iface 117 (.pointer (some p)))).run Tryz.prog w = .ok (.bool false) w := by
  simp only [binOp]
  simp [Op.equal, Op.maxDepth, eof_eqIn p w 9998]
end Go.Proofs.YtapfolgiafnllaaGreatDoor

namespace Go.Proofs.YtapfolgiafnllaaGreatDoor
open Go.RowKit

theorem Ext.belowB {D : Nat → Prop} {w a b : World} (h : Ext D w a) (k : Below w.heap.size a b) : Ext D w b :=
  ⟨k.os.trans h.os, k.tape.trans h.tape, k.output.trans h.output, Nat.le_trans h.size k.size, fun i hi hn => (k.block i hi).trans (h.block i hi hn)⟩
/-- The value of decimal digits. -/
def decV (l : List UInt8) : Nat := valD 10 (digsOf l)
theorem decV_nil : decV [] = 0 := rfl
theorem decV_snoc (l : List UInt8) (c : UInt8) : decV (l ++ [c]) = decV l * 10 + digN c := by
  unfold decV digsOf
  rw [List.reverse_append, List.map_append]
  simp [valD]
  omega
theorem decV_lt {l : List UInt8} (h : allDig l = true) : decV l < 10 ^ l.length := by
  have := valD_lt (b := 10) (by decide) (allDig_digits h)
  simpa [decV, digsOf] using this
theorem wds_len_dec {n k : Nat} (h : n < 10 ^ k) : (wds n).length ≤ k :=
  toD_length_le (by decide) k n (Nat.lt_of_lt_of_le h (Nat.pow_le_pow_left (by decide) k))
theorem allDig_take {l : List UInt8} (h : allDig l = true) (k : Nat) : allDig (l.take k) = true := by
  unfold allDig at *
  exact List.all_eq_true.2 fun x hx => List.all_eq_true.1 h x (List.mem_of_mem_take hx)

theorem EofIs.belowB {B : Nat} {w w' : World} {p : Addr} (h : EofIs w p) (hB : 2 < B) (hb : Below B w w') : EofIs w' p := (hb.cell (p := ⟨2, 0, none⟩) hB).trans h
theorem ReaderAt.belowB {B : Nat} {w w' : World} {g : Nat} {l : List UInt8} {i : Nat} (h : ReaderAt w g l i) (hB : g < B) (hb : Below B w w') : ReaderAt w' g l i := by
  obtain ⟨pr, h⟩ := h
  exact ⟨pr, (hb.block g hB).trans h⟩
theorem scan_len {l : List UInt8} {k N i d : Nat} (hd : allDig l = true) (hl : l.length ≤ 1000) (h : N * 10 ^ i + d = decV (l.take k)) : (wds N).length ≤ 80000 := by
  have h1 := decV_lt (allDig_take hd k)
  have h2 : (l.take k).length ≤ 1000 := by simp; omega
  have h3 : N ≤ N * 10 ^ i := Nat.le_mul_of_pos_right _ (Nat.pow_pos (by decide))
  have h4 := wds_len_dec (n := N) (k := (l.take k).length) (by omega)
  omega

/-- scan's loop: k digits have been read. -/
def ScanRel (w : World) (g : Nat) (l : List UInt8) (o : Nat) (p : Addr) (zv fv cnt ev pv iv chv dv nv dpv : Value) (wr : World) : Prop :=
  ∃ (k N A c d i : _) (q : Int), zv = .slice A (wds N).length c ∧ fv = .bool false ∧ cnt = .int .i64 (k : Nat) ∧ ev = nextErr l (o + k) p ∧ pv = .int .i32 q ∧ (q == 95) = false ∧ iv = .bool false ∧
    chv = .int .u8 ((l.getD (o + k) 0).toNat : Int) ∧ dv = .int .u64 (d : Nat) ∧ nv = .int .i64 (i : Nat) ∧ dpv = .int .i64 (-1) ∧ o + k ≤ l.length ∧ i < 19 ∧ d < 10 ^ i ∧ N * 10 ^ i + d = decV ((l.drop o).take k) ∧
    OwnNat w.heap.size wr A c N ∧ ReaderAt wr g l (min (o + k + 1) l.length) ∧ EofIs wr p ∧ Ext (fun b => b = g) w wr

set_option maxRecDepth 100000 in
set_option maxHeartbeats 2000000 in
theorem scan10_walk (g : Nat) (l : List UInt8) (o : Nat) (p : Addr) (w : World) (hr : ReaderAt w g l o) (hl : l.length ≤ 1000) (hp : EofIs w p) (hg : g ≠ 2) (hgB : g < w.heap.size)
    (ho : o < l.length) (hd : allDig (l.drop o) = true) :
    Calls Tryz.prog 179 #[.slice none 0 0, .iface 115 (.pointer (some ⟨g, 0, none⟩)), .int .i64 10, .bool false] w
      fun e w' => ∃ A c n, e = .returned (.tuple #[.slice A (wds (decV (l.drop o))).length c, .int .i64 10, .int .i64 n, .nilIface]) ∧ OwnNat w.heap.size w' A c (decV (l.drop o)) ∧ ReaderAt w' g l l.length ∧ EofIs w' p ∧ Ext (fun b => b = g) w w' := by
  have m1 := met_read g
  have m2 := met_unread g
  go_enter Tryz.func179, Tryz.ntmps179
  go_wp2_with fail
  refine (readByte_walk g l o p _ hr (by omega) hp hg (Nat.le_of_lt ho)).mono ?_
  have hn0 : nextErr l o p = .nilIface := if_pos ho
  rw [hn0]
  rintro e w1 ⟨rfl, hr1, hx1, hs1⟩
  have HR1 := Lib.hid hr1
  have HX1 := Lib.hid hx1
  go_wp2_with fail
  refine (maxPow_walk 10 19 w1 (by decide) (by decide) (by decide) (by decide) (by decide) (by decide)).mono ?_
  rintro e w2 ⟨rfl, rfl⟩
  clear hr1 hx1 hr
  go_wp2_with fail
  go_loopw [0, 3, 10, 11, 13, 14, 15, 20, 21, 22] (fun zv fv cnt ev pv iv chv dv nv dpv wr => ScanRel w g l o p zv fv cnt ev pv iv chv dv nv dpv wr) (fun _ _ cnt _ _ _ _ _ _ _ _ => idxOf l.length cnt)
  case atStart =>
    refine ⟨0, 0, none, 0, 0, 0, 46, by rw [wds_zero]; rfl, rfl, rfl, ?_, rfl, rfl, rfl, ?_, rfl, rfl, rfl, by omega, by decide, by decide, by rw [List.take_zero, decV_nil], .inl ⟨rfl, rfl, rfl⟩, HR1.out, hp.ext HX1.out (fun h => hg h.symm), HX1.out⟩
    · exact hn0.symm
    · simp [List.getD_eq_getElem?_getD, List.getElem?_eq_getElem ho]
  case round =>
    obtain ⟨k, N, A, c, d, i, q, rfl, rfl, rfl, rfl, rfl, hq, rfl, rfl, rfl, rfl, rfl, hk, hi, hdl, hval, hown, hrd, heof, hx⟩ := hrel
    have hbig : 10 ^ i ≤ 10 ^ 18 := Nat.pow_le_pow_right (by decide) (by omega)
    have HVAL := Lib.hid hval
    have HOWN := Lib.hid hown
    have HX := Lib.hid hx
    clear hval hown hx
    by_cases hlt : o + k < l.length
    · have hne : nextErr l (o + k) p = .nilIface := by unfold nextErr; rw [if_pos hlt]
      rw [hne]
      have hgd : l.getD (o + k) 0 = l[o + k] := by simp [List.getD_eq_getElem?_getD, List.getElem?_eq_getElem hlt]
      obtain ⟨ch, hch⟩ : ∃ ch, l[o + k] = ch := ⟨_, rfl⟩
      have hmem : ch ∈ l.drop o := by
        rw [← hch]
        have : l[o + k] = (l.drop o)[k]'(by simp; omega) := by simp
        rw [this]
        exact List.getElem_mem _
      have hdg := allDig_digits hd
      have hch2 : 48 ≤ ch.toNat ∧ ch.toNat ≤ 57 := by
        have h1 := List.all_eq_true.1 hd ch hmem
        have h2 := h1
        rw [Bool.and_eq_true, decide_eq_true_eq, decide_eq_true_eq] at h2
        rw [UInt8.le_iff_toNat_le, UInt8.le_iff_toNat_le] at h2
        exact h2
      rw [hgd, hch]
      clear hgd hmem hdg
      obtain ⟨x, hxx⟩ : ∃ x, ch.toNat = x := ⟨_, rfl⟩
      have hdn : digN ch = x - 48 := by unfold digN; rw [hxx]
      rw [hxx] at hch2 ⊢
      have x1 : ((x : Int) == 46) = false := beq_eq_false_iff_ne.2 (by omega)
      have x2 : ((x : Int) == 95) = false := beq_eq_false_iff_ne.2 (by omega)
      have x3 : (48 : Int) ≤ x := by omega
      have x4 : (x : Int) ≤ 57 := by omega
      have x5 : ¬ (10 : Int) ≤ (x : Int) - 48 := by omega
      have hmin : min (o + k + 1) l.length = o + k + 1 := by omega
      rw [hmin] at hrd
      have hd2 : (d : Int) * 10 + ((x : Int) - 48) = ((d * 10 + (x - 48) : Nat) : Int) := by omega
      have hdl2 : d * 10 + (x - 48) < 10 ^ (i + 1) := by rw [Nat.pow_succ]; omega
      have hval2 : N * 10 ^ (i + 1) + (d * 10 + (x - 48)) = decV ((l.drop o).take (k + 1)) := by
        have htk : (l.drop o).take (k + 1) = (l.drop o).take k ++ [ch] := by
          rw [List.take_add_one, List.getElem?_drop, List.getElem?_eq_getElem hlt, hch]; rfl
        rw [htk, decV_snoc, ← HVAL.out, hdn, Nat.pow_succ, Nat.add_mul, Nat.mul_assoc]
        omega
      have HV2 := Lib.hid hval2
      have HD2 := Lib.hid hd2
      clear hval2 hd2 hne
      by_cases h18 : i = 18
      · have h18b : ((i : Int) + 1 == 19) = true := by rw [h18]; rfl
        have hwl := scan_len hd (by simp; omega) HVAL.out
        have hlt19 : d * 10 + (x - 48) < 18446744073709551616 := by rw [h18] at hdl2; omega
        go_wp2_with fail
        rw [HD2.out]
        refine (mulAddWW_walk w.heap.size A c N 10000000000000000000 (d * 10 + (x - 48)) wr HOWN.out (by have := HX.out.size; exact this) (by decide) (by decide) hlt19 hwl).mono ?_
        rintro e w3 ⟨A3, c3, rfl, hown3, hb3, hs3⟩
        have hr3 := hrd.belowB hgB hb3
        have he3 := heof.belowB hp.lt hb3
        have hv3 : N * 10000000000000000000 + (d * 10 + (x - 48)) = decV ((l.drop o).take (k + 1)) := by have := HV2.out; rw [h18] at this; exact this
        have HOW3 := Lib.hid hown3
        have HB3 := Lib.hid hb3
        obtain ⟨N3, hN3⟩ : ∃ N3, N * 10000000000000000000 + (d * 10 + (x - 48)) = N3 := ⟨_, rfl⟩
        rw [hN3] at hv3 HOW3 ⊢
        have HV3 := Lib.hid hv3
        clear hown3 hb3 hv3 hN3 hrd heof HD2
        go_wp2_with fail
        refine (readByte_walk g l (o + k + 1) p w3 hr3 (by omega) he3 hg (by omega)).mono ?_
        rintro e w4 ⟨rfl, hr4, hx4, hs4⟩
        have HR4 := Lib.hid hr4
        have HX4 := Lib.hid hx4
        clear hr4 hx4
        go_wp2_with fail
        refine ⟨⟨k + 1, N3, A3, c3, 0, 0, 48, rfl, rfl, by go_num, rfl, rfl, rfl, rfl, rfl, rfl, rfl, rfl, by omega, by omega, by decide, by rw [← HV3.out]; simp, HOW3.out.ext HX4.out (fun b hb => by omega), HR4.out, he3.ext HX4.out (fun h => hg h.symm), (HX.out.belowB HB3.out).trans HX4.out⟩, by simp [idxOf]; omega⟩
      · have h18b : ((i : Int) + 1 == 19) = false := beq_eq_false_iff_ne.2 (by omega)
        go_wp2_with fail
        refine (readByte_walk g l (o + k + 1) p wr hrd (by omega) heof hg (by omega)).mono ?_
        rintro e w3 ⟨rfl, hr3, hx3, hs3⟩
        have HR3 := Lib.hid hr3
        have HX3 := Lib.hid hx3
        clear hr3 hx3
        go_wp2_with fail
        refine ⟨⟨k + 1, N, A, c, d * 10 + (x - 48), i + 1, 48, rfl, rfl, by go_num, rfl, rfl, rfl, rfl, rfl, by rw [HD2.out], by go_num, rfl, by omega, by omega, hdl2, HV2.out, HOWN.out.ext HX3.out (fun b hb => by omega), HR3.out, heof.ext HX3.out (fun h => hg h.symm), HX.out.trans HX3.out⟩, by simp [idxOf]; omega⟩
    · have hne : nextErr l (o + k) p = .iface 117 (.pointer (some p)) := if_neg hlt
      rw [hne]
      have hkl : o + k = l.length := by omega
      have hk0 : ((k : Int) == 0) = false := beq_eq_false_iff_ne.2 (by omega)
      have he : wr.cell? ⟨2, 0, none⟩ = some (.iface 117 (.pointer (some p))) := heof
      have hee := eof_eq p
      have htk : (l.drop o).take k = l.drop o := List.take_of_length_le (by simp; omega)
      have hr9 : min (o + k + 1) l.length = l.length := by omega
      rw [hr9] at hrd
      by_cases hi0 : i = 0
      · have hi0b : decide ((0 : Int) < i) = false := decide_eq_false (by omega)
        have hN : decV (l.drop o) = N := by
          have := HVAL.out
          rw [htk, hi0] at this
          rw [hi0] at hdl
          simp at hdl
          simp [hdl] at this
          exact this.symm
        subst hN
        clear htk
        go_wp2_with fail
        exact bodyPost_ret (v := .tuple #[.slice A (wds (decV (l.drop o))).length c, .int .i64 10, .int .i64 (k : Int), .nilIface]) (by simp [results, Tryz.results179, go_sem]) rfl
          ⟨A, c, k, rfl, HOWN.out, hrd, heof, HX.out⟩
      · have hi0b : decide ((0 : Int) < i) = true := decide_eq_true (by omega)
        have hpw : 10 ^ i % 18446744073709551616 = 10 ^ i := Nat.mod_eq_of_lt (by omega)
        have hwl := scan_len hd (by simp; omega) HVAL.out
        have hp0 : 10 ^ i ≠ 0 := Nat.ne_of_gt (Nat.pow_pos (by decide))
        have hval := HVAL.out
        rw [htk] at hval
        have HP := Lib.hid (pow_walk 10 i wr (by decide) (by omega))
        rw [hpw] at HP
        obtain ⟨P, hP⟩ : ∃ P, 10 ^ i = P := ⟨_, rfl⟩
        rw [hP] at HP hval hp0 hbig hdl
        have hM := mulAddWW_walk w.heap.size A c N P d wr HOWN.out (by have := HX.out.size; exact this) hp0 (by omega) (by omega) hwl
        rw [hval] at hM
        have HM := Lib.hid hM
        clear hM hval hpw htk hP
        go_wp2_with fail
        refine HP.out.mono ?_
        rintro e w3 ⟨rfl, rfl⟩
        go_wp2_with fail
        refine HM.out.mono ?_
        rintro e w4 ⟨A4, c4, rfl, hown4, hb4, hs4⟩
        have HOW4 := Lib.hid hown4
        have HB4 := Lib.hid hb4
        clear hown4 hb4
        go_wp2_with fail
        exact bodyPost_ret (v := .tuple #[.slice A4 (wds (decV (l.drop o))).length c4, .int .i64 10, .int .i64 (k : Int), .nilIface]) (by simp [results, Tryz.results179, go_sem]) rfl
          ⟨A4, c4, k, rfl, HOW4.out, hrd.belowB hgB HB4.out, heof.belowB hp.lt HB4.out, HX.out.belowB HB4.out⟩
end Go.Proofs.YtapfolgiafnllaaGreatDoor

namespace Go.Proofs.YtapfolgiafnllaaGreatDoor
open Go.RowKit

set_option maxRecDepth 100000 in
set_option maxHeartbeats 2000000 in
theorem scan0_walk (g : Nat) (l : List UInt8) (o : Nat) (p : Addr) (w : World) (hr : ReaderAt w g l o) (hl : l.length ≤ 1000) (hp : EofIs w p) (hg : g ≠ 2) (hgB : g < w.heap.size)
    (ho : o < l.length) (hnz : l[o] ≠ 48) (hd : allDig (l.drop o) = true) :
    Calls Tryz.prog 179 #[.slice none 0 0, .iface 115 (.pointer (some ⟨g, 0, none⟩)), .int .i64 0, .bool false] w
      fun e w' => ∃ A c n, e = .returned (.tuple #[.slice A (wds (decV (l.drop o))).length c, .int .i64 10, .int .i64 n, .nilIface]) ∧ OwnNat w.heap.size w' A c (decV (l.drop o)) ∧ ReaderAt w' g l l.length ∧ EofIs w' p ∧ Ext (fun b => b = g) w w' := by
  have hnzb : ((l[o].toNat : Int) == 48) = false := by
    have : ¬ ((l[o].toNat : Int) = 48) := fun k => hnz (UInt8.toNat_inj.1 (show l[o].toNat = 48 by omega))
    exact beq_eq_false_iff_ne.2 this
  have m1 := met_read g
  have m2 := met_unread g
  go_enter Tryz.func179, Tryz.ntmps179
  go_wp2_with fail
  refine (readByte_walk g l o p _ hr (by omega) hp hg (Nat.le_of_lt ho)).mono ?_
  have hn0 : nextErr l o p = .nilIface := if_pos ho
  rw [hn0]
  rintro e w1 ⟨rfl, hr1, hx1, hs1⟩
  have HR1 := Lib.hid hr1
  have HX1 := Lib.hid hx1
  go_wp2_with fail
  refine (maxPow_walk 10 19 w1 (by decide) (by decide) (by decide) (by decide) (by decide) (by decide)).mono ?_
  rintro e w2 ⟨rfl, rfl⟩
  clear hr1 hx1 hr
  go_wp2_with fail
  go_loopw [0, 3, 10, 11, 13, 14, 15, 20, 21, 22] (fun zv fv cnt ev pv iv chv dv nv dpv wr => ScanRel w g l o p zv fv cnt ev pv iv chv dv nv dpv wr) (fun _ _ cnt _ _ _ _ _ _ _ _ => idxOf l.length cnt)
  case atStart =>
    refine ⟨0, 0, none, 0, 0, 0, 46, by rw [wds_zero]; rfl, rfl, rfl, ?_, rfl, rfl, rfl, ?_, rfl, rfl, rfl, by omega, by decide, by decide, by rw [List.take_zero, decV_nil], .inl ⟨rfl, rfl, rfl⟩, HR1.out, hp.ext HX1.out (fun h => hg h.symm), HX1.out⟩
    · exact hn0.symm
    · simp [List.getD_eq_getElem?_getD, List.getElem?_eq_getElem ho]
  case round =>
    obtain ⟨k, N, A, c, d, i, q, rfl, rfl, rfl, rfl, rfl, hq, rfl, rfl, rfl, rfl, rfl, hk, hi, hdl, hval, hown, hrd, heof, hx⟩ := hrel
    have hbig : 10 ^ i ≤ 10 ^ 18 := Nat.pow_le_pow_right (by decide) (by omega)
    have HVAL := Lib.hid hval
    have HOWN := Lib.hid hown
    have HX := Lib.hid hx
    clear hval hown hx
    by_cases hlt : o + k < l.length
    · have hne : nextErr l (o + k) p = .nilIface := by unfold nextErr; rw [if_pos hlt]
      rw [hne]
      have hgd : l.getD (o + k) 0 = l[o + k] := by simp [List.getD_eq_getElem?_getD, List.getElem?_eq_getElem hlt]
      obtain ⟨ch, hch⟩ : ∃ ch, l[o + k] = ch := ⟨_, rfl⟩
      have hmem : ch ∈ l.drop o := by
        rw [← hch]
        have : l[o + k] = (l.drop o)[k]'(by simp; omega) := by simp
        rw [this]
        exact List.getElem_mem _
      have hdg := allDig_digits hd
      have hch2 : 48 ≤ ch.toNat ∧ ch.toNat ≤ 57 := by
        have h1 := List.all_eq_true.1 hd ch hmem
        have h2 := h1
        rw [Bool.and_eq_true, decide_eq_true_eq, decide_eq_true_eq] at h2
        rw [UInt8.le_iff_toNat_le, UInt8.le_iff_toNat_le] at h2
        exact h2
      rw [hgd, hch]
      clear hgd hmem hdg
      obtain ⟨x, hxx⟩ : ∃ x, ch.toNat = x := ⟨_, rfl⟩
      have hdn : digN ch = x - 48 := by unfold digN; rw [hxx]
      rw [hxx] at hch2 ⊢
      have x1 : ((x : Int) == 46) = false := beq_eq_false_iff_ne.2 (by omega)
      have x2 : ((x : Int) == 95) = false := beq_eq_false_iff_ne.2 (by omega)
      have x3 : (48 : Int) ≤ x := by omega
      have x4 : (x : Int) ≤ 57 := by omega
      have x5 : ¬ (10 : Int) ≤ (x : Int) - 48 := by omega
      have hmin : min (o + k + 1) l.length = o + k + 1 := by omega
      rw [hmin] at hrd
      have hd2 : (d : Int) * 10 + ((x : Int) - 48) = ((d * 10 + (x - 48) : Nat) : Int) := by omega
      have hdl2 : d * 10 + (x - 48) < 10 ^ (i + 1) := by rw [Nat.pow_succ]; omega
      have hval2 : N * 10 ^ (i + 1) + (d * 10 + (x - 48)) = decV ((l.drop o).take (k + 1)) := by
        have htk : (l.drop o).take (k + 1) = (l.drop o).take k ++ [ch] := by
          rw [List.take_add_one, List.getElem?_drop, List.getElem?_eq_getElem hlt, hch]; rfl
        rw [htk, decV_snoc, ← HVAL.out, hdn, Nat.pow_succ, Nat.add_mul, Nat.mul_assoc]
        omega
      have HV2 := Lib.hid hval2
      have HD2 := Lib.hid hd2
      clear hval2 hd2 hne
      by_cases h18 : i = 18
      · have h18b : ((i : Int) + 1 == 19) = true := by rw [h18]; rfl
        have hwl := scan_len hd (by simp; omega) HVAL.out
        have hlt19 : d * 10 + (x - 48) < 18446744073709551616 := by rw [h18] at hdl2; omega
        go_wp2_with fail
        rw [HD2.out]
        refine (mulAddWW_walk w.heap.size A c N 10000000000000000000 (d * 10 + (x - 48)) wr HOWN.out (by have := HX.out.size; exact this) (by decide) (by decide) hlt19 hwl).mono ?_
        rintro e w3 ⟨A3, c3, rfl, hown3, hb3, hs3⟩
        have hr3 := hrd.belowB hgB hb3
        have he3 := heof.belowB hp.lt hb3
        have hv3 : N * 10000000000000000000 + (d * 10 + (x - 48)) = decV ((l.drop o).take (k + 1)) := by have := HV2.out; rw [h18] at this; exact this
        have HOW3 := Lib.hid hown3
        have HB3 := Lib.hid hb3
        obtain ⟨N3, hN3⟩ : ∃ N3, N * 10000000000000000000 + (d * 10 + (x - 48)) = N3 := ⟨_, rfl⟩
        rw [hN3] at hv3 HOW3 ⊢
        have HV3 := Lib.hid hv3
        clear hown3 hb3 hv3 hN3 hrd heof HD2
        go_wp2_with fail
        refine (readByte_walk g l (o + k + 1) p w3 hr3 (by omega) he3 hg (by omega)).mono ?_
        rintro e w4 ⟨rfl, hr4, hx4, hs4⟩
        have HR4 := Lib.hid hr4
        have HX4 := Lib.hid hx4
        clear hr4 hx4
        go_wp2_with fail
        refine ⟨⟨k + 1, N3, A3, c3, 0, 0, 48, rfl, rfl, by go_num, rfl, rfl, rfl, rfl, rfl, rfl, rfl, rfl, by omega, by omega, by decide, by rw [← HV3.out]; simp, HOW3.out.ext HX4.out (fun b hb => by omega), HR4.out, he3.ext HX4.out (fun h => hg h.symm), (HX.out.belowB HB3.out).trans HX4.out⟩, by simp [idxOf]; omega⟩
      · have h18b : ((i : Int) + 1 == 19) = false := beq_eq_false_iff_ne.2 (by omega)
        go_wp2_with fail
        refine (readByte_walk g l (o + k + 1) p wr hrd (by omega) heof hg (by omega)).mono ?_
        rintro e w3 ⟨rfl, hr3, hx3, hs3⟩
        have HR3 := Lib.hid hr3
        have HX3 := Lib.hid hx3
        clear hr3 hx3
        go_wp2_with fail
        refine ⟨⟨k + 1, N, A, c, d * 10 + (x - 48), i + 1, 48, rfl, rfl, by go_num, rfl, rfl, rfl, rfl, rfl, by rw [HD2.out], by go_num, rfl, by omega, by omega, hdl2, HV2.out, HOWN.out.ext HX3.out (fun b hb => by omega), HR3.out, heof.ext HX3.out (fun h => hg h.symm), HX.out.trans HX3.out⟩, by simp [idxOf]; omega⟩
    · have hne : nextErr l (o + k) p = .iface 117 (.pointer (some p)) := if_neg hlt
      rw [hne]
      have hkl : o + k = l.length := by omega
      have hk0 : ((k : Int) == 0) = false := beq_eq_false_iff_ne.2 (by omega)
      have he : wr.cell? ⟨2, 0, none⟩ = some (.iface 117 (.pointer (some p))) := heof
      have hee := eof_eq p
      have htk : (l.drop o).take k = l.drop o := List.take_of_length_le (by simp; omega)
      have hr9 : min (o + k + 1) l.length = l.length := by omega
      rw [hr9] at hrd
      by_cases hi0 : i = 0
      · have hi0b : decide ((0 : Int) < i) = false := decide_eq_false (by omega)
        have hN : decV (l.drop o) = N := by
          have := HVAL.out
          rw [htk, hi0] at this
          rw [hi0] at hdl
          simp at hdl
          simp [hdl] at this
          exact this.symm
        subst hN
        clear htk
        go_wp2_with fail
        exact bodyPost_ret (v := .tuple #[.slice A (wds (decV (l.drop o))).length c, .int .i64 10, .int .i64 (k : Int), .nilIface]) (by simp [results, Tryz.results179, go_sem]) rfl
          ⟨A, c, k, rfl, HOWN.out, hrd, heof, HX.out⟩
      · have hi0b : decide ((0 : Int) < i) = true := decide_eq_true (by omega)
        have hpw : 10 ^ i % 18446744073709551616 = 10 ^ i := Nat.mod_eq_of_lt (by omega)
        have hwl := scan_len hd (by simp; omega) HVAL.out
        have hp0 : 10 ^ i ≠ 0 := Nat.ne_of_gt (Nat.pow_pos (by decide))
        have hval := HVAL.out
        rw [htk] at hval
        have HP := Lib.hid (pow_walk 10 i wr (by decide) (by omega))
        rw [hpw] at HP
        obtain ⟨P, hP⟩ : ∃ P, 10 ^ i = P := ⟨_, rfl⟩
        rw [hP] at HP hval hp0 hbig hdl
        have hM := mulAddWW_walk w.heap.size A c N P d wr HOWN.out (by have := HX.out.size; exact this) hp0 (by omega) (by omega) hwl
        rw [hval] at hM
        have HM := Lib.hid hM
        clear hM hval hpw htk hP
        go_wp2_with fail
        refine HP.out.mono ?_
        rintro e w3 ⟨rfl, rfl⟩
        go_wp2_with fail
        refine HM.out.mono ?_
        rintro e w4 ⟨A4, c4, rfl, hown4, hb4, hs4⟩
        have HOW4 := Lib.hid hown4
        have HB4 := Lib.hid hb4
        clear hown4 hb4
        go_wp2_with fail
        exact bodyPost_ret (v := .tuple #[.slice A4 (wds (decV (l.drop o))).length c4, .int .i64 10, .int .i64 (k : Int), .nilIface]) (by simp [results, Tryz.results179, go_sem]) rfl
          ⟨A4, c4, k, rfl, HOW4.out, hrd.belowB hgB HB4.out, heof.belowB hp.lt HB4.out, HX.out.belowB HB4.out⟩
end Go.Proofs.YtapfolgiafnllaaGreatDoor

namespace Go.Proofs.YtapfolgiafnllaaGreatDoor
open Go.RowKit

/-- The words of a number lie at the head of a block of words. -/
def Wd (w : World) (A : Option Addr) (ws : List Nat) : Prop := ws = [] ∨ ∃ g zs r, A = some ⟨g, 0, none⟩ ∧ Row w g .u64 106 zs ∧ zs = ws ++ r
theorem Wd.rd {w : World} {A : Option Addr} {ws : List Nat} (h : Wd w A ws) : Rd w A (nums .u64 ws) := by
  rcases h with rfl | ⟨g, zs, r, rfl, hrow, rfl⟩
  · exact .inl rfl
  · have := hrow.rd 0
    rw [List.drop_zero] at this
    have h2 := this.take ws.length
    rwa [List.take_left] at h2
theorem Wd.below {w w' : World} {A : Option Addr} {ws : List Nat} (h : Wd w A ws) (hb : Below w.heap.size w w') : Wd w' A ws := by
  rcases h with h | ⟨g, zs, r, h1, hrow, h2⟩
  · exact .inl h
  · exact .inr ⟨g, zs, r, h1, hrow.below hb, h2⟩
theorem Wd.other {w : World} {A : Option Addr} {ws : List Nat} (h : Wd w A ws) {p : Addr} (u : Value) (hp : ∀ a, A = some a → a.block ≠ p.block) : Wd (w.setCell p u) A ws := by
  rcases h with h | ⟨g, zs, r, rfl, hrow, h2⟩
  · exact .inl h
  · exact .inr ⟨g, zs, r, rfl, hrow.other u (hp _ rfl), h2⟩
theorem Wd.ext {D : Nat → Prop} {w w' : World} {A : Option Addr} {ws : List Nat} (h : Wd w A ws) (hx : Ext D w w') (hA : ws ≠ [] → ∀ a, A = some a → ¬ D a.block) : Wd w' A ws := by
  rcases h with h | ⟨g, zs, r, rfl, hrow, h2⟩
  · exact .inl h
  · by_cases he : ws = []
    · exact .inl he
    · exact .inr ⟨g, zs, r, rfl, (hx.block g hrow.lt (hA he _ rfl)).trans hrow, h2⟩
theorem OwnNat.wd {B : Nat} {w : World} {A : Option Addr} {c N : Nat} (h : OwnNat B w A c N) : Wd w A (wds N) := by
  rcases h with ⟨_, _, rfl⟩ | ⟨g, zs, rfl, _, hrow, ⟨r, hr⟩, _, _⟩
  · exact .inl wds_zero
  · exact .inr ⟨g, zs, r, rfl, hrow, hr⟩
/-- Block g holds the big.Int z. -/
def IntAt (w : World) (g : Nat) (z : Int) : Prop :=
  ∃ A c, w.heap[g]? = some (.cells #[.bool (decide (z < 0)), .slice A (wds z.natAbs).length c] 80 (0, 0)) ∧ (wds z.natAbs).length ≤ c ∧ c ≤ 9223372036854775807 ∧ Wd w A (wds z.natAbs)
/-- A new big.Int. -/
def IntNew (w : World) (g : Nat) : Prop := w.heap[g]? = some (.cells #[.bool false, .slice none 0 0] 80 (0, 0))
theorem IntAt.below {w w' : World} {g : Nat} {z : Int} (h : IntAt w g z) (hb : Below w.heap.size w w') : IntAt w' g z := by
  obtain ⟨A, c, h1, h2, h3, h4⟩ := h
  exact ⟨A, c, (hb.block g (iter_lt h1)).trans h1, h2, h3, h4.below hb⟩
theorem IntAt.lt {w : World} {g : Nat} {z : Int} (h : IntAt w g z) : g < w.heap.size := by obtain ⟨_, _, h, _⟩ := h; exact iter_lt h

/-- What the reference's Read takes, as scan sees it. -/
theorem read_scan {l : List UInt8} (h : readOk l = true) : ∃ c t, l = c :: t ∧ c ≠ 43 ∧ readNeg l = (c == 45) ∧ readBody l = l.drop (if c = 45 then 1 else 0) ∧ allDig (readBody l) = true ∧ (if c = 45 then 1 else 0) < l.length := by
  have h2 := h
  unfold readOk at h2
  rw [Bool.and_eq_true, Bool.and_eq_true] at h2
  obtain ⟨⟨h3, h4⟩, h5⟩ := h2
  unfold digitsOk at h3
  rw [Bool.and_eq_true] at h3
  obtain ⟨h6, h7⟩ := h3
  match l, h6, h7 with
  | [], h6, h7 => simp [readBody] at h7
  | c :: t, h6, h7 =>
    refine ⟨c, t, rfl, ?_⟩
    by_cases hn : 1 < (c :: t).length ∧ (c :: t).head? = some 45
    · have hb : readBody (c :: t) = t := by unfold readBody; rw [if_pos hn]; rfl
      have hc : c = 45 := by simpa using hn.2
      subst hc
      refine ⟨by decide, ?_, by rw [hb]; rfl, h6, by simpa using hn.1⟩
      unfold readNeg
      rw [decide_eq_true hn.1]
      rfl
    · have hb : readBody (c :: t) = c :: t := by unfold readBody; rw [if_neg hn]
      rw [hb] at h6
      have h8 := List.all_eq_true.1 h6 c (by simp)
      rw [Bool.and_eq_true, decide_eq_true_eq, decide_eq_true_eq, UInt8.le_iff_toNat_le, UInt8.le_iff_toNat_le] at h8
      have h48 : (48 : UInt8).toNat = 48 := rfl
      have hne : c ≠ 45 := fun e => by rw [e] at h8; exact absurd h8.1 (by decide)
      have hne2 : c ≠ 43 := fun e => by rw [e] at h8; exact absurd h8.1 (by decide)
      refine ⟨hne2, ?_, by rw [hb, if_neg hne]; rfl, by rw [hb]; exact h6, by rw [if_neg hne]; simp⟩
      unfold readNeg
      rw [beq_eq_false_iff_ne.2 hne]
      have : ((c :: t).head? == some 45) = false := by simp [hne]
      rw [this, Bool.and_false]
theorem read_sign {l : List UInt8} (h : readOk l = true) : readSign l = readNeg l := by unfold readSign; rw [h]; rfl
theorem read_abs (l : List UInt8) : (readZ l).natAbs = decV (readBody l) := by unfold readZ decV; split <;> simp
theorem read_lt {l : List UInt8} (h : readOk l = true) : decide (readZ l < 0) = (decide (0 < (wds (decV (readBody l))).length) && readNeg l) := by
  obtain ⟨h1, h2⟩ := read_num h
  rw [← h1, read_sign h]
  cases hn : readNeg l with
  | false => rw [Bool.and_false]
  | true =>
    rw [read_sign h, hn] at h1
    have h3 : readZ l < 0 := of_decide_eq_true h1.symm
    have h4 : decV (readBody l) ≠ 0 := by rw [← read_abs]; omega
    have h5 : 0 < (wds (decV (readBody l))).length := by
      refine Nat.pos_of_ne_zero fun e => h4 ?_
      exact (toD_nil_iff (by decide)).1 (List.length_eq_zero_iff.1 e)
    rw [decide_eq_true h5]
    rfl

theorem OwnNat.ge {B : Nat} {w : World} {A : Option Addr} {c N : Nat} (h : OwnNat B w A c N) : ∀ a, A = some a → B ≤ a.block := by
  intro a ha
  rcases h with ⟨h, _⟩ | ⟨g, zs, h, _, _, _, hg, _⟩
  · rw [h] at ha; cases ha
  · rw [h] at ha; cases ha; exact hg
theorem ReaderAt.other {w : World} {g : Nat} {l : List UInt8} {i : Nat} (h : ReaderAt w g l i) {p : Addr} (u : Value) (hne : g ≠ p.block) : ReaderAt (w.setCell p u) g l i := by
  obtain ⟨pr, h⟩ := h
  exact ⟨pr, (one_other hne).trans h⟩
theorem EofIs.other {w : World} {p a : Addr} (h : EofIs w p) (u : Value) (hne : 2 ≠ a.block) : EofIs (w.setCell a u) p := (cell_other (by exact hne)).trans h
/-- The two fields of a big.Int are set. -/
theorem IntAt.put {w : World} {gz : Nat} {x : Bool} {v : Value} {z : Int} {A : Option Addr} {c N : Nat} {b : Bool} (hz : w.heap[gz]? = some (.cells #[.bool x, v] 80 (0, 0))) (hN : z.natAbs = N) (hb : decide (z < 0) = b) (h2 : (wds N).length ≤ c) (h3 : c ≤ 9223372036854775807)
    (hr : Wd w A (wds N)) (hA : ∀ a, A = some a → a.block ≠ gz) : IntAt ((w.setCell ⟨gz, 1, none⟩ (.slice A (wds N).length c)).setCell ⟨gz, 0, none⟩ (.bool b)) gz z := by
  subst hN hb
  exact ⟨A, c, cells_set (cells_set hz 1 _) 0 _, h2, h3, (hr.other _ hA).other _ hA⟩

def Fld (g gz b : Nat) : Prop := b = g ∨ b = gz
set_option maxRecDepth 100000 in
set_option maxHeartbeats 1000000 in
theorem intScan_walk (g gz : Nat) (l : List UInt8) (p : Addr) (w : World) (hok : readOk l = true) (hl : l.length ≤ 1000) (hr : ReaderAt w g l 0) (hz : IntNew w gz) (hp : EofIs w p) (hg : g ≠ 2) (hgz : gz ≠ 2) (hne : g ≠ gz) :
    Calls Tryz.prog 144 #[.pointer (some ⟨gz, 0, none⟩), .iface 115 (.pointer (some ⟨g, 0, none⟩)), .int .i64 10] w
      fun e w' => e = .returned (.tuple #[.pointer (some ⟨gz, 0, none⟩), .int .i64 10, .nilIface]) ∧ IntAt w' gz (readZ l) ∧ ReaderAt w' g l l.length ∧ EofIs w' p ∧ Ext (Fld g gz) w w' := by
  obtain ⟨c, t, hlt, hc43, hneg, hbody, hdig, ho⟩ := read_scan hok
  have hab := read_abs l
  have hsgn := read_lt hok
  have c0 := num_cell0 hz
  have c1 := num_cell1 hz
  have HZ := Lib.hid hz
  have HS : Hid (Calls Tryz.prog 178 #[.iface 115 (.pointer (some ⟨g, 0, none⟩))] w (ReadPost w g l (if c = 45 then 1 else 0) (.tuple #[.bool (readNeg l), .nilIface]))) := by
    apply Lib.hid
    rw [hneg, hlt]
    rw [hlt] at hr hl
    exact scanSign_walk g c t p w hr (by omega) hp hg hc43
  obtain ⟨o, hoo⟩ : ∃ o, (if c = 45 then 1 else 0) = o := ⟨_, rfl⟩
  rw [hoo] at HS hbody ho
  rw [hbody] at hab hsgn hdig
  clear hoo hneg hlt hbody
  obtain ⟨sg, hsg⟩ : ∃ sg, readNeg l = sg := ⟨_, rfl⟩
  rw [hsg] at HS hsgn
  clear hsg
  obtain ⟨N, hN⟩ : ∃ N, decV (l.drop o) = N := ⟨_, rfl⟩
  rw [hN] at hab hsgn
  have HAB := Lib.hid hab
  have HSG := Lib.hid hsgn
  have HN := Lib.hid hN
  clear hab hsgn hN
  go_enter Tryz.func144, Tryz.ntmps144
  go_wp2_with fail
  refine HS.out.mono ?_
  rintro e w1 ⟨rfl, hr1, hx1, hs1⟩
  have hz1 : IntNew w1 gz := (hx1.block gz (iter_lt hz) (fun e => hne e.symm)).trans hz
  have c01 := num_cell0 hz1
  have c11 := num_cell1 hz1
  have hp1 := hp.ext hx1 (fun h => hg h.symm)
  clear c0 c1
  go_wp2_with fail
  refine (scan10_walk g l o p w1 hr1 hl hp1 hg (by rw [hs1]; exact hr.lt) ho hdig).mono ?_
  rw [HN.out]
  rintro e w2 ⟨A, c2, n, rfl, hown, hr2, hp2, hx2⟩
  have hz2 : IntNew w2 gz := (hx2.block gz (iter_lt hz1) (fun e => hne e.symm)).trans hz1
  have HZ2 := Lib.hid hz2
  have c02 := num_cell0 hz2
  have c12 := num_cell1 hz2
  have f02 := one_free hz2 0
  have f12 := one_free hz2 1
  have HR2 := Lib.hid hr2
  have HO := Lib.hid hown
  have hcN : (wds N).length ≤ c2 := hown.room.1
  have HX := Lib.hid (show Ext (Fld g gz) w w2 from (hx1.mono (fun _ _ h => Or.inl h)).trans (hx2.mono (fun _ _ h => Or.inl h)))
  have hgw : gz < w1.heap.size := by rw [hs1]; exact iter_lt hz
  clear hr2 hown hz1 hz2 hx1 hx2
  have key : ∀ b : Bool, decide (readZ l < 0) = b → IntAt ((w2.setCell ⟨gz, 1, none⟩ (.slice A (wds N).length c2)).setCell ⟨gz, 0, none⟩ (.bool b)) gz (readZ l) ∧
      ReaderAt ((w2.setCell ⟨gz, 1, none⟩ (.slice A (wds N).length c2)).setCell ⟨gz, 0, none⟩ (.bool b)) g l l.length ∧
      EofIs ((w2.setCell ⟨gz, 1, none⟩ (.slice A (wds N).length c2)).setCell ⟨gz, 0, none⟩ (.bool b)) p ∧
      Ext (Fld g gz) w ((w2.setCell ⟨gz, 1, none⟩ (.slice A (wds N).length c2)).setCell ⟨gz, 0, none⟩ (.bool b)) := fun b hb =>
    ⟨IntAt.put HZ2.out HAB.out hb hcN (by have := HO.out.room; omega) HO.out.wd (fun a ha => by have := HO.out.ge a ha; omega), (HR2.out.other _ (by exact hne)).other _ (by exact hne), (hp2.other _ (by exact Ne.symm hgz)).other _ (by exact Ne.symm hgz),
      (HX.out.setCell (p := ⟨gz, 1, none⟩) (fun _ => Or.inr rfl) _).setCell (p := ⟨gz, 0, none⟩) (fun _ => Or.inr rfl) _⟩
  have KEY := Lib.hid key
  clear key
  by_cases h0 : 0 < (wds N).length
  · have hb : decide (readZ l < 0) = sg := by rw [HSG.out, decide_eq_true h0]; rfl
    have HB := Lib.hid hb
    clear hb
    go_wp2_with fail
    exact bodyPost_ret (v := .tuple #[.pointer (some ⟨gz, 0, none⟩), .int .i64 10, .nilIface]) (by simp [results, Tryz.results144, go_sem]) rfl ⟨rfl, KEY.out sg HB.out⟩
  · have hb : decide (readZ l < 0) = false := by rw [HSG.out, decide_eq_false h0]; rfl
    have HB := Lib.hid hb
    clear hb
    go_wp2_with fail
    exact bodyPost_ret (v := .tuple #[.pointer (some ⟨gz, 0, none⟩), .int .i64 10, .nilIface]) (by simp [results, Tryz.results144, go_sem]) rfl ⟨rfl, KEY.out false HB.out⟩
end Go.Proofs.YtapfolgiafnllaaGreatDoor

namespace Go.Proofs.YtapfolgiafnllaaGreatDoor
open Go.RowKit

theorem Rd.ext {D : Nat → Prop} {w w' : World} {A : Option Addr} {vs : List Value} (h : Rd w A vs) (hx : Ext D w w') (hA : vs ≠ [] → ∀ a, A = some a → ¬ D a.block) : Rd w' A vs := by
  rcases h with h | ⟨a, rfl, h⟩
  · exact .inl h
  · by_cases hv : vs = []
    · exact .inl hv
    · refine .inr ⟨a, rfl, fun j u hu => ?_⟩
      have h1 := h j u hu
      have h2 := World.block_lt_of_cell? w _ h1
      rw [World.cell?_of_block (w := w) (hx.block _ h2 (by rw [add_block]; exact hA hv a rfl))]
      exact h1
/-- Words are none of a block's cells that are no words. -/
theorem words_apart {w : World} {g : Nat} {cs : Array Value} {T : TypeId} {A : Option Addr} {ws : List Nat} (hk : w.heap[g]? = some (.cells cs T (0, 0))) (hc : ∀ v ∈ cs.toList, ∀ n, v ≠ .int .u64 n) (h : Rd w A (nums .u64 ws)) :
    nums .u64 ws ≠ [] → ∀ a, A = some a → a.block ≠ g := by
  rcases h with h | ⟨b, rfl, h⟩
  · exact fun hne => absurd h hne
  · intro hne a ha
    cases ha
    intro hb
    cases ws with
    | nil => exact hne rfl
    | cons d t =>
      have h1 := h 0 (.int .u64 (d : Int)) rfl
      have e : b.add 0 = b := by unfold Addr.add; rw [if_pos rfl]
      rw [e] at h1
      have hcell : w.cell? b = if b.spot.isSome then none else cs[b.off]? := by simp [World.cell?, hb, hk]
      rw [hcell] at h1
      split at h1
      · cases h1
      · have := Array.mem_of_getElem? h1
        exact hc _ (Array.mem_toList_iff.2 this) _ rfl
theorem IntAt.ext {D : Nat → Prop} {w w' : World} {gz : Nat} {z : Int} (h : IntAt w gz z) (hx : Ext D w w') (hd : ¬ D gz) (hA : ∀ A, Rd w A (nums .u64 (wds z.natAbs)) → nums .u64 (wds z.natAbs) ≠ [] → ∀ a, A = some a → ¬ D a.block) : IntAt w' gz z := by
  obtain ⟨A, c, h1, h2, h3, h4⟩ := h
  exact ⟨A, c, (hx.block gz (iter_lt h1) hd).trans h1, h2, h3, h4.ext hx (fun hne a ha => hA A h4.rd (fun e => hne (by simpa [nums] using e)) a ha)⟩
theorem reader_words {w : World} {g : Nat} {l : List UInt8} {i : Nat} {A : Option Addr} {ws : List Nat} (hr : ReaderAt w g l i) (h : Rd w A (nums .u64 ws)) : nums .u64 ws ≠ [] → ∀ a, A = some a → a.block ≠ g := by
  obtain ⟨pr, hk⟩ := hr
  refine words_apart hk (fun v hv n => ?_) h
  simp at hv
  rcases hv with rfl | rfl | rfl <;> simp

set_option maxRecDepth 100000 in
set_option maxHeartbeats 1000000 in
theorem setFrom_walk (g gz : Nat) (l : List UInt8) (p : Addr) (w : World) (hok : readOk l = true) (hl : l.length ≤ 1000) (hr : ReaderAt w g l 0) (hz : IntNew w gz) (hp : EofIs w p) (hg : g ≠ 2) (hgz : gz ≠ 2) (hne : g ≠ gz) :
    Calls Tryz.prog 118 #[.pointer (some ⟨gz, 0, none⟩), .iface 115 (.pointer (some ⟨g, 0, none⟩)), .int .i64 10] w
      fun e w' => e = .returned (.tuple #[.pointer (some ⟨gz, 0, none⟩), .bool true]) ∧ IntAt w' gz (readZ l) ∧ Ext (Fld g gz) w w' := by
  have m1 := met_read g
  have hnq := eof_neq p
  go_enter Tryz.func118, Tryz.ntmps118
  go_wp2_with fail
  refine (intScan_walk g gz l p w hok hl hr hz hp hg hgz hne).mono ?_
  rintro e w1 ⟨rfl, hi1, hr1, hp1, hx1⟩
  have he1 : w1.cell? ⟨2, 0, none⟩ = some (.iface 117 (.pointer (some p))) := hp1
  have HI := Lib.hid hi1
  have HX := Lib.hid hx1
  go_wp2_with fail
  have hnx : nextErr l l.length p = .iface 117 (.pointer (some p)) := if_neg (Nat.lt_irrefl _)
  have hR := readByte_walk g l l.length p w1 hr1 (by omega) hp1 hg (Nat.le_refl _)
  rw [hnx] at hR
  have HRB := Lib.hid hR
  have HR1 := Lib.hid hr1
  clear hR hnx hr1 hi1 hx1
  refine HRB.out.mono ?_
  rintro e w2 ⟨rfl, hr2, hx2, hs2⟩
  have he2 : w2.cell? ⟨2, 0, none⟩ = some (.iface 117 (.pointer (some p))) := hp1.ext hx2 (fun h => hg h.symm)
  have HX2 := Lib.hid hx2
  clear hr2 hx2
  go_wp2_with fail
  exact bodyPost_ret (v := .tuple #[.pointer (some ⟨gz, 0, none⟩), .bool true]) (by simp [results, Tryz.results118, go_sem]) rfl
    ⟨rfl, HI.out.ext HX2.out (fun h => hne h.symm) (fun A hA hn a ha => reader_words HR1.out hA hn a ha), HX.out.trans (HX2.out.mono fun _ _ h => Or.inl h)⟩

set_option maxRecDepth 100000 in
set_option maxHeartbeats 1000000 in
theorem setString_walk (gz : Nat) (l : List UInt8) (p : Addr) (w : World) (hok : readOk l = true) (hl : l.length ≤ 1000) (hz : IntNew w gz) (hp : EofIs w p) (hgz : gz ≠ 2) :
    Calls Tryz.prog 92 #[.pointer (some ⟨gz, 0, none⟩), .string (S l), .int .i64 10] w
      fun e w' => e = .returned (.tuple #[.pointer (some ⟨gz, 0, none⟩), .bool true]) ∧ IntAt w' gz (readZ l) ∧ Ext (fun b => b = gz) w w' := by
  go_enter Tryz.func92, Tryz.ntmps92
  go_wp2_with fail
  refine (newReader_walk l w).mono ?_
  rintro e w1 ⟨rfl, hr1, hb1⟩
  have hz1 : IntNew w1 gz := (hb1.block gz (iter_lt hz)).trans hz
  have hlt := iter_lt hz
  have hp1 := hp.below hb1
  have hplt := hp.lt
  obtain ⟨g, hg⟩ : ∃ g, w.heap.size = g := ⟨_, rfl⟩
  rw [hg] at hr1 ⊢
  have HG := Lib.hid hg
  clear hg
  go_wp2_with fail
  refine (setFrom_walk g gz l p w1 hok hl hr1 hz1 hp1 (by have := HG.out; omega) hgz (by have := HG.out; omega)).mono ?_
  rintro e w2 ⟨rfl, hi2, hx2⟩
  go_wp2_with fail
  go_ret2
  refine ⟨rfl, hi2, (Ext.of_below hb1).trans' hx2 (fun i hi h => ?_)⟩
  rcases h with h | h
  · have := HG.out; omega
  · exact h

set_option maxRecDepth 100000 in
set_option maxHeartbeats 1000000 in
theorem number_walk (l : List UInt8) (p : Addr) (w : World) (hok : readOk l = true) (hl : l.length ≤ 1000) (hp : EofIs w p) :
    Calls Tryz.prog 65 #[.string (S l)] w fun e w' => ∃ gz, e = .returned (.pointer (some ⟨gz, 0, none⟩)) ∧ IntAt w' gz (readZ l) ∧ Below w.heap.size w w' ∧ w.heap.size ≤ gz := by
  have hem : l.isEmpty = false := by
    obtain ⟨c, t, rfl, _⟩ := read_scan hok
    rfl
  have hplt := hp.lt
  go_enter Tryz.func65, Tryz.ntmps65
  go_wp2_with fail
  refine (setString_walk w.heap.size l p _ hok hl (heap_here _ _) (hp.below (below_a1 _ _)) (by omega)).mono ?_
  rintro e w1 ⟨rfl, hi1, hx1⟩
  go_wp2_with fail
  go_ret
  exact ⟨_, rfl, hi1, (below_a1 _ _).trans (hx1.below (by rw [heap_size_alloc]; omega) (fun k hk => by omega)), Nat.le_refl _⟩
end Go.Proofs.YtapfolgiafnllaaGreatDoor
