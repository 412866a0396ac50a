/-
  math/big's scan of a number in base 0, which the text tells: decimal texts.
-/
import Derived.Test.YthipbglnaalhmaaGreatDoorScan
namespace Go.Proofs.YthipbglnaalhmaaGreatDoor
open Go.RowKit

set_option maxRecDepth 100000 in
set_option maxHeartbeats 2000000 in
theorem scan0_walk (g : Nat) (l : List UInt8) (o : Nat) (p : Addr) (w : World) (hr : ReaderAt w g l o) (hl : l.length ≤ 1000) (hp : EofIs w p) (hg : g ≠ 0) (hgB : g < w.heap.size)
    (ho : o < l.length) (hnz : l[o] ≠ 48) (hd : allDig (l.drop o) = true) :
    Calls Tryz.prog 190 #[.slice none 0 0, .iface 111 (.pointer (some ⟨g, 0, none⟩)), .int .i64 0, .bool false] w
      fun e w' => ∃ A c n, e = .returned (.tuple #[.slice A (wds (decV (l.drop o))).length c, .int .i64 10, .int .i64 n, .nilIface]) ∧ OwnNat w.heap.size w' A c (decV (l.drop o)) ∧ ReaderAt w' g l l.length ∧ EofIs w' p ∧ Ext (fun b => b = g) w w' := by
  have hnzb : ((l[o].toNat : Int) == 48) = false := by
    have : ¬ ((l[o].toNat : Int) = 48) := fun k => hnz (UInt8.toNat_inj.1 (show l[o].toNat = 48 by omega))
    exact beq_eq_false_iff_ne.2 this
  have m1 := met_read g
  have m2 := met_unread g
  go_enter Tryz.func190, Tryz.ntmps190
  go_wp2_with fail
  refine (readByte_walk g l o p _ hr (by omega) hp hg (Nat.le_of_lt ho)).mono ?_
  have hn0 : nextErr l o p = .nilIface := if_pos ho
  rw [hn0]
  rintro e w1 ⟨rfl, hr1, hx1, hs1⟩
  have HR1 := Lib.hid hr1
  have HX1 := Lib.hid hx1
  go_wp2_with fail
  refine (maxPow_walk 10 19 w1 (by decide) (by decide) (by decide) (by decide) (by decide) (by decide)).mono ?_
  rintro e w2 ⟨rfl, rfl⟩
  clear hr1 hx1 hr
  go_wp2_with fail
  go_loopw [0, 3, 10, 11, 13, 14, 15, 20, 21, 22] (fun zv fv cnt ev pv iv chv dv nv dpv wr => ScanRel w g l o p zv fv cnt ev pv iv chv dv nv dpv wr) (fun _ _ cnt _ _ _ _ _ _ _ _ => idxOf l.length cnt)
  case atStart =>
    refine ⟨0, 0, none, 0, 0, 0, 46, by rw [wds_zero]; rfl, rfl, rfl, ?_, rfl, rfl, rfl, ?_, rfl, rfl, rfl, by omega, by decide, by decide, by rw [List.take_zero, decV_nil], .inl ⟨rfl, rfl, rfl⟩, HR1.out, hp.ext HX1.out (fun h => hg h.symm), HX1.out⟩
    · exact hn0.symm
    · simp [List.getD_eq_getElem?_getD, List.getElem?_eq_getElem ho]
  case round =>
    obtain ⟨k, N, A, c, d, i, q, rfl, rfl, rfl, rfl, rfl, hq, rfl, rfl, rfl, rfl, rfl, hk, hi, hdl, hval, hown, hrd, heof, hx⟩ := hrel
    have hbig : 10 ^ i ≤ 10 ^ 18 := Nat.pow_le_pow_right (by decide) (by omega)
    have HVAL := Lib.hid hval
    have HOWN := Lib.hid hown
    have HX := Lib.hid hx
    clear hval hown hx
    by_cases hlt : o + k < l.length
    · have hne : nextErr l (o + k) p = .nilIface := by unfold nextErr; rw [if_pos hlt]
      rw [hne]
      have hgd : l.getD (o + k) 0 = l[o + k] := by simp [List.getD_eq_getElem?_getD, List.getElem?_eq_getElem hlt]
      obtain ⟨ch, hch⟩ : ∃ ch, l[o + k] = ch := ⟨_, rfl⟩
      have hmem : ch ∈ l.drop o := by
        rw [← hch]
        have : l[o + k] = (l.drop o)[k]'(by simp; omega) := by simp
        rw [this]
        exact List.getElem_mem _
      have hdg := allDig_digits hd
      have hch2 : 48 ≤ ch.toNat ∧ ch.toNat ≤ 57 := by
        have h1 := List.all_eq_true.1 hd ch hmem
        have h2 := h1
        rw [Bool.and_eq_true, decide_eq_true_eq, decide_eq_true_eq] at h2
        rw [UInt8.le_iff_toNat_le, UInt8.le_iff_toNat_le] at h2
        exact h2
      rw [hgd, hch]
      clear hgd hmem hdg
      obtain ⟨x, hxx⟩ : ∃ x, ch.toNat = x := ⟨_, rfl⟩
      have hdn : digN ch = x - 48 := by unfold digN; rw [hxx]
      rw [hxx] at hch2 ⊢
      have x1 : ((x : Int) == 46) = false := beq_eq_false_iff_ne.2 (by omega)
      have x2 : ((x : Int) == 95) = false := beq_eq_false_iff_ne.2 (by omega)
      have x3 : (48 : Int) ≤ x := by omega
      have x4 : (x : Int) ≤ 57 := by omega
      have x5 : ¬ (10 : Int) ≤ (x : Int) - 48 := by omega
      have hmin : min (o + k + 1) l.length = o + k + 1 := by omega
      rw [hmin] at hrd
      have hd2 : (d : Int) * 10 + ((x : Int) - 48) = ((d * 10 + (x - 48) : Nat) : Int) := by omega
      have hdl2 : d * 10 + (x - 48) < 10 ^ (i + 1) := by rw [Nat.pow_succ]; omega
      have hval2 : N * 10 ^ (i + 1) + (d * 10 + (x - 48)) = decV ((l.drop o).take (k + 1)) := by
        have htk : (l.drop o).take (k + 1) = (l.drop o).take k ++ [ch] := by
          rw [List.take_add_one, List.getElem?_drop, List.getElem?_eq_getElem hlt, hch]; rfl
        rw [htk, decV_snoc, ← HVAL.out, hdn, Nat.pow_succ, Nat.add_mul, Nat.mul_assoc]
        omega
      have HV2 := Lib.hid hval2
      have HD2 := Lib.hid hd2
      clear hval2 hd2 hne
      by_cases h18 : i = 18
      · have h18b : ((i : Int) + 1 == 19) = true := by rw [h18]; rfl
        have hwl := scan_len hd (by simp; omega) HVAL.out
        have hlt19 : d * 10 + (x - 48) < 18446744073709551616 := by rw [h18] at hdl2; omega
        go_wp2_with fail
        rw [HD2.out]
        refine (mulAddWW_walk w.heap.size A c N 10000000000000000000 (d * 10 + (x - 48)) wr HOWN.out (by have := HX.out.size; exact this) (by decide) (by decide) hlt19 hwl).mono ?_
        rintro e w3 ⟨A3, c3, rfl, hown3, hb3, hs3⟩
        have hr3 := hrd.belowB hgB hb3
        have he3 := heof.belowB hp.lt hb3
        have hv3 : N * 10000000000000000000 + (d * 10 + (x - 48)) = decV ((l.drop o).take (k + 1)) := by have := HV2.out; rw [h18] at this; exact this
        have HOW3 := Lib.hid hown3
        have HB3 := Lib.hid hb3
        obtain ⟨N3, hN3⟩ : ∃ N3, N * 10000000000000000000 + (d * 10 + (x - 48)) = N3 := ⟨_, rfl⟩
        rw [hN3] at hv3 HOW3 ⊢
        have HV3 := Lib.hid hv3
        clear hown3 hb3 hv3 hN3 hrd heof HD2
        go_wp2_with fail
        refine (readByte_walk g l (o + k + 1) p w3 hr3 (by omega) he3 hg (by omega)).mono ?_
        rintro e w4 ⟨rfl, hr4, hx4, hs4⟩
        have HR4 := Lib.hid hr4
        have HX4 := Lib.hid hx4
        clear hr4 hx4
        go_wp2_with fail
        refine ⟨⟨k + 1, N3, A3, c3, 0, 0, 48, rfl, rfl, by go_num, rfl, rfl, rfl, rfl, rfl, rfl, rfl, rfl, by omega, by omega, by decide, by rw [← HV3.out]; simp, HOW3.out.ext HX4.out (fun b hb => by omega), HR4.out, he3.ext HX4.out (fun h => hg h.symm), (HX.out.belowB HB3.out).trans HX4.out⟩, by simp [idxOf]; omega⟩
      · have h18b : ((i : Int) + 1 == 19) = false := beq_eq_false_iff_ne.2 (by omega)
        go_wp2_with fail
        refine (readByte_walk g l (o + k + 1) p wr hrd (by omega) heof hg (by omega)).mono ?_
        rintro e w3 ⟨rfl, hr3, hx3, hs3⟩
        have HR3 := Lib.hid hr3
        have HX3 := Lib.hid hx3
        clear hr3 hx3
        go_wp2_with fail
        refine ⟨⟨k + 1, N, A, c, d * 10 + (x - 48), i + 1, 48, rfl, rfl, by go_num, rfl, rfl, rfl, rfl, rfl, by rw [HD2.out], by go_num, rfl, by omega, by omega, hdl2, HV2.out, HOWN.out.ext HX3.out (fun b hb => by omega), HR3.out, heof.ext HX3.out (fun h => hg h.symm), HX.out.trans HX3.out⟩, by simp [idxOf]; omega⟩
    · have hne : nextErr l (o + k) p = .iface 113 (.pointer (some p)) := if_neg hlt
      rw [hne]
      have hkl : o + k = l.length := by omega
      have hk0 : ((k : Int) == 0) = false := beq_eq_false_iff_ne.2 (by omega)
      have he : wr.cell? ⟨0, 0, none⟩ = some (.iface 113 (.pointer (some p))) := heof
      have hee := eof_eq p
      have htk : (l.drop o).take k = l.drop o := List.take_of_length_le (by simp; omega)
      have hr9 : min (o + k + 1) l.length = l.length := by omega
      rw [hr9] at hrd
      by_cases hi0 : i = 0
      · have hi0b : decide ((0 : Int) < i) = false := decide_eq_false (by omega)
        have hN : decV (l.drop o) = N := by
          have := HVAL.out
          rw [htk, hi0] at this
          rw [hi0] at hdl
          simp at hdl
          simp [hdl] at this
          exact this.symm
        subst hN
        clear htk
        go_wp2_with fail
        exact bodyPost_ret (v := .tuple #[.slice A (wds (decV (l.drop o))).length c, .int .i64 10, .int .i64 (k : Int), .nilIface]) (by simp [results, Tryz.results190, go_sem]) rfl
          ⟨A, c, k, rfl, HOWN.out, hrd, heof, HX.out⟩
      · have hi0b : decide ((0 : Int) < i) = true := decide_eq_true (by omega)
        have hpw : 10 ^ i % 18446744073709551616 = 10 ^ i := Nat.mod_eq_of_lt (by omega)
        have hwl := scan_len hd (by simp; omega) HVAL.out
        have hp0 : 10 ^ i ≠ 0 := Nat.ne_of_gt (Nat.pow_pos (by decide))
        have hval := HVAL.out
        rw [htk] at hval
        have HP := Lib.hid (pow_walk 10 i wr (by decide) (by omega))
        rw [hpw] at HP
        obtain ⟨P, hP⟩ : ∃ P, 10 ^ i = P := ⟨_, rfl⟩
        rw [hP] at HP hval hp0 hbig hdl
        have hM := mulAddWW_walk w.heap.size A c N P d wr HOWN.out (by have := HX.out.size; exact this) hp0 (by omega) (by omega) hwl
        rw [hval] at hM
        have HM := Lib.hid hM
        clear hM hval hpw htk hP
        go_wp2_with fail
        refine HP.out.mono ?_
        rintro e w3 ⟨rfl, rfl⟩
        go_wp2_with fail
        refine HM.out.mono ?_
        rintro e w4 ⟨A4, c4, rfl, hown4, hb4, hs4⟩
        have HOW4 := Lib.hid hown4
        have HB4 := Lib.hid hb4
        clear hown4 hb4
        go_wp2_with fail
        exact bodyPost_ret (v := .tuple #[.slice A4 (wds (decV (l.drop o))).length c4, .int .i64 10, .int .i64 (k : Int), .nilIface]) (by simp [results, Tryz.results190, go_sem]) rfl
          ⟨A4, c4, k, rfl, HOW4.out, hrd.belowB hgB HB4.out, heof.belowB hp.lt HB4.out, HX.out.belowB HB4.out⟩
end Go.Proofs.YthipbglnaalhmaaGreatDoor
