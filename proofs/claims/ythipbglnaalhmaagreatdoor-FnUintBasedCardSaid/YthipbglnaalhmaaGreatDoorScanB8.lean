/-
  math/big's scan of a number whose text tells the base 8.
-/
import Derived.Test.YthipbglnaalhmaaGreatDoorScanB0
namespace Go.Proofs.YthipbglnaalhmaaGreatDoor
open Go.RowKit
/-- scan's loop in base 8. -/
def ORel (w : World) (g : Nat) (l : List UInt8) (ds : List Nat) (p : Addr) (zv fv cnt ev pv iv chv dv nv dpv : Value) (wr : World) : Prop :=
  ∃ (k N A c d i : _) (q : Int), zv = .slice A (wds N).length c ∧ fv = .bool false ∧ cnt = .int .i64 (k : Nat) ∧ ev = nextErr l (2 + k) p ∧ pv = .int .i32 q ∧ (q == 95) = false ∧ iv = .bool false ∧
    chv = .int .u8 ((l.getD (2 + k) 0).toNat : Int) ∧ dv = .int .u64 (d : Nat) ∧ nv = .int .i64 (i : Nat) ∧ dpv = .int .i64 (-1) ∧ k ≤ ds.length ∧ i < 21 ∧ d < 8 ^ i ∧ N * 8 ^ i + d = hv 8 (ds.take k) ∧
    OwnNat w.heap.size wr A c N ∧ ReaderAt wr g l (min (2 + k + 1) l.length) ∧ EofIs wr p ∧ Ext (fun b => b = g) w wr
theorem oct_len {ds : List Nat} {k N i d : Nat} (hd : ∀ d ∈ ds, d < 8) (hk : k ≤ ds.length) (hl : ds.length ≤ 22) (h : N * 8 ^ i + d = hv 8 (ds.take k)) : (wds N).length ≤ 80000 := by
  have h1 := hv_lt ds hd k hk
  have h2 : (8 : Nat) ^ k ≤ 8 ^ 22 := Nat.pow_le_pow_right (by decide) (by omega)
  have h3 : N ≤ N * 8 ^ i := Nat.le_mul_of_pos_right _ (Nat.pow_pos (by decide))
  exact Nat.le_trans (toD_length_le (by decide) 2 _ (Nat.lt_of_le_of_lt (m := hv 8 (ds.take k)) (by omega) (Nat.lt_of_lt_of_le h1 (Nat.le_trans h2 (by decide))))) (by decide)

set_option maxRecDepth 100000 in
set_option maxHeartbeats 4000000 in
theorem scanB8_walk (g : Nat) (l : List UInt8) (ds : List Nat) (p : Addr) (w : World) (hl : l = 48 :: 111 :: ds.map hexC) (hr : ReaderAt w g l 0) (hd : ∀ d ∈ ds, d < 8) (hlen : ds.length ≤ 22) (h1 : 1 ≤ ds.length) (hp : EofIs w p) (hg : g ≠ 0) (hgB : g < w.heap.size) :
    Calls Tryz.prog 190 #[.slice none 0 0, .iface 111 (.pointer (some ⟨g, 0, none⟩)), .int .i64 0, .bool false] w
      fun e w' => ∃ A c n, e = .returned (.tuple #[.slice A (wds (hv 8 ds)).length c, .int .i64 8, .int .i64 n, .nilIface]) ∧ ScanOut w.heap.size w' A c (hv 8 ds) ∧ ReaderAt w' g l l.length ∧ EofIs w' p ∧ Ext (fun b => b = g) w w' := by
  have hll : l.length = 2 + ds.length := by rw [hl]; simp; omega
  have hgk : ∀ (k : Nat) (h : k < ds.length), l.getD (2 + k) 0 = hexC ds[k] := fun k h => by
    rw [hl]
    simp [List.getD_eq_getElem?_getD, Nat.add_comm 2 k, List.getElem?_eq_getElem h]
  have g0 : l.getD 0 0 = 48 := by rw [hl]; rfl
  have g1 : l.getD 1 0 = 111 := by rw [hl]; rfl
  have m1 := met_read g
  have m2 := met_unread g
  have HGK := Lib.hid hgk
  clear hl hgk
  go_enter Tryz.func190, Tryz.ntmps190
  go_wp2_with fail
  refine (readByte_walk g l 0 p _ hr (by omega) hp hg (by omega)).mono ?_
  have hn0 : nextErr l 0 p = .nilIface := if_pos (by omega)
  have hn1 : nextErr l 1 p = .nilIface := if_pos (by omega)
  have hn2 : nextErr l 2 p = .nilIface := if_pos (by omega)
  have t0 : ((48 : UInt8).toNat : Int) = 48 := rfl
  have t1 : ((111 : UInt8).toNat : Int) = 111 := rfl
  rw [hn0, g0, t0]
  rintro e w1 ⟨rfl, hr1, hx1, hs1⟩
  have HX1 := Lib.hid hx1
  have he1 := hp.ext hx1 (fun h => hg h.symm)
  clear hx1
  go_wp2_with fail
  refine (readByte_walk g l 1 p w1 (by have : min (0 + 1) l.length = 1 := by omega
                                       rw [this] at hr1; exact hr1) (by omega) he1 hg (by omega)).mono ?_
  rw [hn1, g1, t1]
  rintro e w2 ⟨rfl, hr2, hx2, hs2⟩
  have HX2 := Lib.hid (HX1.out.trans hx2)
  have he2 := he1.ext hx2 (fun h => hg h.symm)
  clear hx2 hr1 he1
  go_wp2_with fail
  refine (readByte_walk g l 2 p w2 (by have : min (1 + 1) l.length = 2 := by omega
                                       rw [this] at hr2; exact hr2) (by omega) he2 hg (by omega)).mono ?_
  rw [hn2]
  rintro e w3 ⟨rfl, hr3, hx3, hs3⟩
  have HX3 := Lib.hid (HX2.out.trans hx3)
  have he3 := he2.ext hx3 (fun h => hg h.symm)
  have HR3 := Lib.hid hr3
  have HE3 := Lib.hid he3
  clear hx3 hr2 he2 hr3 he3 hr
  go_wp2_with fail
  refine (maxPow_walk 8 21 _ (by decide) (by decide) (by decide) (by decide) (by decide) (by decide)).mono ?_
  rintro e w9 ⟨rfl, h9⟩
  subst h9
  go_wp2_with fail
  go_loopw [0, 3, 10, 11, 13, 14, 15, 20, 21, 22] (fun zv fv cnt ev pv iv chv dv nv dpv wr => ORel w g l ds p zv fv cnt ev pv iv chv dv nv dpv wr) (fun _ _ cnt _ _ _ _ _ _ _ _ => idxOf l.length cnt)
  case atStart => exact ⟨0, 0, none, 0, 0, 0, 48, by rw [wds_zero]; rfl, rfl, rfl, hn2.symm, rfl, rfl, rfl, rfl, rfl, rfl, rfl, by omega, by decide, by decide, by rw [List.take_zero]; rfl, .inl ⟨rfl, rfl, rfl⟩, HR3.out, HE3.out, HX3.out⟩
  case round =>
    obtain ⟨k, N, A, c, d, i, q, rfl, rfl, rfl, rfl, rfl, hq, rfl, rfl, rfl, rfl, rfl, hk, hi, hdl, hval, hown, hrd, heof, hx⟩ := hrel
    have hbig : 8 ^ i ≤ 8 ^ 20 := Nat.pow_le_pow_right (by decide) (by omega)
    have hwl := oct_len hd hk hlen hval
    have HVAL := Lib.hid hval
    have HOWN := Lib.hid hown
    have HX := Lib.hid hx
    clear hval hown hx
    by_cases hlt : k < ds.length
    · have hne : nextErr l (2 + k) p = .nilIface := if_pos (by omega)
      have hstep := hv_take (b := 8) hlt
      rw [hne, HGK.out k hlt]
      have hdk : ds[k] < 8 := hd _ (List.getElem_mem _)
      obtain ⟨d1, hd1⟩ : ∃ d1, ds[k] = d1 := ⟨_, rfl⟩
      rw [hd1] at hdk hstep
      rw [hd1]
      obtain ⟨x, hxx⟩ : ∃ x, (hexC d1).toNat = x := ⟨_, rfl⟩
      have hx0 : x = 48 + d1 := by rw [← hxx]; exact hexC_lo (by omega)
      rw [hxx]
      have x1 : ((x : Int) == 46) = false := beq_eq_false_iff_ne.2 (by omega)
      have x2 : ((x : Int) == 95) = false := beq_eq_false_iff_ne.2 (by omega)
      have x3 : (48 : Int) ≤ x := by omega
      have x4 : (x : Int) ≤ 57 := by omega
      have x5 : ¬ (8 : Int) ≤ (x : Int) - 48 := by omega
      have hmin : min (2 + k + 1) l.length = 2 + k + 1 := by omega
      rw [hmin] at hrd
      obtain ⟨E, hE⟩ : ∃ E, d * 8 + (x - 48) = E := ⟨_, rfl⟩
      have hd2 : (d : Int) * 8 + ((x : Int) - 48) = (E : Int) := by omega
      have hdl2 : E < 8 ^ (i + 1) := by rw [Nat.pow_succ]; omega
      have hval2 : N * 8 ^ (i + 1) + E = hv 8 (ds.take (k + 1)) := by
        rw [hstep, ← HVAL.out, Nat.pow_succ, Nat.add_mul, Nat.mul_assoc]
        omega
      have HV2 := Lib.hid hval2
      have HD2 := Lib.hid hd2
      have HDL2 := Lib.hid hdl2
      have hEl : (d : Int) * 8 + ((x : Int) - 48) ≤ 18446744073709551615 := by
        have h2 : (8 : Nat) ^ (i + 1) ≤ 8 ^ 21 := Nat.pow_le_pow_right (by decide) (by omega)
        have h3 : (8 : Nat) ^ 21 = 9223372036854775808 := by decide
        omega
      have hEg : (0 : Int) ≤ (d : Int) * 8 + ((x : Int) - 48) := by omega
      have hEm : E < 18446744073709551616 := by omega
      clear hval2 hd2 hne hstep hE hx0 hxx hd1 hdl2
      by_cases h20 : i = 20
      · have h20b : ((i : Int) + 1 == 21) = true := by rw [h20]; rfl
        go_wp2_with fail
        rw [HD2.out]
        refine (mulAddWW_walk w.heap.size A c N 9223372036854775808 E wr HOWN.out (by have := HX.out.size; exact this) (by decide) (by decide) hEm hwl).mono ?_
        rintro e w3 ⟨A3, c3, rfl, hown3, hb3, hs3⟩
        have hr3 := hrd.belowB hgB hb3
        have he3 := heof.belowB hp.lt hb3
        have hv3 : N * 9223372036854775808 + E = hv 8 (ds.take (k + 1)) := by have := HV2.out; rw [h20] at this; exact this
        have HOW3 := Lib.hid hown3
        have HB3 := Lib.hid hb3
        obtain ⟨N3, hN3⟩ : ∃ N3, N * 9223372036854775808 + E = N3 := ⟨_, rfl⟩
        rw [hN3] at hv3 HOW3 ⊢
        have HV3 := Lib.hid hv3
        clear hown3 hb3 hv3 hN3 hrd heof HD2
        go_wp2_with fail
        refine (readByte_walk g l (2 + k + 1) p w3 hr3 (by omega) he3 hg (by omega)).mono ?_
        rintro e w4 ⟨rfl, hr4, hx4, hs4⟩
        have HR4 := Lib.hid hr4
        have HX4 := Lib.hid hx4
        clear hr4 hx4
        go_wp2_with fail
        refine ⟨⟨k + 1, N3, A3, c3, 0, 0, 48, rfl, rfl, by go_num, rfl, rfl, rfl, rfl, rfl, rfl, rfl, rfl, by omega, by omega, by decide, by rw [← HV3.out]; simp, HOW3.out.ext HX4.out (fun b hb => by omega), HR4.out, he3.ext HX4.out (fun h => hg h.symm), (HX.out.belowB HB3.out).trans HX4.out⟩, by simp [idxOf]; omega⟩
      · have h20b : ((i : Int) + 1 == 21) = false := beq_eq_false_iff_ne.2 (by omega)
        go_wp2_with fail
        refine (readByte_walk g l (2 + k + 1) p wr hrd (by omega) heof hg (by omega)).mono ?_
        rintro e w3 ⟨rfl, hr3, hx3, hs3⟩
        have HR3 := Lib.hid hr3
        have HX3 := Lib.hid hx3
        clear hr3 hx3
        go_wp2_with fail
        refine ⟨⟨k + 1, N, A, c, E, i + 1, 48, rfl, rfl, by go_num, rfl, rfl, rfl, rfl, rfl, by rw [HD2.out], by go_num, rfl, by omega, by omega, HDL2.out, HV2.out, HOWN.out.ext HX3.out (fun b hb => by omega), HR3.out, heof.ext HX3.out (fun h => hg h.symm), HX.out.trans HX3.out⟩, by simp [idxOf]; omega⟩
    · have hne : nextErr l (2 + k) p = .iface 113 (.pointer (some p)) := if_neg (by omega)
      rw [hne]
      have hk0 : ((k : Int) == 0) = false := beq_eq_false_iff_ne.2 (by omega)
      have he : wr.cell? ⟨0, 0, none⟩ = some (.iface 113 (.pointer (some p))) := heof
      have hee := eof_eq p
      have htk : ds.take k = ds := List.take_of_length_le (by omega)
      have hr9 : min (2 + k + 1) l.length = l.length := by omega
      rw [hr9] at hrd
      have hval := HVAL.out
      rw [htk] at hval
      by_cases hi0 : i = 0
      · have hi0b : decide ((0 : Int) < i) = false := decide_eq_false (by omega)
        have hN : hv 8 ds = N := by
          rw [hi0] at hval hdl
          simp at hdl
          simp [hdl] at hval
          exact hval.symm
        subst hN
        have hwd := HOWN.out.wd
        have hrm := HOWN.out.room
        have hge := HOWN.out.ge
        have HWD := Lib.hid hwd
        have HGE := Lib.hid hge
        clear htk hval hwd hge
        go_wp2_with fail
        exact bodyPost_ret (v := .tuple #[.slice A (wds (hv 8 ds)).length c, .int .i64 8, .int .i64 (k : Int), .nilIface]) (by simp [results, Tryz.results190, go_sem]) rfl
          ⟨A, c, k, rfl, ⟨hrm.1, by omega, HWD.out, HGE.out⟩, hrd, heof, HX.out⟩
      · have hi0b : decide ((0 : Int) < i) = true := decide_eq_true (by omega)
        have hb20 : (8 : Nat) ^ 20 = 1152921504606846976 := by decide
        have hpw : 8 ^ i % 18446744073709551616 = 8 ^ i := Nat.mod_eq_of_lt (by omega)
        have hp0 : 8 ^ i ≠ 0 := Nat.ne_of_gt (Nat.pow_pos (by decide))
        have HP := Lib.hid (pow_walk 8 i wr (by decide) (by omega))
        rw [hpw] at HP
        obtain ⟨P, hP⟩ : ∃ P, 8 ^ i = P := ⟨_, rfl⟩
        rw [hP] at HP hval hp0 hbig hdl
        have hM := mulAddWW_walk w.heap.size A c N P d wr HOWN.out (by have := HX.out.size; exact this) hp0 (by omega) (by omega) hwl
        rw [hval] at hM
        have HM := Lib.hid hM
        clear hM hval hpw htk hP hb20
        go_wp2_with fail
        refine HP.out.mono ?_
        rintro e w3 ⟨rfl, h3⟩
        subst h3
        go_wp2_with fail
        refine HM.out.mono ?_
        rintro e w4 ⟨A4, c4, rfl, hown4, hb4, hs4⟩
        have hrm := hown4.room
        have HWD := Lib.hid hown4.wd
        have HGE := Lib.hid hown4.ge
        have HB4 := Lib.hid hb4
        clear hown4 hb4
        go_wp2_with fail
        exact bodyPost_ret (v := .tuple #[.slice A4 (wds (hv 8 ds)).length c4, .int .i64 8, .int .i64 (k : Int), .nilIface]) (by simp [results, Tryz.results190, go_sem]) rfl
          ⟨A4, c4, k, rfl, ⟨hrm.1, by omega, HWD.out, HGE.out⟩, hrd.belowB hgB HB4.out, heof.belowB hp.lt HB4.out, HX.out.belowB HB4.out⟩
end Go.Proofs.YthipbglnaalhmaaGreatDoor
