/-
  math/big's scan of a number whose text tells the base 16.
-/
import Derived.Test.YthipbglnaalhmaaGreatDoorScanB0
namespace Go.Proofs.YthipbglnaalhmaaGreatDoor
open Go.RowKit

set_option maxRecDepth 100000 in
set_option maxHeartbeats 4000000 in
theorem scanB16_walk (g : Nat) (l : List UInt8) (ds : List Nat) (p : Addr) (w : World) (hl : l = 48 :: 120 :: ds.map hexC) (hr : ReaderAt w g l 0) (hd : ∀ d ∈ ds, d < 16) (hlen : ds.length ≤ 16) (h1 : 1 ≤ ds.length) (hp : EofIs w p) (hg : g ≠ 0) (hgB : g < w.heap.size) :
    Calls Tryz.prog 190 #[.slice none 0 0, .iface 111 (.pointer (some ⟨g, 0, none⟩)), .int .i64 0, .bool false] w
      fun e w' => ∃ A c n, e = .returned (.tuple #[.slice A (wds (hv 16 ds)).length c, .int .i64 16, .int .i64 n, .nilIface]) ∧ ScanOut w.heap.size w' A c (hv 16 ds) ∧ ReaderAt w' g l l.length ∧ EofIs w' p ∧ Ext (fun b => b = g) w w' := by
  have hll : l.length = 2 + ds.length := by rw [hl]; simp; omega
  have hgk : ∀ (k : Nat) (h : k < ds.length), l.getD (2 + k) 0 = hexC ds[k] := fun k h => by
    rw [hl]
    simp [List.getD_eq_getElem?_getD, Nat.add_comm 2 k, List.getElem?_eq_getElem h]
  have g0 : l.getD 0 0 = 48 := by rw [hl]; rfl
  have g1 : l.getD 1 0 = 120 := by rw [hl]; rfl
  have m1 := met_read g
  have m2 := met_unread g
  have HGK := Lib.hid hgk
  clear hl hgk
  go_enter Tryz.func190, Tryz.ntmps190
  go_wp2_with fail
  refine (readByte_walk g l 0 p _ hr (by omega) hp hg (by omega)).mono ?_
  have hn0 : nextErr l 0 p = .nilIface := if_pos (by omega)
  have hn1 : nextErr l 1 p = .nilIface := if_pos (by omega)
  have hn2 : nextErr l 2 p = .nilIface := if_pos (by omega)
  have t0 : ((48 : UInt8).toNat : Int) = 48 := rfl
  have t1 : ((120 : UInt8).toNat : Int) = 120 := rfl
  rw [hn0, g0, t0]
  rintro e w1 ⟨rfl, hr1, hx1, hs1⟩
  have HX1 := Lib.hid hx1
  have he1 := hp.ext hx1 (fun h => hg h.symm)
  clear hx1
  go_wp2_with fail
  refine (readByte_walk g l 1 p w1 (by have : min (0 + 1) l.length = 1 := by omega
                                       rw [this] at hr1; exact hr1) (by omega) he1 hg (by omega)).mono ?_
  rw [hn1, g1, t1]
  rintro e w2 ⟨rfl, hr2, hx2, hs2⟩
  have HX2 := Lib.hid (HX1.out.trans hx2)
  have he2 := he1.ext hx2 (fun h => hg h.symm)
  clear hx2 hr1 he1
  go_wp2_with fail
  refine (readByte_walk g l 2 p w2 (by have : min (1 + 1) l.length = 2 := by omega
                                       rw [this] at hr2; exact hr2) (by omega) he2 hg (by omega)).mono ?_
  rw [hn2]
  rintro e w3 ⟨rfl, hr3, hx3, hs3⟩
  have HX3 := Lib.hid (HX2.out.trans hx3)
  have he3 := he2.ext hx3 (fun h => hg h.symm)
  have HR3 := Lib.hid hr3
  have HE3 := Lib.hid he3
  clear hx3 hr2 he2 hr3 he3 hr
  go_wp2_with fail
  go_loopw [0, 3, 10, 11, 13, 14, 15, 20, 21, 22] (fun zv fv cnt ev pv iv chv dv nv dpv wr => BRel 16 16 w g l ds p zv fv cnt ev pv iv chv dv nv dpv wr) (fun _ _ cnt _ _ _ _ _ _ _ _ => idxOf l.length cnt)
  case atStart => exact ⟨0, 48, rfl, rfl, hn2.symm, rfl, rfl, rfl, rfl, rfl, by omega, HR3.out, HE3.out, HX3.out, .inl ⟨by decide, rfl, rfl, rfl⟩⟩
  case round =>
    obtain ⟨k, q, rfl, rfl, rfl, rfl, hq, rfl, rfl, rfl, hk, hrd, heof, hx, hph⟩ := hrel
    have hgr : g < wr.heap.size := Nat.lt_of_lt_of_le hgB hx.size
    have HX := Lib.hid hx
    clear hx
    by_cases hlt : k < ds.length
    · rcases hph with ⟨hkn, rfl, rfl, rfl⟩ | ⟨hkn, _⟩
      rotate_left
      · omega
      have hne : nextErr l (2 + k) p = .nilIface := if_pos (by omega)
      have hmin : min (2 + k + 1) l.length = 2 + k + 1 := by omega
      have hstep := hv_take (b := 16) hlt
      have hlt1 : hv 16 (ds.take (k + 1)) < 18446744073709551616 := by
        have h2 := hv_lt ds hd (k + 1) hlt
        have h3 : (16 : Nat) ^ (k + 1) ≤ 16 ^ 16 := Nat.pow_le_pow_right (by decide) (by omega)
        have h4 : (16 : Nat) ^ 16 = 18446744073709551616 := by decide
        omega
      rw [hne, HGK.out k hlt]

      have hdk : ds[k] < 16 := hd _ (List.getElem_mem _)
      obtain ⟨d1, hd1⟩ : ∃ d1, ds[k] = d1 := ⟨_, rfl⟩
      rw [hd1] at hdk hstep
      rw [hd1]
      by_cases hd10 : d1 < 10
      · obtain ⟨x, hxx⟩ : ∃ x, (hexC d1).toNat = x := ⟨_, rfl⟩
        have hx0 : x = 48 + d1 := by rw [← hxx]; exact hexC_lo hd10
        rw [hxx]
        have x1 : ((x : Int) == 46) = false := beq_eq_false_iff_ne.2 (by omega)
        have x2 : ((x : Int) == 95) = false := beq_eq_false_iff_ne.2 (by omega)
        have x3 : (48 : Int) ≤ x := by omega
        have x4 : (x : Int) ≤ 57 := by omega
        have x5 : ¬ (16 : Int) ≤ (x : Int) - 48 := by omega
        have hd2 : ((hv 16 (ds.take k) : Nat) : Int) * 16 + ((x : Int) - 48) = ((hv 16 (ds.take (k + 1)) : Nat) : Int) := by omega
        have HD2 := Lib.hid hd2
        obtain ⟨D0, hD0⟩ : ∃ D0, hv 16 (ds.take k) = D0 := ⟨_, rfl⟩
        obtain ⟨D1, hD1⟩ : ∃ D1, hv 16 (ds.take (k + 1)) = D1 := ⟨_, rfl⟩
        have HD1 := Lib.hid hD1
        rw [hD0, hD1] at HD2
        rw [hD0]
        have hDl : (D0 : Int) * 16 + ((x : Int) - 48) ≤ 18446744073709551615 := by have := HD2.out; have := hlt1; rw [hD1] at this; omega
        have hDg : (0 : Int) ≤ (D0 : Int) * 16 + ((x : Int) - 48) := by omega
        clear hd2 hstep hne hD0 hD1 hlt1 hd1 hx0 hxx
        by_cases hkn : k + 1 = 16
        · have hkb : ((k : Int) + 1 == 16) = true := by rw [beq_iff_eq]; omega
          go_wp2_with (at_builtin; refine wpList_append_word rfl _ _ 87 rfl _ Tryz.underlying87 rfl ⟨wr.heap.size, 0, none⟩ 1 D1 rfl ?c1 ?_)
          case c1 => rw [← HD2.out]
          intro w2 cap r hcap1 hcap2 hrow2 hb2
          have hbr2 : Below wr.heap.size wr w2 := (below_a1 wr (.cells #[.int .u64 ((D0 : Int) * 16 + ((x : Int) - 48))] 150)).trans (hb2.mono (Nat.le_succ _))
          have hr2 := hrd.belowB hgr hbr2
          have he2 := heof.belowB heof.lt hbr2
          have hGs : w.heap.size ≤ wr.heap.size + 1 := by have := HX.out.size; omega
          obtain ⟨G, hG⟩ : ∃ G, wr.heap.size + 1 = G := ⟨_, rfl⟩
          rw [hG] at hrow2 hGs ⊢
          have HROW := Lib.hid hrow2
          have HX2 := Lib.hid (HX.out.then_below hbr2)
          have hgne : G ≠ g := by have := hgr; omega
          clear hrow2 hb2 hbr2 hG hrd heof
          go_wp2_with fail
          refine (readByte_walk g l (2 + k + 1) p w2 (by rw [hmin] at hr2; exact hr2) (by omega) he2 hg (by omega)).mono ?_
          rintro e w4 ⟨rfl, hr4, hx4, hs4⟩
          have HR4 := Lib.hid hr4
          have HX4 := Lib.hid hx4
          clear hr4 hx4
          go_wp2_with fail
          refine ⟨⟨k + 1, 48, rfl, by go_num, rfl, rfl, rfl, rfl, rfl, rfl, by omega, HR4.out, he2.ext HX4.out (fun h => hg h.symm), HX2.out.trans HX4.out, .inr ⟨hkn, G, cap, r, rfl, rfl, rfl, hcap1, hcap2, hGs, ?_⟩⟩, by simp [idxOf]; omega⟩
          rw [HD1.out]
          exact (HX4.out.block G HROW.out.lt hgne).trans HROW.out
        · have hkb : ((k : Int) + 1 == 16) = false := beq_eq_false_iff_ne.2 (by omega)
          go_wp2_with fail
          refine (readByte_walk g l (2 + k + 1) p wr (by rw [hmin] at hrd; exact hrd) (by omega) heof hg (by omega)).mono ?_
          rintro e w4 ⟨rfl, hr4, hx4, hs4⟩
          have HR4 := Lib.hid hr4
          have HX4 := Lib.hid hx4
          clear hr4 hx4
          go_wp2_with fail
          exact ⟨⟨k + 1, 48, rfl, by go_num, rfl, rfl, rfl, rfl, rfl, rfl, by omega, HR4.out, heof.ext HX4.out (fun h => hg h.symm), HX.out.trans HX4.out, .inl ⟨by omega, rfl, by rw [HD2.out, HD1.out], by go_num⟩⟩, by simp [idxOf]; omega⟩
      · obtain ⟨x, hxx⟩ : ∃ x, (hexC d1).toNat = x := ⟨_, rfl⟩
        have hx0 : x = 87 + d1 := by rw [← hxx]; exact hexC_hi hd10 hdk
        rw [hxx]
        have x1 : ((x : Int) == 46) = false := beq_eq_false_iff_ne.2 (by omega)
        have x2 : ((x : Int) == 95) = false := beq_eq_false_iff_ne.2 (by omega)
        have x3 : (97 : Int) ≤ x := by omega
        have x4 : (x : Int) ≤ 102 := by omega
        have x5 : ¬ (16 : Int) ≤ (x : Int) - 97 + 10 := by omega
        have hd2 : ((hv 16 (ds.take k) : Nat) : Int) * 16 + ((x : Int) - 97 + 10) = ((hv 16 (ds.take (k + 1)) : Nat) : Int) := by omega
        have HD2 := Lib.hid hd2
        obtain ⟨D0, hD0⟩ : ∃ D0, hv 16 (ds.take k) = D0 := ⟨_, rfl⟩
        obtain ⟨D1, hD1⟩ : ∃ D1, hv 16 (ds.take (k + 1)) = D1 := ⟨_, rfl⟩
        have HD1 := Lib.hid hD1
        rw [hD0, hD1] at HD2
        rw [hD0]
        have hDl : (D0 : Int) * 16 + ((x : Int) - 97 + 10) ≤ 18446744073709551615 := by have := HD2.out; have := hlt1; rw [hD1] at this; omega
        have hDg : (0 : Int) ≤ (D0 : Int) * 16 + ((x : Int) - 97 + 10) := by omega
        clear hd2 hstep hne hD0 hD1 hlt1 hd1 hx0 hxx
        by_cases hkn : k + 1 = 16
        · have hkb : ((k : Int) + 1 == 16) = true := by rw [beq_iff_eq]; omega
          go_wp2_with (at_builtin; refine wpList_append_word rfl _ _ 87 rfl _ Tryz.underlying87 rfl ⟨wr.heap.size, 0, none⟩ 1 D1 rfl ?c1 ?_)
          case c1 => rw [← HD2.out]
          intro w2 cap r hcap1 hcap2 hrow2 hb2
          have hbr2 : Below wr.heap.size wr w2 := (below_a1 wr (.cells #[.int .u64 ((D0 : Int) * 16 + ((x : Int) - 97 + 10))] 150)).trans (hb2.mono (Nat.le_succ _))
          have hr2 := hrd.belowB hgr hbr2
          have he2 := heof.belowB heof.lt hbr2
          have hGs : w.heap.size ≤ wr.heap.size + 1 := by have := HX.out.size; omega
          obtain ⟨G, hG⟩ : ∃ G, wr.heap.size + 1 = G := ⟨_, rfl⟩
          rw [hG] at hrow2 hGs ⊢
          have HROW := Lib.hid hrow2
          have HX2 := Lib.hid (HX.out.then_below hbr2)
          have hgne : G ≠ g := by have := hgr; omega
          clear hrow2 hb2 hbr2 hG hrd heof
          go_wp2_with fail
          refine (readByte_walk g l (2 + k + 1) p w2 (by rw [hmin] at hr2; exact hr2) (by omega) he2 hg (by omega)).mono ?_
          rintro e w4 ⟨rfl, hr4, hx4, hs4⟩
          have HR4 := Lib.hid hr4
          have HX4 := Lib.hid hx4
          clear hr4 hx4
          go_wp2_with fail
          refine ⟨⟨k + 1, 48, rfl, by go_num, rfl, rfl, rfl, rfl, rfl, rfl, by omega, HR4.out, he2.ext HX4.out (fun h => hg h.symm), HX2.out.trans HX4.out, .inr ⟨hkn, G, cap, r, rfl, rfl, rfl, hcap1, hcap2, hGs, ?_⟩⟩, by simp [idxOf]; omega⟩
          rw [HD1.out]
          exact (HX4.out.block G HROW.out.lt hgne).trans HROW.out
        · have hkb : ((k : Int) + 1 == 16) = false := beq_eq_false_iff_ne.2 (by omega)
          go_wp2_with fail
          refine (readByte_walk g l (2 + k + 1) p wr (by rw [hmin] at hrd; exact hrd) (by omega) heof hg (by omega)).mono ?_
          rintro e w4 ⟨rfl, hr4, hx4, hs4⟩
          have HR4 := Lib.hid hr4
          have HX4 := Lib.hid hx4
          clear hr4 hx4
          go_wp2_with fail
          exact ⟨⟨k + 1, 48, rfl, by go_num, rfl, rfl, rfl, rfl, rfl, rfl, by omega, HR4.out, heof.ext HX4.out (fun h => hg h.symm), HX.out.trans HX4.out, .inl ⟨by omega, rfl, by rw [HD2.out, HD1.out], by go_num⟩⟩, by simp [idxOf]; omega⟩
    · have hke : k = ds.length := by omega
      have hne : nextErr l (2 + k) p = .iface 113 (.pointer (some p)) := if_neg (by omega)
      rw [hne]
      have hk0 : ((k : Int) == 0) = false := beq_eq_false_iff_ne.2 (by omega)
      have hk1 : (0 : Int) < k := by omega
      have he : wr.cell? ⟨0, 0, none⟩ = some (.iface 113 (.pointer (some p))) := heof
      have hee := eof_eq p
      have htk : ds.take k = ds := List.take_of_length_le (by omega)
      have hr9 : min (2 + k + 1) l.length = l.length := by omega
      rw [hr9] at hrd
      have hVk : hv 16 ds < 16 ^ k := by have := hv_lt ds hd k (by omega); rw [htk] at this; exact this
      rw [htk] at hph
      obtain ⟨V, hV⟩ : ∃ V, hv 16 ds = V := ⟨_, rfl⟩
      rw [hV] at hph hVk
      have HV := Lib.hid hV
      have hbk : (16 : Nat) ^ k ≤ 16 ^ 16 := Nat.pow_le_pow_right (by decide) (by omega)
      have hbn : (16 : Nat) ^ 16 = 18446744073709551616 := by decide
      have hVl : V < 18446744073709551616 := by omega
      have hw1 : (wds V).length ≤ 1 := toD_length_le (by decide) 1 _ (by simpa using hVl)
      have HRD := Lib.hid hrd
      clear hke
      rcases hph with ⟨hkn, rfl, rfl, rfl⟩ | ⟨hkn, G, cap, r, rfl, rfl, rfl, hc1, hc2, hGs, hrow⟩
      · obtain ⟨t, ht⟩ : ∃ t, 16 - k = t := ⟨_, rfl⟩
        have hsub : (16 : Int) - k = (t : Int) := by omega
        have hsp : V * 16 ^ t < 18446744073709551616 := by
          have h3 : (16 : Nat) ^ k * 16 ^ t = 16 ^ 16 := by rw [← Nat.pow_add]; congr 1; omega
          have h4 : V * 16 ^ t < 16 ^ k * 16 ^ t := Nat.mul_lt_mul_of_pos_right hVk (Nat.pow_pos (by decide))
          omega
        have hpt : (16 : Nat) ^ t < 18446744073709551616 := by
          have h3 : (16 : Nat) ^ t < 16 ^ 16 := Nat.pow_lt_pow_right (by decide) (by omega)
          omega
        have hpw : (16 : Nat) ^ t % 18446744073709551616 = 16 ^ t := Nat.mod_eq_of_lt hpt
        have hdv : V * 16 ^ t / 2 ^ (t * 4) = V := by
          have h3 : (16 : Nat) ^ t = 2 ^ (t * 4) := by rw [Nat.mul_comm t, Nat.pow_mul]
          rw [h3]
          exact Nat.mul_div_cancel _ (Nat.pow_pos (by decide))
        have hpk := pow_walk 16 t wr (by decide) (by omega)
        rw [hpw] at hpk
        obtain ⟨P, hP⟩ : ∃ P, (16 : Nat) ^ t = P := ⟨_, rfl⟩
        rw [hP] at hpk hsp hdv
        obtain ⟨D, hD⟩ : ∃ D, V * P = D := ⟨_, rfl⟩
        rw [hD] at hsp hdv
        have hDi : (V : Int) * P = (D : Int) := by rw [← hD]; simp
        have hDl : (D : Int) ≤ 18446744073709551615 := by omega
        have hwr : IntKind.u64.wrap (D : Int) = D := by rw [IntKind.wrap_u64]; omega
        have hs1 : 1 ≤ (t * 4) := by omega
        have hs2 : (t * 4) < 64 := by omega
        have HSM : Hid ((t : Int) * 4 = ((t * 4 : Nat) : Int)) := Lib.hid (by omega)
        have HS12 := Lib.hid (And.intro hs1 hs2)
        have HPK := Lib.hid hpk
        have HDV := Lib.hid hdv
        have ht0 : (0 : Int) ≤ t := by omega
        have ht1 : (t : Int) ≤ 64 := by omega
        clear hpk hdv hP hD hpw hpt hV hbk hbn hVk hne htk ht hs1 hs2
        go_wp2_with fail
        refine HPK.out.mono ?_
        rintro e w3 ⟨rfl, h3⟩
        subst h3
        go_wp2_with (at_builtin; refine wpList_append_word rfl _ _ 87 rfl _ Tryz.underlying87 rfl ⟨wr.heap.size, 0, none⟩ 1 D rfl ?c1 ?_)
        case c1 => exact one_new wr (.int .u64 (D : Int)) 150 0 _ rfl
        intro w2 cap r hcap1 hcap2 hrow2 hb2
        have hbr2 : Below wr.heap.size wr w2 := (below_a1 wr (.cells #[.int .u64 (D : Int)] 150)).trans (hb2.mono (Nat.le_succ _))
        have hGs : w.heap.size ≤ wr.heap.size + 1 := by have := HX.out.size; omega
        have HX2 := Lib.hid (HX.out.then_below hbr2)
        have HR2 := Lib.hid (HRD.out.belowB hgr hbr2)
        have HE2 := Lib.hid (heof.belowB heof.lt hbr2)
        have heo2 : w2.cell? ⟨0, 0, none⟩ = some (.iface 113 (.pointer (some p))) := HE2.out
        obtain ⟨G, hG⟩ : ∃ G, wr.heap.size + 1 = G := ⟨_, rfl⟩
        rw [hG] at hrow2 hGs ⊢
        have hgne : G ≠ g := by have := hgr; omega
        have HROW := Lib.hid hrow2
        clear hrow2 hb2 hbr2 hG
        go_wp2_with fail
        refine (reverse1_walk _ _ _).mono ?_
        rintro e w4 ⟨rfl, rfl⟩
        go_wp2_with fail
        refine (norm_walk (some ⟨G, 0, none⟩) cap [D] _ (by simpa using hcap1) hcap2 (row1_rd HROW.out)).mono ?_
        rw [trim_row1 hsp]
        rintro e w5 ⟨rfl, rfl⟩
        go_wp2_with fail
        have hrs := rshB_walk w.heap.size G cap D (t * 4) r _ HROW.out hcap1 hcap2 hGs hsp HS12.out.1 HS12.out.2
        rw [HDV.out] at hrs
        rw [HSM.out]
        refine hrs.mono ?_
        rintro e w6 ⟨rfl, hrow6, hb6⟩
        have HROW6 := Lib.hid hrow6
        have HR6 := Lib.hid (HR2.out.belowB hgB hb6)
        have HE6 := Lib.hid (HE2.out.belowB hp.lt hb6)
        have HX6 := Lib.hid (HX2.out.belowB hb6)
        have hVi : (wds V).length ≤ cap := by omega
        obtain ⟨r2, hr2⟩ := wds_row1 hVl r
        have HR22 := Lib.hid hr2
        clear hrow6 hb6 hrs hr2
        go_wp2_with fail
        have hV := HV.out
        subst hV
        exact bodyPost_ret (v := .tuple #[.slice (some ⟨G, 0, none⟩) (wds (hv 16 ds)).length cap, .int .i64 16, .int .i64 (k : Int), .nilIface]) (by simp [results, Tryz.results190, go_sem]) rfl
          ⟨_, cap, _, rfl, ⟨hVi, hcap2, .inr ⟨G, [hv 16 ds] ++ r, r2, rfl, HROW6.out, HR22.out⟩, fun a ha => by cases ha; exact hGs⟩, HR6.out, HE6.out, HX6.out⟩
      · have hVi : (wds V).length ≤ cap := by omega
        obtain ⟨r2, hr2⟩ := wds_row1 hVl r
        have HROW := Lib.hid hrow
        clear hkn
        have hrd1 := row1_rd hrow
        clear hrow hne htk hbk hbn hVk hV
        go_wp2_with fail
        refine (reverse1_walk _ _ _).mono ?_
        rintro e w4 ⟨rfl, rfl⟩
        go_wp2_with fail
        refine (norm_walk (some ⟨G, 0, none⟩) cap [V] _ (by simpa using hc1) hc2 hrd1).mono ?_
        rw [trim_row1 hVl]
        rintro e w5 ⟨rfl, rfl⟩
        go_wp2_with fail
        have hV := HV.out
        subst hV
        exact bodyPost_ret (v := .tuple #[.slice (some ⟨G, 0, none⟩) (wds (hv 16 ds)).length cap, .int .i64 16, .int .i64 (k : Int), .nilIface]) (by simp [results, Tryz.results190, go_sem]) rfl
          ⟨_, cap, _, rfl, ⟨hVi, hc2, .inr ⟨G, [hv 16 ds] ++ r, r2, rfl, HROW.out, hr2⟩, fun a ha => by cases ha; exact hGs⟩, HRD.out, heof, HX.out⟩
end Go.Proofs.YthipbglnaalhmaaGreatDoor
