/-
  The reference's RelativePow.
-/
import Derived.Test.YtapfolgiafnllaaGreatDoorPowNumZ
import Derived.Test.YtapfolgiafnllaaGreatDoorSpecDoZ
import Derived.Deep.RegionWith
import Derived.Deep.LoopGhost
import Derived.Deep.DeepCutAuto
namespace Go.Proofs.YtapfolgiafnllaaGreatDoor
open Go.RowKit

set_option maxRecDepth 100000 in
set_option maxHeartbeats 16000000 in
theorem specPow_walk (v u t : Value) (x b : Int) (n : Nat) (w : World) (hv : IsNum w v x) (hu : IsNum w u (n : Int)) (ht : IsNum w t b) (ox : overU x = false) (on : overU (n : Int) = false) (ob : overU b = false) :
    Calls Tryz.prog 8 #[v, u, t] w (DoNum w (powRef x n b)) := by
  obtain ⟨s1, A1, l1, c1, rfl, hv⟩ := hv.parts
  obtain ⟨s2, A2, l2, c2, rfl, hu⟩ := hu.parts
  obtain ⟨s3, A3, l3, c3, rfl, ht⟩ := ht.parts
  have hm := spMem_start hv hu ht
  have o2 : overU 2 = false := by decide
  have px := overU_pos ox
  have pb := overU_pos ob
  have hbt := half_fits ob
  have hN2 := fitsN_of on
  have HOX := Lib.hid ox
  have HON := Lib.hid on
  have HOB := Lib.hid ob
  have HHF := Lib.hid hbt
  have HN2 := Lib.hid hN2
  have HZ : Hid (∀ (w' : World) (v : Value) (z : Int) (bb : Bool), IsNum w' v z → decide (z = 0) = bb → Calls Tryz.prog 23 #[v] w' fun e w2 => e = .returned (.bool bb) ∧ Below w'.heap.size w' w2) := Lib.hid fun w' v z bb h1 h2 => (zero_walk v z w' h1).mono (by rw [h2]; exact fun _ _ h => h)
  have HMUL : Hid (∀ (w' : World) (v u : Value) (p q : Int), IsNum w' v p → IsNum w' u q → overU p = false → overU q = false → Calls Tryz.prog 18 #[v, u] w' (IsPost w' (p * q))) := Lib.hid fun w' v u p q h1 h2 h3 h4 => mul_walk v u p q w' h1 h2 (Nat.le_succ_of_le (len_fit h3)) (Nat.le_succ_of_le (len_fit h4))
  have HADD : Hid (∀ (w' : World) (v u : Value) (p q : Int), IsNum w' v p → IsNum w' u q → overU p = false → overU q = false → Calls Tryz.prog 26 #[v, u] w' (IsPost w' (p + q))) := Lib.hid fun w' v u p q h1 h2 h3 h4 => add_walk v u p q w' h1 h2 (Nat.le_succ_of_le (len_fit h3)) (Nat.le_succ_of_le (len_fit h4))
  have HQR : Hid (∀ (w' : World) (v u : Value) (p q : Int), IsNum w' v p → IsNum w' u q → overU p = false → overU q = false → q ≠ 0 → Calls Tryz.prog 24 #[v, u] w' (Qr2Post w' p q)) := Lib.hid fun w' v u p q h1 h2 h3 h4 h5 => quoRem_walk v u p q w' h1 h2 h5 (Nat.le_succ_of_le (len_fit h3)) (len_fit h4)
  have HFIT : Hid (∀ (w' : World) (v : Value) (z : Int) (bb : Bool), IsNum w' v z → 0 ≤ z → (!overU z) = bb → Calls Tryz.prog 25 #[v] w' fun e w2 => e = .returned (.bool bb) ∧ Below w'.heap.size w' w2) := Lib.hid fun w' v z bb h1 h2 h3 => (fits_walk v z w' h1).mono (by rw [fit_over h2, h3]; exact fun _ _ h => h)
  have HO2 := Lib.hid o2
  obtain ⟨wa, hwa⟩ : ∃ wa, (((w.alloc (.cells #[.bool s1, .slice A1 l1 c1] 25)).alloc (.cells #[.bool s2, .slice A2 l2 c2] 25)).alloc (.cells #[.bool s3, .slice A3 l3 c3] 25)).alloc (.cells #[.bool false, .slice none 0 0] 25) = wa := ⟨_, rfl⟩
  rw [hwa] at hm
  have HM := Lib.hid hm
  have HWA := Lib.hid hwa
  clear hv hu ht ox on ob o2 hm hwa hN2 hbt
  by_cases hx0 : x = 0
  · have hzx : decide (x = 0) = true := decide_eq_true hx0
    have HZX := Lib.hid hzx
    clear hzx
    by_cases hn0 : n = 0
    · have hR : powRef x n b = some 1 := by unfold powRef; rw [if_pos hx0, if_pos hn0]
      have HZN := Lib.hid (show decide ((n : Int) = 0) = true from decide_eq_true (by omega))
      rw [hR]
      clear hR hx0 hn0
      go_enter Tryz.func8, Tryz.ntmps8
      go_upto_region 1 with fail
      rw [HWA.out]
      obtain ⟨sx, Ax, lx, qx, kx, iix⟩ := HM.out.x
      have cx0 := num_cell0 kx
      have cx1 := num_cell1 kx
      have IXx := Lib.hid iix
      clear kx iix
      go_wp2_with fail
      refine (HZ.out wa _ _ _ IXx.out HZX.out).mono ?_
      rintro e w1 ⟨rfl, hb1⟩
      have HM1 := Lib.hid (HM.out.grow hb1)
      clear hb1 cx0 cx1
      obtain ⟨sn, An, ln, qn, kn, iin⟩ := HM1.out.n
      have cn0 := num_cell0 kn
      have cn1 := num_cell1 kn
      have IXn := Lib.hid iin
      clear kn iin
      go_wp2_with fail
      refine (HZ.out w1 _ _ _ IXn.out HZN.out).mono ?_
      rintro e w2 ⟨rfl, hb2⟩
      have HM2 := Lib.hid (HM1.out.grow hb2)
      clear hb2 cn0 cn1
      go_wp2_with fail
      refine (of_walk 1 w2 (by decide)).mono ?_
      rintro e w3 ⟨v3, rfl, hv3, hb3⟩
      obtain ⟨s4, A4, l4, c4, rfl, hv3⟩ := hv3.parts
      have HM3 := Lib.hid (HM2.out.grow hb3)
      have HV3 := Lib.hid hv3
      clear hb3 hv3
      obtain ⟨sr, Ar, lr, qr, kr, ir⟩ := HM3.out.r
      have cr0 := num_cell0 kr
      have cr1 := num_cell1 kr
      have fr0 := one_free kr 0
      have fr1 := one_free kr 1
      have KR := Lib.hid kr
      clear kr ir
      go_wp2_with fail
      have kc := cells_set (cells_set KR.out 0 (.bool s4)) 1 (.slice A4 l4 c4)
      have d0 := num_cell0 kc
      have d1 := num_cell1 kc
      exact bodyPost_ret (v := .tuple #[.agg #[.bool s4, .slice A4 l4 c4], .bool true]) (by simp [results, Tryz.results8, go_sem, d0, d1]) rfl
        ⟨_, rfl, isNum_set2 KR.out (HV3.out), below_put2 HM3.out.below (by omega) _ _⟩
    · have hR : powRef x n b = some 0 := by unfold powRef; rw [if_pos hx0, if_neg hn0]
      have HZN := Lib.hid (show decide ((n : Int) = 0) = false from decide_eq_false (by omega))
      rw [hR]
      clear hR hx0 hn0
      go_enter Tryz.func8, Tryz.ntmps8
      go_upto_region 1 with fail
      rw [HWA.out]
      obtain ⟨sx, Ax, lx, qx, kx, iix⟩ := HM.out.x
      have cx0 := num_cell0 kx
      have cx1 := num_cell1 kx
      have IXx := Lib.hid iix
      clear kx iix
      go_wp2_with fail
      refine (HZ.out wa _ _ _ IXx.out HZX.out).mono ?_
      rintro e w1 ⟨rfl, hb1⟩
      have HM1 := Lib.hid (HM.out.grow hb1)
      clear hb1 cx0 cx1
      obtain ⟨sn, An, ln, qn, kn, iin⟩ := HM1.out.n
      have cn0 := num_cell0 kn
      have cn1 := num_cell1 kn
      have IXn := Lib.hid iin
      clear kn iin
      go_wp2_with fail
      refine (HZ.out w1 _ _ _ IXn.out HZN.out).mono ?_
      rintro e w2 ⟨rfl, hb2⟩
      have HM2 := Lib.hid (HM1.out.grow hb2)
      clear hb2 cn0 cn1
      obtain ⟨sr, Ar, lr, qr, kr, ir⟩ := HM2.out.r
      have cr0 := num_cell0 kr
      have cr1 := num_cell1 kr
      have fr0 := one_free kr 0
      have fr1 := one_free kr 1
      have KR := Lib.hid kr
      clear kr ir
      go_wp2_with fail
      have kc := cells_set (cells_set KR.out 0 (.bool false)) 1 (.slice none 0 0)
      have d0 := num_cell0 kc
      have d1 := num_cell1 kc
      exact bodyPost_ret (v := .tuple #[.agg #[.bool false, .slice none 0 0], .bool true]) (by simp [results, Tryz.results8, go_sem, d0, d1]) rfl
        ⟨_, rfl, isNum_set2 KR.out (isNum_nil w2), below_put2 HM2.out.below (by omega) _ _⟩
  · have HZX := Lib.hid (show decide (x = 0) = false from decide_eq_false hx0)
    have hR : powRef x n b = powR b (b.tdiv 2) (n / 2) x (if n % 2 = 0 then b else x) := by unfold powRef; rw [if_neg hx0]
    obtain ⟨R, hRR⟩ : ∃ R, powRef x n b = R := ⟨_, rfl⟩
    rw [hRR] at hR ⊢
    obtain ⟨od, hod⟩ : ∃ od, decide (((n % 2 : Nat) : Int) = 0) = od := ⟨_, rfl⟩
    obtain ⟨zz, hzz⟩ : ∃ zz, (if n % 2 = 0 then b else x) = zz := ⟨_, rfl⟩
    rw [hzz] at hR
    have HR := Lib.hid hR
    have HOD := Lib.hid hod
    have HZZ : Hid (((od = true) → zz = b) ∧ ((od = false) → zz = x)) := Lib.hid ⟨fun h => by rw [← hzz, if_pos (by have := of_decide_eq_true (hod.trans h); omega)], fun h => by rw [← hzz, if_neg (by have := of_decide_eq_false (hod.trans h); omega)]⟩
    have HOZ : Hid (overU zz = false) := Lib.hid (by rw [← hzz]; split; exact HOB.out; exact HOX.out)
    obtain ⟨hf, hhf⟩ : ∃ hf, b.tdiv 2 = hf := ⟨_, rfl⟩
    rw [hhf] at HR HHF
    have HHE := Lib.hid hhf
    have hf0 : 0 ≤ hf := by have := overU_pos HHF.out; omega
    clear hR hRR hod hzz hhf hx0
    go_enter Tryz.func8, Tryz.ntmps8
    go_upto_region 1 with fail
    rw [HWA.out]
    obtain ⟨sx, Ax, lx, qx, kx, iix⟩ := HM.out.x
    have cx0 := num_cell0 kx
    have cx1 := num_cell1 kx
    have IXx := Lib.hid iix
    clear kx iix
    go_wp2_with fail
    refine (HZ.out wa _ _ _ IXx.out HZX.out).mono ?_
    rintro e w1 ⟨rfl, hb1⟩
    have HM1 := Lib.hid (HM.out.grow hb1)
    clear hb1 cx0 cx1
    go_wp2_with fail
    refine (of_walk 2 w1 (by decide)).mono ?_
    rintro e w2 ⟨v2, rfl, hv2, hb2⟩
    obtain ⟨st, At, lt, qt, rfl, hv2⟩ := hv2.parts
    have HT3 := Lib.hid (NumB.new hv2)
    have HM3 := Lib.hid ((HM1.out.grow hb2).grow (below_a1 w2 (.cells #[.bool st, .slice At lt qt] 25)))
    have l8 : w.heap.size + 1 + 1 + 1 < w2.heap.size := (HM1.out.grow hb2).r.lt
    clear hv2 hb2
    go_upto_region 6 with fail
    obtain ⟨w3, hw3⟩ : ∃ w3, w2.alloc (.cells #[.bool st, .slice At lt qt] 25) = w3 := ⟨_, rfl⟩
    obtain ⟨b8, hb8⟩ : ∃ b8, w2.heap.size = b8 := ⟨_, rfl⟩
    rw [hw3] at HT3 HM3 ⊢
    rw [hb8] at HT3 l8 ⊢
    clear hw3 hb8
    obtain ⟨sb, Ab, lb, qb, kb, iib⟩ := HM3.out.b
    have cb0 := num_cell0 kb
    have cb1 := num_cell1 kb
    have IXb := Lib.hid iib
    clear kb iib
    obtain ⟨st, At, lt, qt, kt, iit⟩ := HT3.out
    have ct0 := num_cell0 kt
    have ct1 := num_cell1 kt
    have IXt := Lib.hid iit
    clear kt iit
    go_wp2_with fail
    refine (HQR.out w3 _ _ _ _ IXb.out IXt.out HOB.out HO2.out (by decide)).mono ?_
    rintro e w4 ⟨v4, u4, rfl, hv4, hu4, hb4⟩
    rw [HHE.out] at hv4
    obtain ⟨sh, Ah, lh, qh, rfl, hv4⟩ := hv4.parts
    obtain ⟨su, Au, lu, qu, rfl, hu4⟩ := hu4.parts
    have b5 := below_a2 w4 (.cells #[.bool sh, .slice Ah lh qh] 25) (.cells #[.bool su, .slice Au lu qu] 25)
    have HH5 := Lib.hid ((NumB.new hv4).below (below_a1 _ (.cells #[.bool su, .slice Au lu qu] 25)))
    have HM5 := Lib.hid ((HM3.out.grow hb4).grow b5)
    have HT5 := Lib.hid ((HT3.out.below hb4).below b5)
    have l9 : b8 < w4.heap.size := (HT3.out.below hb4).lt
    clear hv4 hu4 hb4 b5 cb0 cb1 ct0 ct1
    go_upto_region 7 with fail
    obtain ⟨w5, hw5⟩ : ∃ w5, (w4.alloc (.cells #[.bool sh, .slice Ah lh qh] 25)).alloc (.cells #[.bool su, .slice Au lu qu] 25) = w5 := ⟨_, rfl⟩
    obtain ⟨b9, hb9⟩ : ∃ b9, w4.heap.size = b9 := ⟨_, rfl⟩
    rw [hw5] at HH5 HM5 HT5 ⊢
    rw [hb9] at HH5 l9 ⊢
    clear hw5 hb9
    obtain ⟨sx, Ax, lx, qx, kx, ix⟩ := HM5.out.x
    have cx0 := num_cell0 kx
    have cx1 := num_cell1 kx
    have HZ6 := Lib.hid (NumB.new ix)
    have b6 := below_a1 w5 (.cells #[.bool sx, .slice Ax lx qx] 25)
    have HM6 := Lib.hid (HM5.out.grow b6)
    have HT6 := Lib.hid (HT5.out.below b6)
    have HH6 := Lib.hid (HH5.out.below b6)
    have l11 : b9 < w5.heap.size := HH5.out.lt
    clear kx ix b6
    go_upto_region 8 with fail
    obtain ⟨w6, hw6⟩ : ∃ w6, w5.alloc (.cells #[.bool sx, .slice Ax lx qx] 25) = w6 := ⟨_, rfl⟩
    obtain ⟨b11, hb11⟩ : ∃ b11, w5.heap.size = b11 := ⟨_, rfl⟩
    rw [hw6] at HZ6 HM6 HT6 HH6 ⊢
    rw [hb11] at HZ6 l11 ⊢
    clear hw6 hb11 cx0 cx1
    obtain ⟨sn, An, ln, qn, kn, iin⟩ := HM6.out.n
    have cn0 := num_cell0 kn
    have cn1 := num_cell1 kn
    have IXn := Lib.hid iin
    clear kn iin
    obtain ⟨st, At, lt, qt, kt, iit⟩ := HT6.out
    have ct0 := num_cell0 kt
    have ct1 := num_cell1 kt
    have IXt := Lib.hid iit
    clear kt iit
    go_wp2_with fail
    refine (HQR.out w6 _ _ _ _ IXn.out IXt.out HON.out HO2.out (by decide)).mono ?_
    rintro e w7 ⟨v7, u7, rfl, hv7, hu7, hb7⟩
    rw [tdiv_two] at hv7
    rw [tmod_two] at hu7
    obtain ⟨sn, An, ln, qn, rfl, hv7⟩ := hv7.parts
    obtain ⟨so, Ao, lo, qo, rfl, hu7⟩ := hu7.parts
    have m7 := HM6.out.grow hb7
    have p7 : SpAt w x (n : Int) b x hf b8 b9 b11 w7 := ⟨m7, HT6.out.below hb7, HH6.out.below hb7, HZ6.out.below hb7, l8, l9, l11⟩
    have pa := p7.grow (below_a1 w7 (.cells #[.bool false, .slice none 0 0] 25))
    have ya : NumB (w7.alloc (.cells #[.bool false, .slice none 0 0] 25)) w7.heap.size 0 := ⟨false, none, 0, 0, heap_here _ _, isNum_nil _⟩
    have hl12 : b11 < w7.heap.size := p7.z.lt
    have hn12 : w7.heap.size ≠ w.heap.size + 1 := by omega
    have pb := pa.setN (hv7.below (below_a1 w7 (.cells #[.bool false, .slice none 0 0] 25)))
    have yb := ya.other pa.mem.n hn12 (.bool sn) (.slice An ln qn)
    have ub : IsNum (((w7.alloc (.cells #[.bool false, .slice none 0 0] 25)).setCell ⟨w.heap.size + 1, 0, none⟩ (.bool sn)).setCell ⟨w.heap.size + 1, 1, none⟩ (.slice An ln qn)) (.agg #[.bool so, .slice Ao lo qo]) ((n % 2 : Nat) : Int) := by
      obtain ⟨_, _, _, _, k0, _⟩ := pa.mem.n
      exact isNum_set2 k0 (hu7.below (below_a1 w7 (.cells #[.bool false, .slice none 0 0] 25)))
    have pc := pb.later yb hl12 (.bool so) (.slice Ao lo qo)
    have yc := yb.put ub
    have HPC := Lib.hid pc
    have HYC := Lib.hid yc
    obtain ⟨sm, Am, lm, qm, km, _⟩ := pa.mem.n
    have cm0 := num_cell0 km
    have cm1 := num_cell1 km
    have fm0 := one_free km 0
    have fm1 := one_free km 1
    obtain ⟨sy, Ay, ly, qy, ky, _⟩ := yb
    have cy0 := num_cell0 ky
    have cy1 := num_cell1 ky
    have fy0 := one_free ky 0
    have fy1 := one_free ky 1
    clear hv7 hu7 hb7 m7 p7 pa ya pb ub pc yc km ky
    go_upto_region 9 with fail
    obtain ⟨w8, hw8⟩ : ∃ w8, ((((w7.alloc (.cells #[.bool false, .slice none 0 0] 25)).setCell ⟨w.heap.size + 1, 0, none⟩ (.bool sn)).setCell ⟨w.heap.size + 1, 1, none⟩ (.slice An ln qn)).setCell ⟨w7.heap.size, 0, none⟩ (.bool so)).setCell ⟨w7.heap.size, 1, none⟩ (.slice Ao lo qo) = w8 := ⟨_, rfl⟩
    obtain ⟨b12, hb12⟩ : ∃ b12, w7.heap.size = b12 := ⟨_, rfl⟩
    rw [hw8] at HPC HYC ⊢
    rw [hb12] at HYC ⊢
    clear hw8 hb12 cm0 cm1 fm0 fm1 cy0 cy1 fy0 fy1 hl12 hn12 cn0 cn1 ct0 ct1
    obtain ⟨so2, Ao2, lo2, qo2, ko2, iio2⟩ := HYC.out
    have co20 := num_cell0 ko2
    have co21 := num_cell1 ko2
    have IXo2 := Lib.hid iio2
    clear ko2 iio2
    go_wp2_with fail
    refine (HZ.out w8 _ _ od IXo2.out HOD.out).mono ?_
    rintro e w9 ⟨rfl, hb9⟩
    have HP9 := Lib.hid (HPC.out.grow hb9)
    clear hb9 co20 co21
    go_upto_if 38 with fail
    go_cut [39] (fun _ wx => SpAt w x ((n / 2 : Nat) : Int) b zz hf b8 b9 b11 wx)
    case first =>
      cases od
      · go_wp2_with fail
        go_meet
        rw [HZZ.out.2 (by first | rfl | trivial)]
        exact HP9.out
      · skip
        obtain ⟨sb, Ab, lb, qb, kb, iib⟩ := HP9.out.mem.b
        have cb0 := num_cell0 kb
        have cb1 := num_cell1 kb
        have IXb := Lib.hid iib
        clear kb iib
        obtain ⟨sz, Az, lz, qz, kz, iiz⟩ := HP9.out.z
        have cz0 := num_cell0 kz
        have cz1 := num_cell1 kz
        have fz0 := one_free kz 0
        have fz1 := one_free kz 1
        clear kz iiz
        go_wp2_with fail
        go_meet
        rw [HZZ.out.1 (by first | rfl | trivial)]
        exact HP9.out.setZ IXb.out
    case rest =>
      have HCUT := Lib.hid hcut
      clear hcut HP9
      go_wp2_with fail
      go_loopg [13] (n / 2) (fun k _ wr => SpLoop w b hf b8 b9 b11 R k wr)
      case atStart => exact ⟨x, zz, HCUT.out, HOX.out, HOZ.out, by have := HN2.out; omega, HR.out.symm⟩
      case round =>
        obtain ⟨x1, z1, hat, ox1, oz1, hNl, hpr⟩ := hrel
        obtain ⟨N, rfl⟩ : ∃ N, N = gk := ⟨gk, rfl⟩
        have HAT := Lib.hid hat
        have HX1 := Lib.hid ox1
        have HZ1 := Lib.hid oz1
        have HNL := Lib.hid hNl
        have HPR := Lib.hid hpr
        clear hat ox1 oz1 hNl hpr HCUT
        by_cases hN0 : N = 0
        · have HR1 : Hid (R = some z1) := Lib.hid (by rw [← HPR.out, hN0]; exact powR_zero _ _ _ _)
          have HZN := Lib.hid (show decide ((N : Int) = 0) = true from decide_eq_true (by omega))
          clear hN0
          obtain ⟨sn, An, ln, qn, kn, iin⟩ := HAT.out.mem.n
          have cn0 := num_cell0 kn
          have cn1 := num_cell1 kn
          have IXn := Lib.hid iin
          clear kn iin
          go_wp2_with fail
          refine (HZ.out _ _ _ true IXn.out HZN.out).mono ?_
          rintro e w10 ⟨rfl, hb10⟩
          have HAT1 := Lib.hid (HAT.out.grow hb10)
          clear hb10 cn0 cn1
          obtain ⟨sz, Az, lz, qz, kz, iiz⟩ := HAT1.out.z
          have cz0 := num_cell0 kz
          have cz1 := num_cell1 kz
          have IXz := Lib.hid iiz
          clear kz iiz
          obtain ⟨sr, Ar, lr, qr, kr, ir⟩ := HAT1.out.mem.r
          have cr0 := num_cell0 kr
          have cr1 := num_cell1 kr
          have fr0 := one_free kr 0
          have fr1 := one_free kr 1
          have KR := Lib.hid kr
          clear kr ir
          go_wp2_with fail
          have kc := cells_set (cells_set KR.out 0 (.bool sz)) 1 (.slice Az lz qz)
          have d0 := num_cell0 kc
          have d1 := num_cell1 kc
          exact bodyPost_ret (v := .tuple #[.agg #[.bool sz, .slice Az lz qz], .bool true]) (by simp [results, Tryz.results8, go_sem, d0, d1]) rfl
            (by rw [HR1.out]; exact ⟨_, rfl, isNum_set2 KR.out IXz.out, below_put2 HAT1.out.mem.below (by omega) _ _⟩)
        · have HZN := Lib.hid (show decide ((N : Int) = 0) = false from decide_eq_false (by omega))
          have HN0 := Lib.hid hN0
          clear hN0
          obtain ⟨sn, An, ln, qn, kn, iin⟩ := HAT.out.mem.n
          have cn0 := num_cell0 kn
          have cn1 := num_cell1 kn
          have IXn := Lib.hid iin
          clear kn iin
          go_wp2_with fail
          refine (HZ.out _ _ _ false IXn.out HZN.out).mono ?_
          rintro e w10 ⟨rfl, hb10⟩
          have HAT1 := Lib.hid (HAT.out.grow hb10)
          clear hb10 cn0 cn1 HAT
          go_wp2_with fail
          go_loopg [13] 2 (fun k kv wr => SpIn w b hf b8 b9 b11 R N k kv wr)
          case atStart => exact ⟨x1, z1, HAT1.out, HX1.out, HZ1.out, .inl ⟨rfl, rfl, HPR.out⟩⟩
          case round =>
            obtain ⟨x2, z2, hat, ox2, oz2, hcase⟩ := hrel
            have HAT := Lib.hid hat
            have HX2 := Lib.hid ox2
            have HZ2 := Lib.hid oz2
            clear hat ox2 oz2 HAT1 HX1 HZ1 HPR
            rcases hcase with ⟨rfl, rfl, hpr⟩ | ⟨rfl, rfl, hodd, hpr⟩ | ⟨rfl, rfl, hpr⟩
            · have HPR := Lib.hid hpr
              clear hpr
              have hp0 : 0 ≤ x2 * x2 := Int.mul_nonneg (by have := overU_pos HX2.out; omega) (by have := overU_pos HX2.out; omega)
              have HRN : Hid (mulDiv b hf x2 x2 = none → R = none) := Lib.hid (fun h => by have h2 := HPR.out; rw [powR_none HN0.out h] at h2; exact h2.symm)
              obtain ⟨pp, hpp⟩ : ∃ pp, x2 * x2 = pp := ⟨_, rfl⟩
              have HPP := Lib.hid hpp
              rw [hpp] at hp0
              clear hpp
              obtain ⟨sx, Ax, lx, qx, kx, iix⟩ := HAT.out.mem.x
              have cx0 := fun o => num_cell0 (heap_old (o := o) kx)
              have cx1 := fun o => num_cell1 (heap_old (o := o) kx)
              have IXx := Lib.hid iix
              clear kx iix
              go_wp2_with fail
              refine (HMUL.out _ _ _ x2 x2 (IXx.out.below (below_a1 _ _)) (IXx.out.below (below_a1 _ _)) HX2.out HX2.out).mono ?_
              rw [HPP.out]
              rintro e w11 ⟨v11, rfl, hv11, hb11⟩
              obtain ⟨sp, Ap, lp, qp, rfl, hv11⟩ := hv11.parts
              have k14 := (hb11.block wr.heap.size (by rw [heap_size_alloc]; omega)).trans (heap_here wr (.cells #[.bool false, .slice none 0 0] 25))
              have b11' := bt (below_a1 wr (.cells #[.bool false, .slice none 0 0] 25)) hb11
              have y11 : NumB w11 wr.heap.size 0 := ⟨false, none, 0, 0, k14, isNum_nil _⟩
              have HY12 := Lib.hid (y11.put hv11)
              have HAT12 := Lib.hid (HAT.out.grow (below_put2 b11' (Nat.le_refl _) (.bool sp) (.slice Ap lp qp)))
              have c14 := num_cell0 k14
              have c14' := num_cell1 k14
              have f14 := one_free k14 0
              have f14' := one_free k14 1
              have l14 : b11 < wr.heap.size := HAT.out.z.lt
              clear hv11 hb11 k14 b11' y11 cx0 cx1  HAT
              go_upto_region 19 with fail
              obtain ⟨w12, hw12⟩ : ∃ w12, (w11.setCell ⟨wr.heap.size, 0, none⟩ (.bool sp)).setCell ⟨wr.heap.size, 1, none⟩ (.slice Ap lp qp) = w12 := ⟨_, rfl⟩
              obtain ⟨b14, hb14⟩ : ∃ b14, wr.heap.size = b14 := ⟨_, rfl⟩
              rw [hw12] at HY12 HAT12 ⊢
              rw [hb14] at HY12 l14 ⊢
              clear hw12 hb14 c14 c14' f14 f14'
              obtain ⟨sy, Ay, ly, qy, ky, iiy⟩ := HY12.out
              have cy0 := num_cell0 ky
              have cy1 := num_cell1 ky
              have IXy := Lib.hid iiy
              clear ky iiy
              go_wp2_with fail
              cases ho1 : overU pp with
              | true =>
                have HRR := Lib.hid (HRN.out (mulDiv_n1 (by rw [HPP.out]; exact ho1)))
                have HO1 := Lib.hid ho1
                clear ho1
                refine (HFIT.out _ _ pp false IXy.out hp0 (by rw [HO1.out]; rfl)).mono ?_
                rintro e w13 ⟨rfl, hb13⟩
                have HAT13 := Lib.hid (HAT12.out.grow hb13)
                clear hb13 cy0 cy1
                obtain ⟨sr, Ar, lr, qr, kr, ir⟩ := HAT13.out.mem.r
                have cr0 := num_cell0 kr
                have cr1 := num_cell1 kr
                have fr0 := one_free kr 0
                have fr1 := one_free kr 1
                have KR := Lib.hid kr
                clear kr ir
                go_wp2_with fail
                have kc := cells_set (cells_set KR.out 0 (.bool false)) 1 (.slice none 0 0)
                have d0 := num_cell0 kc
                have d1 := num_cell1 kc
                exact bodyPost_ret (v := .tuple #[.agg #[.bool false, .slice none 0 0], .bool false]) (by simp [results, Tryz.results8, go_sem, d0, d1]) rfl
                  (by rw [HRR.out]; exact ⟨_, rfl, isNum_set2 KR.out (isNum_nil _), below_put2 HAT13.out.mem.below (by omega) _ _⟩)
              | false =>
                have HO1 := Lib.hid ho1
                clear ho1
                refine (HFIT.out _ _ pp true IXy.out hp0 (by rw [HO1.out]; rfl)).mono ?_
                rintro e w13 ⟨rfl, hb13⟩
                have HAT13 := Lib.hid (HAT12.out.grow hb13)
                have HY13 := Lib.hid (HY12.out.below hb13)
                clear hb13 cy0 cy1 HAT12 HY12
                obtain ⟨sy, Ay, ly, qy, ky, iiy⟩ := HY13.out
                have cy0 := num_cell0 ky
                have cy1 := num_cell1 ky
                have IXy := Lib.hid iiy
                clear ky iiy
                obtain ⟨sh, Ah, lh, qh, kh, iih⟩ := HAT13.out.h
                have ch0 := num_cell0 kh
                have ch1 := num_cell1 kh
                have IXh := Lib.hid iih
                clear kh iih
                go_wp2_with fail
                refine (HADD.out _ _ _ pp hf IXy.out IXh.out HO1.out HHF.out).mono ?_
                rintro e w14 ⟨v14, rfl, hv14, hb14⟩
                obtain ⟨ss, As, ls, qs, rfl, hv14⟩ := hv14.parts
                have HAT14 := Lib.hid (HAT13.out.grow hb14)
                have HY14 := Lib.hid (HY13.out.below hb14)
                have HV14 := Lib.hid hv14
                have hs0 : 0 ≤ pp + hf := Int.add_nonneg hp0 hf0
                clear hb14 hv14 cy0 cy1 ch0 ch1 HAT13 HY13
                go_wp2_with fail
                cases ho2 : overU (pp + hf) with
                | true =>
                  have HRR := Lib.hid (HRN.out (mulDiv_n2 (by rw [HPP.out]; exact HO1.out) (by rw [HPP.out]; exact ho2)))
                  have HO2' := Lib.hid ho2
                  clear ho2
                  refine (HFIT.out _ _ (pp + hf) false HV14.out hs0 (by rw [HO2'.out]; rfl)).mono ?_
                  rintro e w15 ⟨rfl, hb15⟩
                  have HAT15 := Lib.hid (HAT14.out.grow hb15)
                  clear hb15
                  obtain ⟨sr, Ar, lr, qr, kr, ir⟩ := HAT15.out.mem.r
                  have cr0 := num_cell0 kr
                  have cr1 := num_cell1 kr
                  have fr0 := one_free kr 0
                  have fr1 := one_free kr 1
                  have KR := Lib.hid kr
                  clear kr ir
                  go_wp2_with fail
                  have kc := cells_set (cells_set KR.out 0 (.bool false)) 1 (.slice none 0 0)
                  have d0 := num_cell0 kc
                  have d1 := num_cell1 kc
                  exact bodyPost_ret (v := .tuple #[.agg #[.bool false, .slice none 0 0], .bool false]) (by simp [results, Tryz.results8, go_sem, d0, d1]) rfl
                    (by rw [HRR.out]; exact ⟨_, rfl, isNum_set2 KR.out (isNum_nil _), below_put2 HAT15.out.mem.below (by omega) _ _⟩)
                | false =>
                  have HO2' := Lib.hid ho2
                  clear ho2
                  refine (HFIT.out _ _ (pp + hf) true HV14.out hs0 (by rw [HO2'.out]; rfl)).mono ?_
                  rintro e w15 ⟨rfl, hb15⟩
                  have HAT15 := Lib.hid (HAT14.out.grow hb15)
                  have HY15 := Lib.hid (HY14.out.below hb15)
                  clear hb15 HAT14 HY14
                  obtain ⟨sb, Ab, lb, qb, kb, iib⟩ := HAT15.out.mem.b
                  have cb0 := num_cell0 kb
                  have cb1 := num_cell1 kb
                  have IXb := Lib.hid iib
                  clear kb iib
                  go_wp2_with fail
                  by_cases hb0 : b = 0
                  · have HRR := Lib.hid (HRN.out (by rw [hb0]; exact mulDiv_n3 (by rw [HPP.out]; exact HO1.out) (by rw [HPP.out]; exact HO2'.out)))
                    have HB0 := Lib.hid (show decide (b = 0) = true from decide_eq_true hb0)
                    clear hb0
                    refine (HZ.out _ _ b true IXb.out HB0.out).mono ?_
                    rintro e w16 ⟨rfl, hb16⟩
                    have HAT16 := Lib.hid (HAT15.out.grow hb16)
                    clear hb16 cb0 cb1
                    obtain ⟨sr, Ar, lr, qr, kr, ir⟩ := HAT16.out.mem.r
                    have cr0 := num_cell0 kr
                    have cr1 := num_cell1 kr
                    have fr0 := one_free kr 0
                    have fr1 := one_free kr 1
                    have KR := Lib.hid kr
                    clear kr ir
                    go_wp2_with fail
                    have kc := cells_set (cells_set KR.out 0 (.bool false)) 1 (.slice none 0 0)
                    have d0 := num_cell0 kc
                    have d1 := num_cell1 kc
                    exact bodyPost_ret (v := .tuple #[.agg #[.bool false, .slice none 0 0], .bool false]) (by simp [results, Tryz.results8, go_sem, d0, d1]) rfl
                      (by rw [HRR.out]; exact ⟨_, rfl, isNum_set2 KR.out (isNum_nil _), below_put2 HAT16.out.mem.below (by omega) _ _⟩)
                  · have HB0 := Lib.hid (show decide (b = 0) = false from decide_eq_false hb0)
                    have HBN := Lib.hid hb0
                    clear hb0
                    refine (HZ.out _ _ b false IXb.out HB0.out).mono ?_
                    rintro e w16 ⟨rfl, hb16⟩
                    have HAT16 := Lib.hid (HAT15.out.grow hb16)
                    have HY16 := Lib.hid (HY15.out.below hb16)
                    clear hb16 cb0 cb1 HAT15 HY15
                    have HMD := Lib.hid (mulDiv_s (b := b) (h := hf) (x := x2) (y := x2) (by rw [HPP.out]; exact HO1.out) (by rw [HPP.out]; exact HO2'.out) HBN.out)
                    obtain ⟨qq, hqq⟩ : ∃ qq, (x2 * x2 + hf).tdiv b = qq := ⟨_, rfl⟩
                    have HQQ : Hid ((pp + hf).tdiv b = qq) := Lib.hid (by rw [← hqq, HPP.out])
                    rw [hqq] at HMD
                    have HOQ : Hid (overU qq = false) := Lib.hid (mulDiv_fits (by have := overU_pos HOB.out; omega) hf0 (by have := overU_pos HX2.out; omega) (by have := overU_pos HX2.out; omega) HMD.out).1
                    clear hqq
                    go_upto_region 21 with fail
                    go_cut [76] (fun _ wx => ∃ W, W = wx ∧ SpY w x2 (N : Int) b z2 hf b8 b9 b11 b14 qq W)
                    case first =>
                      obtain ⟨sy, Ay, ly, qy, ky, iiy⟩ := HY16.out
                      have cy0 := num_cell0 ky
                      have cy1 := num_cell1 ky
                      have IXy := Lib.hid iiy
                      clear ky iiy
                      obtain ⟨sh, Ah, lh, qh, kh, iih⟩ := HAT16.out.h
                      have ch0 := num_cell0 kh
                      have ch1 := num_cell1 kh
                      have IXh := Lib.hid iih
                      clear kh iih
                      obtain ⟨sb, Ab, lb, qb, kb, iib⟩ := HAT16.out.mem.b
                      have cb0 := num_cell0 kb
                      have cb1 := num_cell1 kb
                      have IXb := Lib.hid iib
                      clear kb iib
                      have B0 := Lib.hid (Below.refl w16.heap.size w16).drew
                      go_region_with (first
                        | (go_at_call 26; (with_reducible refine (HADD.out _ _ _ pp hf (IXy.out.below B0.out) (IXh.out.below B0.out) HO1.out HHF.out).mono ?_); rintro e w17 ⟨v17, rfl, hv17, hgr⟩; obtain ⟨sa, Aa, la, qa, rfl, hv17⟩ := hv17.parts; have HV17 := Lib.hid hv17; have B17 := Lib.hid (bt B0.out hgr); have cb0' := (B17.out.cell (by exact World.block_lt_of_cell? w16 _ cb0)).trans cb0; have cb1' := (B17.out.cell (by exact World.block_lt_of_cell? w16 _ cb1)).trans cb1; clear hv17 hgr)
                        | (go_at_call 24; (with_reducible refine (HQR.out _ _ _ (pp + hf) b HV17.out (IXb.out.below B17.out) HO2'.out HOB.out HBN.out).mono ?_); rintro e w18 ⟨v18, u18, rfl, hv18, hu18, hb18⟩; rw [HQQ.out] at hv18; obtain ⟨sq, Aq, lq, cq, rfl, hv18⟩ := hv18.parts; obtain ⟨su, Au, lu, cu, rfl, _⟩ := hu18.parts; have HV18 := Lib.hid hv18; have B18 := Lib.hid (bt B17.out hb18); obtain ⟨s14, A14, m14, q14, k14, _⟩ := HY16.out.below B18.out; have c14 := num_cell0 k14; have c14' := num_cell1 k14; have f14 := one_free k14 0; have f14' := one_free k14 1; clear hv18 hu18 hb18 k14))
                      all_goals
                        go_wp2_with fail
                        go_meet
                        exact ⟨_, rfl, (HAT16.out.grow B18.out).later (HY16.out.below B18.out) l14 _ _, (HY16.out.below B18.out).put HV18.out⟩
                    case rest =>
                      obtain ⟨w17, hw17, hat17, hy17⟩ := hcut
                      subst hw17
                      have HAT17 := Lib.hid hat17
                      have HY17 := Lib.hid hy17
                      clear hat17 hy17 HAT16 HY16
                      obtain ⟨sy, Ay, ly, qy, ky, iiy⟩ := HY17.out
                      have cy0 := num_cell0 ky
                      have cy1 := num_cell1 ky
                      have IXy := Lib.hid iiy
                      clear ky iiy
                      obtain ⟨sd, Ad, ld, qd, kd, iid⟩ := HAT17.out.mem.x
                      have cd0 := num_cell0 kd
                      have cd1 := num_cell1 kd
                      have fd0 := one_free kd 0
                      have fd1 := one_free kd 1
                      clear kd iid
                      have HAT18 := Lib.hid (HAT17.out.setX IXy.out)
                      go_upto_region 24 with fail
                      obtain ⟨w18, hw18⟩ : ∃ w18, (w17.setCell ⟨w.heap.size, 0, none⟩ (.bool sy)).setCell ⟨w.heap.size, 1, none⟩ (.slice Ay ly qy) = w18 := ⟨_, rfl⟩
                      rw [hw18] at HAT18 ⊢
                      clear hw18 cy0 cy1 cd0 cd1 fd0 fd1 HAT17 HY17
                      obtain ⟨sn, An, ln, qn, kn, iin⟩ := HAT18.out.mem.n
                      have cn0 := num_cell0 kn
                      have cn1 := num_cell1 kn
                      have IXn := Lib.hid iin
                      clear kn iin
                      obtain ⟨st, At, lt, qt, kt, iit⟩ := HAT18.out.t
                      have ct0 := num_cell0 kt
                      have ct1 := num_cell1 kt
                      have IXt := Lib.hid iit
                      clear kt iit
                      go_wp2_with fail
                      refine (HQR.out _ _ _ (N : Int) 2 IXn.out IXt.out (fitsN HNL.out) HO2.out (by decide)).mono ?_
                      rintro e w19 ⟨v19, u19, rfl, hv19, hu19, hb19⟩
                      rw [tmod_two] at hu19
                      obtain ⟨sv, Av, lv, qv, rfl, hv19⟩ := hv19.parts
                      obtain ⟨sw, Aw, lw, qw, rfl, hu19⟩ := hu19.parts
                      have B20 := below_a2 w19 (.cells #[.bool sv, .slice Av lv qv] 25) (.cells #[.bool sw, .slice Aw lw qw] 25)
                      have HAT20 := Lib.hid ((HAT18.out.grow hb19).grow B20)
                      have HU20 := Lib.hid (hu19.below B20)
                      have k16 : ((w19.alloc (.cells #[.bool sv, .slice Av lv qv] 25)).alloc (.cells #[.bool sw, .slice Aw lw qw] 25)).heap[w19.heap.size + 1]? = some (.cells #[.bool sw, .slice Aw lw qw] 25 (0, 0)) := heap_at _ _ (heap_size_alloc _ _)
                      have c160 := num_cell0 k16
                      have c161 := num_cell1 k16
                      clear hb19 hv19 hu19 B20 k16 cn0 cn1 ct0 ct1 HAT18
                      go_upto_region 25 with fail
                      obtain ⟨w20, hw20⟩ : ∃ w20, (w19.alloc (.cells #[.bool sv, .slice Av lv qv] 25)).alloc (.cells #[.bool sw, .slice Aw lw qw] 25) = w20 := ⟨_, rfl⟩
                      rw [hw20] at HAT20 HU20 c160 c161 ⊢
                      clear hw20
                      go_wp2_with fail
                      by_cases hev : N % 2 = 1
                      · have HEV := Lib.hid hev
                        have HZO := Lib.hid (show decide (((N % 2 : Nat) : Int) = 0) = false from decide_eq_false (by omega))
                        clear hev
                        refine (HZ.out _ _ _ false HU20.out HZO.out).mono ?_
                        rintro e w21 ⟨rfl, hb21⟩
                        have HAT21 := Lib.hid (HAT20.out.grow hb21)
                        clear hb21 c160 c161 HAT20
                        go_wp2_with fail
                        go_roundg 1
                        case measure => decide
                        case rel => exact ⟨qq, z2, HAT21.out, HOQ.out, HZ2.out, .inr (.inl ⟨rfl, rfl, HEV.out, (powR_oddM HN0.out HMD.out HEV.out).symm.trans HPR.out⟩)⟩
                      · have HEV := Lib.hid hev
                        have HZO := Lib.hid (show decide (((N % 2 : Nat) : Int) = 0) = true from decide_eq_true (by omega))
                        clear hev
                        refine (HZ.out _ _ _ true HU20.out HZO.out).mono ?_
                        rintro e w21 ⟨rfl, hb21⟩
                        have HAT21 := Lib.hid (HAT20.out.grow hb21)
                        have HPR2 := Lib.hid ((powR_even (z := z2) HN0.out HMD.out HEV.out).symm.trans HPR.out)
                        clear hb21 c160 c161 HAT20
                        obtain ⟨sn, An, ln, qn, kn, iin⟩ := HAT21.out.mem.n
                        have cn0 := num_cell0 kn
                        have cn1 := num_cell1 kn
                        have IXn := Lib.hid iin
                        clear kn iin
                        obtain ⟨st, At, lt, qt, kt, iit⟩ := HAT21.out.t
                        have ct0 := num_cell0 kt
                        have ct1 := num_cell1 kt
                        have IXt := Lib.hid iit
                        clear kt iit
                        go_wp2_with fail
                        refine (HQR.out _ _ _ (N : Int) 2 IXn.out IXt.out (fitsN HNL.out) HO2.out (by decide)).mono ?_
                        rintro e w20 ⟨v20, u20, rfl, hv20, hu20, hb20⟩
                        rw [tdiv_two] at hv20
                        obtain ⟨sv, Av, lv, qv, rfl, hv20⟩ := hv20.parts
                        obtain ⟨sw, Aw, lw, qw, rfl, hu20⟩ := hu20.parts
                        have HAT20 := Lib.hid (HAT21.out.grow hb20)
                        have HV20 := Lib.hid hv20
                        clear hb20 hv20 hu20 cn0 cn1 ct0 ct1
                        obtain ⟨sn, An, ln, qn, kn, iin⟩ := HAT20.out.mem.n
                        have cn0 := num_cell0 kn
                        have cn1 := num_cell1 kn
                        have fn0 := one_free kn 0
                        have fn1 := one_free kn 1
                        clear kn iin
                        go_wp2_with fail
                        go_roundg (N / 2)
                        case measure => exact Nat.div_lt_self (Nat.pos_of_ne_zero HN0.out) (by decide)
                        case rel => exact ⟨qq, z2, HAT20.out.setN HV20.out, HOQ.out, HZ2.out, by have := HNL.out; omega, HPR2.out⟩
            · have HPR := Lib.hid hpr
              clear hpr
              have HODD := Lib.hid hodd
              clear hodd
              have hp0 : 0 ≤ z2 * x2 := Int.mul_nonneg (by have := overU_pos HZ2.out; omega) (by have := overU_pos HX2.out; omega)
              have HRN : Hid (mulDiv b hf z2 x2 = none → R = none) := Lib.hid (fun h => by have h2 := HPR.out; rw [powR1_none h] at h2; exact h2.symm)
              obtain ⟨pp, hpp⟩ : ∃ pp, z2 * x2 = pp := ⟨_, rfl⟩
              have HPP := Lib.hid hpp
              rw [hpp] at hp0
              clear hpp
              obtain ⟨sx, Ax, lx, qx, kx, iix⟩ := HAT.out.mem.x
              have cx0 := fun o => num_cell0 (heap_old (o := o) kx)
              have cx1 := fun o => num_cell1 (heap_old (o := o) kx)
              have IXx := Lib.hid iix
              clear kx iix
              obtain ⟨sz, Az, lz, qz, kz, iiz⟩ := HAT.out.z
              have cz0 := fun o => num_cell0 (heap_old (o := o) kz)
              have cz1 := fun o => num_cell1 (heap_old (o := o) kz)
              have IXz := Lib.hid iiz
              clear kz iiz
              go_wp2_with fail
              refine (HMUL.out _ _ _ z2 x2 (IXz.out.below (below_a1 _ _)) (IXx.out.below (below_a1 _ _)) HZ2.out HX2.out).mono ?_
              rw [HPP.out]
              rintro e w11 ⟨v11, rfl, hv11, hb11⟩
              obtain ⟨sp, Ap, lp, qp, rfl, hv11⟩ := hv11.parts
              have k14 := (hb11.block wr.heap.size (by rw [heap_size_alloc]; omega)).trans (heap_here wr (.cells #[.bool false, .slice none 0 0] 25))
              have b11' := bt (below_a1 wr (.cells #[.bool false, .slice none 0 0] 25)) hb11
              have y11 : NumB w11 wr.heap.size 0 := ⟨false, none, 0, 0, k14, isNum_nil _⟩
              have HY12 := Lib.hid (y11.put hv11)
              have HAT12 := Lib.hid (HAT.out.grow (below_put2 b11' (Nat.le_refl _) (.bool sp) (.slice Ap lp qp)))
              have c14 := num_cell0 k14
              have c14' := num_cell1 k14
              have f14 := one_free k14 0
              have f14' := one_free k14 1
              have l14 : b11 < wr.heap.size := HAT.out.z.lt
              clear hv11 hb11 k14 b11' y11 cx0 cx1 cz0 cz1 HAT
              go_upto_region 19 with fail
              obtain ⟨w12, hw12⟩ : ∃ w12, (w11.setCell ⟨wr.heap.size, 0, none⟩ (.bool sp)).setCell ⟨wr.heap.size, 1, none⟩ (.slice Ap lp qp) = w12 := ⟨_, rfl⟩
              obtain ⟨b14, hb14⟩ : ∃ b14, wr.heap.size = b14 := ⟨_, rfl⟩
              rw [hw12] at HY12 HAT12 ⊢
              rw [hb14] at HY12 l14 ⊢
              clear hw12 hb14 c14 c14' f14 f14'
              obtain ⟨sy, Ay, ly, qy, ky, iiy⟩ := HY12.out
              have cy0 := num_cell0 ky
              have cy1 := num_cell1 ky
              have IXy := Lib.hid iiy
              clear ky iiy
              go_wp2_with fail
              cases ho1 : overU pp with
              | true =>
                have HRR := Lib.hid (HRN.out (mulDiv_n1 (by rw [HPP.out]; exact ho1)))
                have HO1 := Lib.hid ho1
                clear ho1
                refine (HFIT.out _ _ pp false IXy.out hp0 (by rw [HO1.out]; rfl)).mono ?_
                rintro e w13 ⟨rfl, hb13⟩
                have HAT13 := Lib.hid (HAT12.out.grow hb13)
                clear hb13 cy0 cy1
                obtain ⟨sr, Ar, lr, qr, kr, ir⟩ := HAT13.out.mem.r
                have cr0 := num_cell0 kr
                have cr1 := num_cell1 kr
                have fr0 := one_free kr 0
                have fr1 := one_free kr 1
                have KR := Lib.hid kr
                clear kr ir
                go_wp2_with fail
                have kc := cells_set (cells_set KR.out 0 (.bool false)) 1 (.slice none 0 0)
                have d0 := num_cell0 kc
                have d1 := num_cell1 kc
                exact bodyPost_ret (v := .tuple #[.agg #[.bool false, .slice none 0 0], .bool false]) (by simp [results, Tryz.results8, go_sem, d0, d1]) rfl
                  (by rw [HRR.out]; exact ⟨_, rfl, isNum_set2 KR.out (isNum_nil _), below_put2 HAT13.out.mem.below (by omega) _ _⟩)
              | false =>
                have HO1 := Lib.hid ho1
                clear ho1
                refine (HFIT.out _ _ pp true IXy.out hp0 (by rw [HO1.out]; rfl)).mono ?_
                rintro e w13 ⟨rfl, hb13⟩
                have HAT13 := Lib.hid (HAT12.out.grow hb13)
                have HY13 := Lib.hid (HY12.out.below hb13)
                clear hb13 cy0 cy1 HAT12 HY12
                obtain ⟨sy, Ay, ly, qy, ky, iiy⟩ := HY13.out
                have cy0 := num_cell0 ky
                have cy1 := num_cell1 ky
                have IXy := Lib.hid iiy
                clear ky iiy
                obtain ⟨sh, Ah, lh, qh, kh, iih⟩ := HAT13.out.h
                have ch0 := num_cell0 kh
                have ch1 := num_cell1 kh
                have IXh := Lib.hid iih
                clear kh iih
                go_wp2_with fail
                refine (HADD.out _ _ _ pp hf IXy.out IXh.out HO1.out HHF.out).mono ?_
                rintro e w14 ⟨v14, rfl, hv14, hb14⟩
                obtain ⟨ss, As, ls, qs, rfl, hv14⟩ := hv14.parts
                have HAT14 := Lib.hid (HAT13.out.grow hb14)
                have HY14 := Lib.hid (HY13.out.below hb14)
                have HV14 := Lib.hid hv14
                have hs0 : 0 ≤ pp + hf := Int.add_nonneg hp0 hf0
                clear hb14 hv14 cy0 cy1 ch0 ch1 HAT13 HY13
                go_wp2_with fail
                cases ho2 : overU (pp + hf) with
                | true =>
                  have HRR := Lib.hid (HRN.out (mulDiv_n2 (by rw [HPP.out]; exact HO1.out) (by rw [HPP.out]; exact ho2)))
                  have HO2' := Lib.hid ho2
                  clear ho2
                  refine (HFIT.out _ _ (pp + hf) false HV14.out hs0 (by rw [HO2'.out]; rfl)).mono ?_
                  rintro e w15 ⟨rfl, hb15⟩
                  have HAT15 := Lib.hid (HAT14.out.grow hb15)
                  clear hb15
                  obtain ⟨sr, Ar, lr, qr, kr, ir⟩ := HAT15.out.mem.r
                  have cr0 := num_cell0 kr
                  have cr1 := num_cell1 kr
                  have fr0 := one_free kr 0
                  have fr1 := one_free kr 1
                  have KR := Lib.hid kr
                  clear kr ir
                  go_wp2_with fail
                  have kc := cells_set (cells_set KR.out 0 (.bool false)) 1 (.slice none 0 0)
                  have d0 := num_cell0 kc
                  have d1 := num_cell1 kc
                  exact bodyPost_ret (v := .tuple #[.agg #[.bool false, .slice none 0 0], .bool false]) (by simp [results, Tryz.results8, go_sem, d0, d1]) rfl
                    (by rw [HRR.out]; exact ⟨_, rfl, isNum_set2 KR.out (isNum_nil _), below_put2 HAT15.out.mem.below (by omega) _ _⟩)
                | false =>
                  have HO2' := Lib.hid ho2
                  clear ho2
                  refine (HFIT.out _ _ (pp + hf) true HV14.out hs0 (by rw [HO2'.out]; rfl)).mono ?_
                  rintro e w15 ⟨rfl, hb15⟩
                  have HAT15 := Lib.hid (HAT14.out.grow hb15)
                  have HY15 := Lib.hid (HY14.out.below hb15)
                  clear hb15 HAT14 HY14
                  obtain ⟨sb, Ab, lb, qb, kb, iib⟩ := HAT15.out.mem.b
                  have cb0 := num_cell0 kb
                  have cb1 := num_cell1 kb
                  have IXb := Lib.hid iib
                  clear kb iib
                  go_wp2_with fail
                  by_cases hb0 : b = 0
                  · have HRR := Lib.hid (HRN.out (by rw [hb0]; exact mulDiv_n3 (by rw [HPP.out]; exact HO1.out) (by rw [HPP.out]; exact HO2'.out)))
                    have HB0 := Lib.hid (show decide (b = 0) = true from decide_eq_true hb0)
                    clear hb0
                    refine (HZ.out _ _ b true IXb.out HB0.out).mono ?_
                    rintro e w16 ⟨rfl, hb16⟩
                    have HAT16 := Lib.hid (HAT15.out.grow hb16)
                    clear hb16 cb0 cb1
                    obtain ⟨sr, Ar, lr, qr, kr, ir⟩ := HAT16.out.mem.r
                    have cr0 := num_cell0 kr
                    have cr1 := num_cell1 kr
                    have fr0 := one_free kr 0
                    have fr1 := one_free kr 1
                    have KR := Lib.hid kr
                    clear kr ir
                    go_wp2_with fail
                    have kc := cells_set (cells_set KR.out 0 (.bool false)) 1 (.slice none 0 0)
                    have d0 := num_cell0 kc
                    have d1 := num_cell1 kc
                    exact bodyPost_ret (v := .tuple #[.agg #[.bool false, .slice none 0 0], .bool false]) (by simp [results, Tryz.results8, go_sem, d0, d1]) rfl
                      (by rw [HRR.out]; exact ⟨_, rfl, isNum_set2 KR.out (isNum_nil _), below_put2 HAT16.out.mem.below (by omega) _ _⟩)
                  · have HB0 := Lib.hid (show decide (b = 0) = false from decide_eq_false hb0)
                    have HBN := Lib.hid hb0
                    clear hb0
                    refine (HZ.out _ _ b false IXb.out HB0.out).mono ?_
                    rintro e w16 ⟨rfl, hb16⟩
                    have HAT16 := Lib.hid (HAT15.out.grow hb16)
                    have HY16 := Lib.hid (HY15.out.below hb16)
                    clear hb16 cb0 cb1 HAT15 HY15
                    have HMD := Lib.hid (mulDiv_s (b := b) (h := hf) (x := z2) (y := x2) (by rw [HPP.out]; exact HO1.out) (by rw [HPP.out]; exact HO2'.out) HBN.out)
                    obtain ⟨qq, hqq⟩ : ∃ qq, (z2 * x2 + hf).tdiv b = qq := ⟨_, rfl⟩
                    have HQQ : Hid ((pp + hf).tdiv b = qq) := Lib.hid (by rw [← hqq, HPP.out])
                    rw [hqq] at HMD
                    have HOQ : Hid (overU qq = false) := Lib.hid (mulDiv_fits (by have := overU_pos HOB.out; omega) hf0 (by have := overU_pos HZ2.out; omega) (by have := overU_pos HX2.out; omega) HMD.out).1
                    clear hqq
                    go_upto_region 21 with fail
                    go_cut [76] (fun _ wx => ∃ W, W = wx ∧ SpY w x2 (N : Int) b z2 hf b8 b9 b11 b14 qq W)
                    case first =>
                      obtain ⟨sy, Ay, ly, qy, ky, iiy⟩ := HY16.out
                      have cy0 := num_cell0 ky
                      have cy1 := num_cell1 ky
                      have IXy := Lib.hid iiy
                      clear ky iiy
                      obtain ⟨sh, Ah, lh, qh, kh, iih⟩ := HAT16.out.h
                      have ch0 := num_cell0 kh
                      have ch1 := num_cell1 kh
                      have IXh := Lib.hid iih
                      clear kh iih
                      obtain ⟨sb, Ab, lb, qb, kb, iib⟩ := HAT16.out.mem.b
                      have cb0 := num_cell0 kb
                      have cb1 := num_cell1 kb
                      have IXb := Lib.hid iib
                      clear kb iib
                      have B0 := Lib.hid (Below.refl w16.heap.size w16).drew
                      go_region_with (first
                        | (go_at_call 26; (with_reducible refine (HADD.out _ _ _ pp hf (IXy.out.below B0.out) (IXh.out.below B0.out) HO1.out HHF.out).mono ?_); rintro e w17 ⟨v17, rfl, hv17, hgr⟩; obtain ⟨sa, Aa, la, qa, rfl, hv17⟩ := hv17.parts; have HV17 := Lib.hid hv17; have B17 := Lib.hid (bt B0.out hgr); have cb0' := (B17.out.cell (by exact World.block_lt_of_cell? w16 _ cb0)).trans cb0; have cb1' := (B17.out.cell (by exact World.block_lt_of_cell? w16 _ cb1)).trans cb1; clear hv17 hgr)
                        | (go_at_call 24; (with_reducible refine (HQR.out _ _ _ (pp + hf) b HV17.out (IXb.out.below B17.out) HO2'.out HOB.out HBN.out).mono ?_); rintro e w18 ⟨v18, u18, rfl, hv18, hu18, hb18⟩; rw [HQQ.out] at hv18; obtain ⟨sq, Aq, lq, cq, rfl, hv18⟩ := hv18.parts; obtain ⟨su, Au, lu, cu, rfl, _⟩ := hu18.parts; have HV18 := Lib.hid hv18; have B18 := Lib.hid (bt B17.out hb18); obtain ⟨s14, A14, m14, q14, k14, _⟩ := HY16.out.below B18.out; have c14 := num_cell0 k14; have c14' := num_cell1 k14; have f14 := one_free k14 0; have f14' := one_free k14 1; clear hv18 hu18 hb18 k14))
                      all_goals
                        go_wp2_with fail
                        go_meet
                        exact ⟨_, rfl, (HAT16.out.grow B18.out).later (HY16.out.below B18.out) l14 _ _, (HY16.out.below B18.out).put HV18.out⟩
                    case rest =>
                      obtain ⟨w17, hw17, hat17, hy17⟩ := hcut
                      subst hw17
                      have HAT17 := Lib.hid hat17
                      have HY17 := Lib.hid hy17
                      clear hat17 hy17 HAT16 HY16
                      obtain ⟨sy, Ay, ly, qy, ky, iiy⟩ := HY17.out
                      have cy0 := num_cell0 ky
                      have cy1 := num_cell1 ky
                      have IXy := Lib.hid iiy
                      clear ky iiy
                      obtain ⟨sd, Ad, ld, qd, kd, iid⟩ := HAT17.out.z
                      have cd0 := num_cell0 kd
                      have cd1 := num_cell1 kd
                      have fd0 := one_free kd 0
                      have fd1 := one_free kd 1
                      clear kd iid
                      go_wp2_with fail
                      go_roundg 0
                      case measure => decide
                      case rel => exact ⟨x2, qq, HAT17.out.setZ IXy.out, HX2.out, HOQ.out, .inr (.inr ⟨rfl, rfl, (powR1_some HMD.out).symm.trans HPR.out⟩)⟩
            · have HPR := Lib.hid hpr
              clear hpr
              obtain ⟨sn, An, ln, qn, kn, iin⟩ := HAT.out.mem.n
              have cn0 := num_cell0 kn
              have cn1 := num_cell1 kn
              have IXn := Lib.hid iin
              clear kn iin
              obtain ⟨st, At, lt, qt, kt, iit⟩ := HAT.out.t
              have ct0 := num_cell0 kt
              have ct1 := num_cell1 kt
              have IXt := Lib.hid iit
              clear kt iit
              go_wp2_with fail
              refine (HQR.out _ _ _ (N : Int) 2 IXn.out IXt.out (fitsN HNL.out) HO2.out (by decide)).mono ?_
              rintro e w20 ⟨v20, u20, rfl, hv20, hu20, hb20⟩
              rw [tdiv_two] at hv20
              obtain ⟨sv, Av, lv, qv, rfl, hv20⟩ := hv20.parts
              obtain ⟨sw, Aw, lw, qw, rfl, hu20⟩ := hu20.parts
              have HAT20 := Lib.hid (HAT.out.grow hb20)
              have HV20 := Lib.hid hv20
              clear hb20 hv20 hu20 cn0 cn1 ct0 ct1
              obtain ⟨sn, An, ln, qn, kn, iin⟩ := HAT20.out.mem.n
              have cn0 := num_cell0 kn
              have cn1 := num_cell1 kn
              have fn0 := one_free kn 0
              have fn1 := one_free kn 1
              clear kn iin
              go_wp2_with fail
              go_roundg (N / 2)
              case measure => exact Nat.div_lt_self (Nat.pos_of_ne_zero HN0.out) (by decide)
              case rel => exact ⟨x2, z2, HAT20.out.setN HV20.out, HX2.out, HZ2.out, by have := HNL.out; omega, HPR.out⟩
end Go.Proofs.YtapfolgiafnllaaGreatDoor
