/-
  The guess of a digit of the schoolbook division, as divBasic's inner loop refines it.
-/
import Derived.Test.YtapfolgiafnllaaGreatDoorBn14Z
import Derived.Test.YtapfolgiafnllaaGreatDoorStackZ
namespace Go.Proofs.YtapfolgiafnllaaGreatDoor
open Go.RowKit

/-- The inner loop: a guess q with its rest r, and q times the divisor's second word. -/
structure GInv (n y1 y0 d q r a b : Nat) : Prop where
  eq : q * y1 + r = n
  ab : a * 18446744073709551616 + b = q * y0
  rB : r < 18446744073709551616
  qB : q < 18446744073709551616
  bB : b < 18446744073709551616
  aB : a < 18446744073709551616
  ge : (n * 18446744073709551616 + d) / (y1 * 18446744073709551616 + y0) ≤ q
theorem g_stop {n y1 y0 d q r a b : Nat} (h : GInv n y1 y0 d q r a b) (ht : ¬ r * 18446744073709551616 + d < a * 18446744073709551616 + b) (hy : 0 < y1) : q = (n * 18446744073709551616 + d) / (y1 * 18446744073709551616 + y0) :=
  hd_stop h.eq (by have := h.ab; omega) (by omega) h.ge
theorem g_step {n y1 y0 d q r a b : Nat} (h : GInv n y1 y0 d q r a b) (ht : r * 18446744073709551616 + d < a * 18446744073709551616 + b) (hn : n < y1 * 18446744073709551616 + y0) (hd : d < 18446744073709551616) (hy0 : y0 < 18446744073709551616) (_hy1 : 0 < y1) :
    1 ≤ q ∧ (18446744073709551616 ≤ r + y1 → q - 1 = (n * 18446744073709551616 + d) / (y1 * 18446744073709551616 + y0)) ∧ (r + y1 < 18446744073709551616 → b < y0 → 1 ≤ a ∧ GInv n y1 y0 d (q - 1) (r + y1) (a - 1) (b + 18446744073709551616 - y0)) ∧
      (r + y1 < 18446744073709551616 → y0 ≤ b → GInv n y1 y0 d (q - 1) (r + y1) a (b - y0)) := by
  have h1 := hd_go h.eq (.inr (by have := h.ab; omega)) hn hd h.ge
  obtain ⟨p, rfl⟩ : ∃ p, q = p + 1 := ⟨q - 1, (Nat.succ_pred_eq_of_pos (Nat.lt_of_lt_of_le (Nat.succ_pos _) h1)).symm⟩
  have e1 := h.eq
  have e2 := h.ab
  have qB := h.qB
  have bB := h.bB
  have aB := h.aB
  rw [Nat.succ_mul] at e1 e2
  have ge : (n * 18446744073709551616 + d) / (y1 * 18446744073709551616 + y0) ≤ p := Nat.le_of_succ_le_succ h1
  rw [Nat.add_sub_cancel]
  clear h1
  refine ⟨by omega, fun hr => hd_brk (r := r + y1) (by omega) hr (by omega) hy0 ge (by omega), fun hr hb => ?_, fun hr hb => ⟨by omega, by omega, hr, by omega, by omega, aB, ge⟩⟩
  have ha : 1 ≤ a := by
    rcases Nat.eq_zero_or_pos a with h0 | h0
    · subst h0; omega
    · exact h0
  obtain ⟨c, rfl⟩ : ∃ c, a = c + 1 := ⟨a - 1, by omega⟩
  rw [Nat.succ_mul] at e2
  obtain ⟨X, hX⟩ : ∃ X, c * 18446744073709551616 = X := ⟨_, rfl⟩
  rw [hX] at e2
  refine ⟨ha, ⟨by omega, ?_, hr, by omega, by omega, by omega, ge⟩⟩
  rw [Nat.add_sub_cancel, hX]
  omega
theorem mul_div_lt {B x y : Nat} (hx : x < B) (hy : y < B) : x * y / B < B := by
  rw [Nat.div_lt_iff_lt_mul (by omega)]
  exact Nat.mul_lt_mul'' hx hy
theorem g_first {n y1 y0 d : Nat} (h : n / y1 < 18446744073709551616) (hy1 : 0 < y1) (hy1B : y1 < 18446744073709551616) (hy0 : y0 < 18446744073709551616) (hd : d < 18446744073709551616) :
    GInv n y1 y0 d (n / y1) (n % y1) (n / y1 * y0 / 18446744073709551616) (n / y1 * y0 % 18446744073709551616) :=
  ⟨Nat.div_add_mod' n y1, Nat.div_add_mod' _ _, Nat.lt_trans (Nat.mod_lt _ hy1) hy1B, h, Nat.mod_lt _ (Nat.zero_lt_succ _), by
    exact mul_div_lt h hy0, hd_first hy1 hd⟩
def GRel (n y1 y0 d : Nat) (w : World) (qv rv av bv : Value) (wr : World) : Prop :=
  ∃ q r a b : Nat, qv = .int .u64 (q : Int) ∧ rv = .int .u64 (r : Int) ∧ av = .int .u64 (a : Int) ∧ bv = .int .u64 (b : Int) ∧ GInv n y1 y0 d q r a b ∧ wr = w
def idxU : Value → Nat | .int _ k => k.toNat | _ => 0
/-- Words of a number of words and what follows it. -/
theorem over_left {us rest outs : List Nat} {o : Nat} (h : o + outs.length ≤ us.length) : over (us ++ rest) o outs = over us o outs ++ rest := by
  unfold over
  rw [List.take_append_of_le_length (by omega), List.drop_append_of_le_length h]
  simp
/-- The loop over the digits: its head. -/
def DbRel (V U0 n m : Nat) (gq gu gh : Nat) (zq rest : List Nat) (w : World) (uv jv : Value) (wr : World) : Prop :=
  ∃ (t : Nat) (us ds hs : List Nat), jv = .int .i64 ((t : Int) - 1) ∧ uv = .int .u64 (us.getD (t + n - 1) 0 : Nat) ∧ DbInv V U0 n m us ds t ∧ Row wr gu .u64 106 (us ++ rest) ∧ Row wr gq .u64 106 (over zq (min t m) ds) ∧ Row wr gh .u64 106 hs ∧ n + 1 ≤ hs.length ∧
    Ext (fun b => b = gu ∨ b = gq ∨ b = gh) w wr
def DbPost (V U0 n m : Nat) (gq gu s : Nat) (zq rest : List Nat) (w : World) (e : Ending) (w' : World) : Prop :=
  ∃ us ds, e = .returned (.tuple #[]) ∧ DbInv V U0 n m us ds 0 ∧ Row w' gu .u64 106 (us ++ rest) ∧ Row w' gq .u64 106 (over zq 0 ds) ∧ Below s w w' ∧ Stk w' s
end Go.Proofs.YtapfolgiafnllaaGreatDoor

/-
  math/big's divBasic: the schoolbook division.
-/
namespace Go.Proofs.YtapfolgiafnllaaGreatDoor
open Go.RowKit

theorem row_left {w : World} {g i : Nat} {us rest : List Nat} (h : Row w g .u64 106 (us ++ rest)) (hi : i < us.length) : w.cell? ⟨g, i, none⟩ = some (.int .u64 (us[i] : Int)) := by
  rw [h.cell (j := i) (by rw [List.length_append]; omega), List.getElem_append_left hi]

theorem row_beside {w w' : World} {D : Nat → Prop} {g : Nat} {zs : List Nat} (h : Row w g .u64 106 zs) (hx : Ext D w w') (hn : ¬ D g) : Row w' g .u64 106 zs := by
  unfold Row at h ⊢
  rw [hx.block g (iter_lt h) hn]
  exact h

theorem Stk.drewN {w : World} {s : Nat} (h : Stk w s) (n : Nat) : Stk (w.drewN n) s := h
theorem Stk.keep {w w' : World} {s : Nat} {D : Nat → Prop} (h : Stk w s) (hx : Ext D w w') (hs : ¬ D s) (hD : ∀ g, D g → ∃ zs, Row w g .u64 106 zs) : Stk w' s := by
  rcases h with h | ⟨i, A, n, c, h, hi, hlt, hn, hc⟩
  · exact .inl ((hx.block s (iter_lt h) hs).trans h)
  · refine .inr ⟨i, A, n, c, (hx.block s (iter_lt h) hs).trans h, (hx.block i (iter_lt hi) (fun hd => ?_)).trans hi, hlt, hn, hc⟩
    obtain ⟨zs, hr⟩ := hD i hd
    unfold Row at hr
    rw [hr] at hi
    injection hi with hi
    injection hi with _ h _
    exact absurd h (by decide)

set_option maxRecDepth 100000 in
set_option maxHeartbeats 8000000 in
theorem divBasic_walk (gq gu s m k cq cu cv U0 V : Nat) (zq us rest vs : List Nat) (v : Addr) (w : World)
    (hq : Row w gq .u64 106 zq) (hql : m ≤ zq.length) (hu : Row w gu .u64 106 (us ++ rest)) (hul : us.length = k + 2 + m) (huw : ∀ d ∈ us, d < 18446744073709551616)
    (hv : Rd w (some v) (nums .u64 vs)) (hvl : vs.length = k + 2) (hvw : ∀ d ∈ vs, d < 18446744073709551616) (hs : StkNil w s) (hk : k + 2 ≤ 4) (hm : m ≤ 1000)
    (hvlt : v.block < w.heap.size) (hvq : v.block ≠ gq) (hvu : v.block ≠ gu) (hvs : v.block ≠ s) (hqu : gq ≠ gu) (hsq : s < gq) (hsu : s < gu) (hcq : m ≤ cq) (hcu : k + 2 + m ≤ cu) (hcv : k + 2 ≤ cv)
    (hV : valD 18446744073709551616 vs = V) (hU : valD 18446744073709551616 us = U0) (hlt : U0 < V * 18446744073709551616 ^ m) (hb : 9223372036854775808 ≤ vs[k + 1]) :
    Calls Tryz.prog 211 #[.slice (some ⟨gq, 0, none⟩) m cq, .pointer (some ⟨s, 0, none⟩), .slice (some ⟨gu, 0, none⟩) us.length cu, .slice (some v) vs.length cv] w (DbPost V U0 (k + 2) m gq gu s zq rest w) := by
  obtain ⟨N, hN⟩ : ∃ N, k + 2 = N := ⟨_, rfl⟩
  have hNi : (N : Int) - 1 = ((k + 1 : Nat) : Int) := by omega
  obtain ⟨k1, hk1⟩ : ∃ k1, k + 1 = k1 := ⟨_, rfl⟩
  rw [hk1] at hNi
  have hNi2 : (N : Int) - 2 = (k : Int) := by omega
  have hmi : ((us.length : Nat) : Int) - N = (m : Int) := by omega
  obtain ⟨L, hL⟩ : ∃ L, us.length = L := ⟨_, rfl⟩
  obtain ⟨v1, hv1⟩ : ∃ v1, vs[k + 1] = v1 := ⟨_, rfl⟩
  obtain ⟨a, ha, hcv1⟩ := rd_cell hv (j := k + 1) (by omega)
  obtain rfl := Option.some.inj ha
  rw [hv1] at hb hcv1
  rw [hk1] at hcv1
  have hv1w : v1 < 18446744073709551616 := by rw [← hv1]; exact hvw _ (List.getElem_mem _)
  have HSV := Lib.hid (save_walk s w hs)
  have HST := Lib.hid (stackNatAny_walk s (N + 1) w hs (by omega) (by omega))
  have HRC := Lib.hid (fun w => reciprocal_walk v1 w hv1w (by omega))
  obtain ⟨rc, hrc⟩ : ∃ rc, recip v1 = rc := ⟨_, rfl⟩
  rw [hrc] at HRC
  have hslt := iter_lt hs
  have hN1 : ((N + 1 : Nat) : Int) = (N : Int) + 1 := by omega
  rw [hN1] at HST
  have hk1N : (k1 : Int) < (N : Int) := by omega
  have hk10 : (0 : Int) ≤ k1 := by omega
  have hN0 : (0 : Int) ≤ N := by omega
  have hN4 : (N : Int) ≤ 4 := by omega
  have hm0 : (0 : Int) ≤ m := by omega
  have hm1 : (m : Int) ≤ 1000 := by omega
  have hL0 : (L : Int) ≤ 1004 := by omega
  have hcvi : (N : Int) ≤ cv := by omega
  have hcui : (L : Int) ≤ cu := by omega
  have hcqi : (m : Int) ≤ cq := by omega
  have HV := Lib.hid hv
  have HVW := Lib.hid hvw
  have HQ := Lib.hid hq
  have HU := Lib.hid hu
  have HINV0 : Hid (DbInv V U0 N m us [] (m + 1)) := Lib.hid ⟨by omega, huw, by simp, by simp, Nat.le_refl _, by rw [Nat.min_eq_right (Nat.le_succ _), hU]; exact hlt, by simp [valD, hU]⟩
  have HV1 := Lib.hid hv1
  have HRCE := Lib.hid hrc
  have HVL := Lib.hid hvl
  have HUL := Lib.hid hul
  have HN := Lib.hid hN
  have HK1 := Lib.hid hk1
  have HLT := Lib.hid hslt
  rw [hvl, hN]
  rw [hL] at hmi ⊢
  have HLL := Lib.hid hL
  clear hq hu hv hvw hs hv1 hul hlt hU huw hL hN hk1 hrc hslt
  go_enter_defers Tryz.func211, Tryz.ntmps211
  go_wp2_with fail
  refine HSV.out.mono ?_
  rintro e w1 ⟨rfl, rfl⟩
  go_wp2_with fail
  refine HST.out.mono ?_
  rintro e w1 ⟨gh, ch, hs, rfl, h1, h2, hrow, hhl, hgh, hext, hstk, hstn⟩
  have hch : (N : Int) + 1 ≤ ch := by omega
  have hcell := (rd_cell (HV.out.ext1 hext (fun a ha => by obtain rfl := Option.some.inj ha; exact hvs)) (j := k + 1) (by have := HVL.out; omega))
  obtain ⟨a, ha, hcell⟩ := hcell
  obtain rfl := Option.some.inj ha
  rw [HV1.out, HK1.out] at hcell
  have HH := Lib.hid hrow
  have HEXT := Lib.hid hext
  have HSTK := Lib.hid hstk
  have HHL := Lib.hid hhl
  clear hrow hext hstk hstn hcv1 h1
  go_wp2_with fail
  refine (HRC.out _).mono ?_
  rintro e w2 ⟨rfl, nd, rfl⟩
  go_wp2_with fail
  have hgu1 : gu < w.heap.size := iter_lt HU.out
  have hgq1 : gq < w.heap.size := iter_lt HQ.out
  have hvb1 : v.block < w.heap.size := hvlt
  go_loopw [13, 14] (fun uv jv wr => DbRel V U0 N m gq gu gh zq rest (w1.drewN nd) uv jv wr) (fun _ jv _ => idxUp jv)
  case atStart =>
    refine ⟨m + 1, us, [], hs, by rw [show (((m + 1 : Nat) : Int) - 1) = (m : Int) by omega], ?_, HINV0.out, ?_, ?_, HH.out.drew nd, HHL.out, Ext.refl _ _⟩
    · rw [List.getD_eq_getElem?_getD, List.getElem?_eq_none (by have := HUL.out; have := HN.out; omega)]; rfl
    · exact (row_beside HU.out HEXT.out (by omega)).drew nd
    · rw [over_nil]
      exact (row_beside HQ.out HEXT.out (by omega)).drew nd
  case round =>
    obtain ⟨t, us', ds, hs', rfl, rfl, hinv, hu, hq, hh, hhl, hx⟩ := hrel
    have HX := Lib.hid hx
    have HUR := Lib.hid hu
    have HQR := Lib.hid hq
    have HHR := Lib.hid hh
    have HHL2 := Lib.hid hhl
    have HINV := Lib.hid hinv
    by_cases ht : t = 0
    · subst ht
      have hneg : (((0 : Nat) : Int) - 1) = -1 := by omega
      rw [hneg]
      clear hinv hu hq hh hhl hx
      go_wp2_with fail
      have hstk := (HSTK.out.drewN nd).keep HX.out (by omega) (fun g hg => by
        rcases hg with rfl | rfl | rfl
        · exact ⟨_, (row_beside HU.out HEXT.out (by omega)).drew nd⟩
        · exact ⟨_, (row_beside HQ.out HEXT.out (by omega)).drew nd⟩
        · exact ⟨_, HH.out.drew nd⟩)
      refine leaves_cons (f := 167) (args := #[.pointer (some ⟨s, 0, none⟩), .int .i64 0]) (by simp) (by simp [go_sem]) ?_
      refine (restore_d s _ _ hstk).mono ?_
      rintro e u' w'' ⟨rfl, rfl, hrp⟩
      have hbel : Below s w wr := (below_drewN (HEXT.out.below (Nat.le_of_lt HLT.out) (fun b hb => by omega)) nd).trans (HX.out.below (by have := HLT.out; have := HEXT.out.size; show s ≤ w1.heap.size; omega) (fun b hb => by omega))
      have hqr := HQR.out
      rw [Nat.zero_min] at hqr
      exact ⟨_, results_none rfl _ _ _, us', ds, rfl, HINV.out, hrp.row HUR.out, hrp.row hqr, hbel.trans (hrp.below (Nat.le_refl _)), hrp.any⟩
    · obtain ⟨j, rfl⟩ : ∃ j, t = j + 1 := ⟨t - 1, by omega⟩
      have hjm : j ≤ m := by have := hinv.tle; omega
      have hul' := hinv.ulen
      obtain ⟨S, ho⟩ := db_open hinv HVW.out hV hvl HN.out.symm (by rw [HV1.out]; exact hb)
      have hj1 : (((j + 1 : Nat) : Int) - 1) = (j : Int) := by omega
      have huj : j + 1 + N - 1 = j + N := by omega
      rw [hj1, huj]
      have hNk := HN.out
      have hLu := HUL.out
      have hLL2 := HLL.out
      have hp1l : j + k + 1 < us'.length := by omega
      have hp0l : j + k < us'.length := by omega
      obtain ⟨u0, hu0⟩ : ∃ u0, us'.getD (j + N) 0 = u0 := ⟨_, rfl⟩
      obtain ⟨u1, hu1⟩ : ∃ u1, us'[j + k + 1]'hp1l = u1 := ⟨_, rfl⟩
      obtain ⟨u2, hu2⟩ : ∃ u2, us'[j + k]'hp0l = u2 := ⟨_, rfl⟩
      obtain ⟨v2, hv2⟩ : ∃ v2, vs[k]'(by omega) = v2 := ⟨_, rfl⟩
      have c1 := row_left hu hp1l
      have c0 := row_left hu hp0l
      rw [hu1] at c1 ho
      rw [hu2] at c0 ho
      rw [hu0, HV1.out, hv2] at ho
      have ho2 := ho
      rw [hu0]
      have hvr : Rd wr (some v) (nums .u64 vs) := Rd.ext (w := w1.drewN nd) (rd_heap (HV.out.ext1 HEXT.out (fun a ha => by obtain rfl := Option.some.inj ha; exact hvs)) rfl) hx (fun _ a ha => by
        obtain rfl := Option.some.inj ha
        rintro (h | h | h)
        · exact hvu h
        · exact hvq h
        · have : v.block = gh := h
          omega)
      have HVR := Lib.hid hvr
      obtain ⟨a2, ha2, hcv2⟩ := rd_cell hvr (j := k) (by rw [hvl]; omega)
      obtain rfl := Option.some.inj ha2
      rw [hv2] at hcv2
      obtain ⟨p1, hp1⟩ : ∃ p1, j + k + 1 = p1 := ⟨_, rfl⟩
      obtain ⟨p0, hp0⟩ : ∃ p0, j + k = p0 := ⟨_, rfl⟩
      obtain ⟨pn, hpn⟩ : ∃ pn, j + N = pn := ⟨_, rfl⟩
      rw [hp1] at c1
      rw [hp0] at c0
      obtain ⟨w0, w1', w2, w3, w4⟩ := ho2.words
      have HO := Lib.hid ho2
      have hji : (j : Int) + N = (pn : Int) := by omega
      have hj0 : (0 : Int) ≤ j := by omega
      have hpn1 : (pn : Int) - 1 = (p1 : Int) := by omega
      have hpn2 : (pn : Int) - 2 = (p0 : Int) := by omega
      have hp10 : (0 : Int) ≤ p1 := by omega
      have hp00 : (0 : Int) ≤ p0 := by omega
      have hp1L : (p1 : Int) < L := by omega
      have hp0L : (p0 : Int) < L := by omega
      have hkN : (k : Int) < N := by omega
      have hk0 : (0 : Int) ≤ k := by omega
      have HPN := Lib.hid hpn
      have HP1 := Lib.hid hp1
      have HP0 := Lib.hid hp0
      have HJM := Lib.hid hjm
      have hsize := hx.size
      clear hinv hu hq hh hhl hx ho hu0 hu1 hu2 hv2 hp1l hp0l hul' hNk hLu hLL2 huj ho2 hvr ha2
      go_upto_if 51 with fail
      go_cut [15] from 45 to 200 (fun qv wx => ∃ q : Nat, qv = .int .u64 (q : Int) ∧ q < 18446744073709551616 ∧ S / V ≤ q ∧ q ≤ S / V + 1 ∧ wx = wr)
      case first =>
        as_aux_lemma =>
          by_cases he : u0 = v1
          · subst he
            have hsm := HO.out.same rfl
            clear hji hj0 hpn1 hpn2 c1 c0 hcv2
            go_wp2_with fail
            go_meet
            exact ⟨_, rfl, by decide, hsm.1, hsm.2, rfl⟩
          · have hlt0 : u0 < v1 := by have := HO.out.u0_le; omega
            have heb : ((u0 : Int) == v1) = false := beq_eq_false_iff_ne.2 (by omega)
            have HDW := Lib.hid (divWWg_walk u0 u1 v1 wr hlt0 w1' hv1w)
            rw [HRCE.out] at HDW
            have hv10 : 0 < v1 := by omega
            have hq1 : (u0 * 18446744073709551616 + u1) / v1 < 18446744073709551616 := hd_lt hlt0 w1'
            have hgi := g_first (y0 := v2) (d := u2) hq1 hv10 hv1w w4 w2
            have HMW := Lib.hid (mulWW_walk _ v2 wr hq1 w4)
            obtain ⟨q1, hq1e⟩ : ∃ q1, (u0 * 18446744073709551616 + u1) / v1 = q1 := ⟨_, rfl⟩
            obtain ⟨r1, hr1e⟩ : ∃ r1, (u0 * 18446744073709551616 + u1) % v1 = r1 := ⟨_, rfl⟩
            rw [hq1e, hr1e] at hgi HDW
            rw [hq1e] at HMW
            obtain ⟨a1, ha1e⟩ : ∃ a1, q1 * v2 / 18446744073709551616 = a1 := ⟨_, rfl⟩
            obtain ⟨b1, hb1e⟩ : ∃ b1, q1 * v2 % 18446744073709551616 = b1 := ⟨_, rfl⟩
            rw [ha1e, hb1e] at hgi HMW
            have HGI := Lib.hid hgi
            clear hq1 hgi hq1e hr1e ha1e hb1e
            obtain ⟨g1, g2, g3, g4⟩ := HO.out.less hlt0
            have HG1 := Lib.hid g1
            have HG2 := Lib.hid g2
            have HG3 := Lib.hid g3
            have HG4 := Lib.hid g4
            clear g1 g2 g3 g4 he
            go_wp2_with fail
            refine HDW.out.mono ?_
            rintro e w2 ⟨rfl, rfl⟩
            go_wp2_with fail
            refine HMW.out.mono ?_
            rintro e w2 ⟨rfl, rfl⟩
            go_wp2_with fail
            go_loopw [15, 16, 18, 19] (fun qv rv av bv wx => GRel (u0 * 18446744073709551616 + u1) v1 v2 u2 wr qv rv av bv wx) (fun qv _ _ _ _ => idxU qv)
            case atStart => exact ⟨q1, r1, a1, b1, rfl, rfl, rfl, rfl, HGI.out, rfl⟩
            case round =>
              obtain ⟨q, r, a, b, rfl, rfl, rfl, rfl, hg, rfl⟩ := hrel
              have HGT := Lib.hid (greaterThan_walk a b r u2 wr hg.bB w2)
              by_cases hgt : r * 18446744073709551616 + u2 < a * 18446744073709551616 + b
              · rw [decide_eq_true hgt] at HGT
                obtain ⟨s1, s2, s3, s4⟩ := g_step hg hgt HG3.out w2 w4 hv10
                obtain ⟨qm, hqm⟩ : ∃ qm, q - 1 = qm := ⟨_, rfl⟩
                rw [hqm] at s2 s3 s4
                have hqB := hg.qB
                have hrB := hg.rB
                have hbB := hg.bB
                have haB := hg.aB
                have hqi : (q : Int) - 1 = (qm : Int) := by omega
                have hwq : IntKind.u64.wrap (qm : Int) = (qm : Int) := by rw [IntKind.wrap_u64]; omega
                have hlq : qm < q := by omega
                have HLQ := Lib.hid hlq
                by_cases hov : 18446744073709551616 ≤ r + v1
                · obtain ⟨rn, hrn⟩ : ∃ rn, r + v1 - 18446744073709551616 = rn := ⟨_, rfl⟩
                  have hwr : IntKind.u64.wrap ((r : Int) + v1) = (rn : Int) := by rw [IntKind.wrap_u64]; omega
                  have hrlt : (rn : Int) < v1 := by omega
                  have hst := s2 hov
                  have HST2 := Lib.hid hst
                  clear hg hgt s1 s2 s3 s4 hqm hqB hov hrn hst hlq
                  go_wp2_with fail
                  refine HGT.out.mono ?_
                  rintro e w3 ⟨rfl, rfl⟩
                  go_wp2_with fail
                  go_meet
                  exact ⟨_, rfl, by rw [HST2.out]; exact HG4.out, by rw [HST2.out]; exact HG1.out, by rw [HST2.out]; exact HG2.out, rfl⟩
                · obtain ⟨rn, hrn⟩ : ∃ rn, r + v1 = rn := ⟨_, rfl⟩
                  rw [hrn] at hov s3 s4
                  have hov2 : rn < 18446744073709551616 := by omega
                  have hri : (r : Int) + v1 = (rn : Int) := by omega
                  have hwr : IntKind.u64.wrap (rn : Int) = (rn : Int) := by rw [IntKind.wrap_u64]; omega
                  have hrlt : ¬ (rn : Int) < v1 := by omega
                  by_cases hbv : b < v2
                  · obtain ⟨t1, t2⟩ := s3 hov2 hbv
                    obtain ⟨am, ham⟩ : ∃ am, a - 1 = am := ⟨_, rfl⟩
                    obtain ⟨bn, hbn⟩ : ∃ bn, b + 18446744073709551616 - v2 = bn := ⟨_, rfl⟩
                    rw [ham, hbn] at t2
                    have hai : (a : Int) - 1 = (am : Int) := by omega
                    have hwa : IntKind.u64.wrap (am : Int) = (am : Int) := by rw [IntKind.wrap_u64]; omega
                    have hwb : IntKind.u64.wrap ((b : Int) - v2) = (bn : Int) := by rw [IntKind.wrap_u64]; omega
                    have hblt : (b : Int) < v2 := by omega
                    have HT2 := Lib.hid t2
                    clear hg hgt s1 s2 s3 s4 hqm hqB hov hrn hlq t1 t2 ham hbn hbv
                    go_wp2_with fail
                    refine HGT.out.mono ?_
                    rintro e w3 ⟨rfl, rfl⟩
                    go_wp2_with fail
                    exact ⟨⟨qm, rn, am, bn, rfl, rfl, rfl, rfl, HT2.out, rfl⟩, by simp only [idxU]; have := HLQ.out; omega⟩
                  · have t2 := s4 hov2 (by omega)
                    obtain ⟨bn, hbn⟩ : ∃ bn, b - v2 = bn := ⟨_, rfl⟩
                    rw [hbn] at t2
                    have hbi : (b : Int) - v2 = (bn : Int) := by omega
                    have hwb : IntKind.u64.wrap (bn : Int) = (bn : Int) := by rw [IntKind.wrap_u64]; omega
                    have hblt : ¬ (b : Int) < v2 := by omega
                    have HT2 := Lib.hid t2
                    clear hg hgt s1 s2 s3 s4 hqm hqB hov hrn hlq t2 hbn hbv
                    go_wp2_with fail
                    refine HGT.out.mono ?_
                    rintro e w3 ⟨rfl, rfl⟩
                    go_wp2_with fail
                    exact ⟨⟨qm, rn, a, bn, rfl, rfl, rfl, rfl, HT2.out, rfl⟩, by simp only [idxU]; have := HLQ.out; omega⟩
              · rw [decide_eq_false hgt] at HGT
                have hst := g_stop hg hgt hv10
                have HST2 := Lib.hid hst
                clear hg hgt hst
                go_wp2_with fail
                refine HGT.out.mono ?_
                rintro e w3 ⟨rfl, rfl⟩
                go_wp2_with fail
                go_meet
                exact ⟨_, rfl, by rw [HST2.out]; exact HG4.out, by rw [HST2.out]; exact HG1.out, by rw [HST2.out]; exact HG2.out, rfl⟩
      case rest =>
        obtain ⟨q, rfl, hqB, hqg1, hqg2, rfl⟩ := hcut
        have hvgh : v.block ≠ gh := by omega
        have hMA := mulAddVWW_walk gh 0 hs' vs (some v) ch cv q 0 wc HHR.out (.inr ⟨HVR.out, fun a ha => by obtain rfl := Option.some.inj ha; exact hvgh⟩) (by have := HHL2.out; have := HN.out; omega) HVW.out hqB (by decide) (by omega) (by decide)
        unfold MavPost at hMA
        rw [hvl, HN.out, hV] at hMA
        have HMA := Lib.hid hMA
        have HG1 := Lib.hid hqg1
        have HG2 := Lib.hid hqg2
        have hNch : (N : Int) ≤ ch := by omega
        have hNN : (N : Int) < (N : Int) + 1 := by omega
        clear hMA hqg1 hqg2 c1 c0 hcv2
        go_wp2_with fail
        refine HMA.out.mono ?_
        rintro e w2 ⟨c, outs, rfl, hcB, hol, how, hrow2, hx2, hs2, hval⟩
        have hoh := over_set (zs := hs') (outs := outs) (o := 0) (v := c) (by rw [hol]; have := HHL2.out; omega)
        rw [hol, Nat.zero_add] at hoh
        obtain ⟨old, hcR⟩ : ∃ old : Nat, w2.cell? ⟨gh, N, none⟩ = some (.int .u64 old) := ⟨_, hrow2.cell (j := N) (by rw [over_length (by rw [hol]; have := HHL2.out; omega)]; have := HHL2.out; omega)⟩
        have hfR := hrow2.free N
        have hrow3 : Row (w2.setCell ⟨gh, N, none⟩ (.int .u64 (c : Int))) gh .u64 106 (over hs' 0 (outs ++ [c])) := by
          rw [← hoh]
          exact hrow2.set N c
        have hx3 : Ext (fun b => b = gh) wc (w2.setCell ⟨gh, N, none⟩ (.int .u64 (c : Int))) := Ext.setCell (D := fun b => b = gh) (p := ⟨gh, N, none⟩) hx2 (fun _ => rfl) _
        have hcc := hrow3.cell (j := N) (by rw [over_length (by rw [List.length_append, hol]; have := HHL2.out; simp; omega)]; have := HHL2.out; omega)
        have hvalN : (over hs' 0 (outs ++ [c]))[N]'(by rw [over_length (by rw [List.length_append, hol]; have := HHL2.out; simp; omega)]; have := HHL2.out; omega) = c := by
          have h1 := over_getElem? (zs := hs') (outs := outs ++ [c]) (o := 0) (by rw [List.length_append, hol]; have := HHL2.out; simp; omega) N
          rw [if_neg (Nat.not_lt_zero _), if_pos (by rw [List.length_append, hol]; simp), Nat.sub_zero, ← hol, List.getElem?_concat_length, hol] at h1
          exact (List.getElem?_eq_some_iff.1 h1).2
        rw [hvalN] at hcc
        -- the product's words
        have hc0 : ¬ j < m → c = 0 := by
          intro hj2
          have hS := HO.out.top (by have := HJM.out; omega)
          have hq2 : q ≤ 1 := by have := HG2.out; rw [Nat.div_eq_of_lt hS] at this; omega
          have hVN : V < 18446744073709551616 ^ N := by
            have := valD_lt_pow HVW.out
            rwa [hvl, HN.out, hV] at this
          have h1 : V * q ≤ V * 1 := Nat.mul_le_mul_left _ hq2
          rcases Nat.eq_zero_or_pos c with h | h
          · exact h
          · exfalso
            have h2 : 18446744073709551616 ^ N * 1 ≤ 18446744073709551616 ^ N * c := Nat.mul_le_mul_left _ h
            rw [Nat.mul_one] at h1 h2
            omega
        have hPl : valD 18446744073709551616 ((outs ++ [c]).take (winL N m j)) = q * V := by
          unfold winL
          by_cases hj2 : j < m
          · rw [if_pos hj2, List.take_of_length_le (by rw [List.length_append, hol]; exact Nat.le_refl _), valD_append, hol]
            show _ + _ * (c + 18446744073709551616 * 0) = _
            rw [Nat.mul_zero, Nat.add_zero, hval, Nat.add_zero, Nat.mul_comm]
          · rw [if_neg hj2, ← hol, List.take_left, Nat.mul_comm]
            have := hval
            rw [hc0 hj2, Nat.mul_zero, Nat.add_zero, Nat.add_zero] at this
            exact this
        obtain ⟨l, hle⟩ : ∃ l, winL N m j = l := ⟨_, rfl⟩
        have hl1 : l = N ∨ l = N + 1 := by rw [← hle]; unfold winL; split <;> omega
        have hjl : j + l ≤ N + m := by rw [← hle]; unfold winL; have := HJM.out; split <;> omega
        rw [hle] at hPl
        have HLE := Lib.hid hle
        have HPL := Lib.hid hPl
        have HR3 := Lib.hid hrow3
        have HX3 := Lib.hid hx3
        have HOL := Lib.hid hol
        have HOW := Lib.hid how
        obtain ⟨wB, hwB⟩ : ∃ wB, w2.setCell ⟨gh, N, none⟩ (.int .u64 (c : Int)) = wB := ⟨_, rfl⟩
        have HWB := Lib.hid hwB
        rw [hwB] at hcc HR3 HX3
        have hgug : gu ≠ gh := by omega
        have hgqg : gq ≠ gh := by omega
        have hub := row_beside HUR.out hx3 hgug
        have hqb := row_beside HQR.out hx3 hgqg
        have hvb := HVR.out.ext1 hx3 (fun a ha => by obtain rfl := Option.some.inj ha; exact hvgh)
        have hx4 := HX.out.trans' hx3 (fun i _ h => .inr (.inr h))
        rw [hwB] at hub hqb hvb hx4
        have HUB := Lib.hid hub
        have HQB := Lib.hid hqb
        have HVB := Lib.hid hvb
        have HX4 := Lib.hid hx4
        clear hoh hrow2 hrow3 hx2 hx3 hs2 hval hvalN hol how hPl hle hub hqb hvb hx4
        go_upto_region 26 with fail
        have hjN : (j : Int) + ((N : Int) + 1) = ((pn + 1 : Nat) : Int) := by omega
        have HC0 := Lib.hid hc0
        have HLM : Hid (L = N + m) := Lib.hid (by have := HLL.out; have := HUL.out; have := HN.out; omega)
        clear hcR hfR hwB hc0
        go_cut [128] from 45 to 200 (fun bv wx => bv = .bool (decide (¬ j < m)) ∧ wx = wB)
        case first =>
          by_cases hjm2 : j < m
          · have hgt : ¬ (L : Int) < (j : Int) + ((N : Int) + 1) := by have := HLM.out; omega
            clear hjN
            go_wp2_with fail
            go_meet
            exact ⟨by rw [decide_eq_false (not_not_intro hjm2)], rfl⟩
          · have hgt : (L : Int) < (j : Int) + ((N : Int) + 1) := by have := HLM.out; omega
            have hcz := HC0.out hjm2
            subst hcz
            clear hjN
            go_wp2_with fail
            go_meet
            exact ⟨by rw [decide_eq_true hjm2], rfl⟩
        case rest =>
        obtain ⟨rfl, rfl⟩ := hcut
        clear hcc hjN
        go_upto_if 128 with fail
        go_cut [21] from 45 to 200 (fun lv wx => lv = .int .i64 (l : Int) ∧ wx = wc)
        case first =>
          by_cases hjm2 : j < m
          · have hl : l = N + 1 := by rw [← HLE.out]; unfold winL; rw [if_pos hjm2]
            rw [decide_eq_false (not_not_intro hjm2)]
            go_wp2_with fail
            go_meet
            exact ⟨by rw [hl]; rfl, rfl⟩
          · have hl : l = N := by rw [← HLE.out]; unfold winL; rw [if_neg hjm2]
            rw [decide_eq_true hjm2]
            go_wp2_with fail
            go_meet
            exact ⟨by rw [hl], rfl⟩
        case rest =>
        obtain ⟨rfl, rfl⟩ := hcut
        obtain ⟨ws, hws⟩ : ∃ ws, (us'.drop j).take l = ws := ⟨_, rfl⟩
        obtain ⟨P, hP⟩ : ∃ P, (outs ++ [c]).take l = P := ⟨_, rfl⟩
        have hulN := HINV.out.ulen
        have hwl : ws.length = l := by rw [← hws, List.length_take, List.length_drop, hulN]; omega
        have hPlen : P.length = l := by rw [← hP, List.length_take, List.length_append, HOL.out]; simp; omega
        have hwS : valD 18446744073709551616 ws = S := by rw [← hws, ← HLE.out]; exact HO.out.sect
        have hPV := HPL.out
        rw [hP] at hPV
        have hwsw : ∀ d ∈ ws, d < 18446744073709551616 := by rw [← hws]; exact all_take (all_drop HINV.out.uw j) l
        have hPw : ∀ d ∈ P, d < 18446744073709551616 := by
          rw [← hP]
          refine all_take (fun d hd => ?_) l
          rcases List.mem_append.1 hd with h | h
          · exact HOW.out d h
          · rw [List.mem_singleton.1 h]; exact hcB
        have hdrop : (us' ++ rest).drop j = ws ++ ((us'.drop j).drop l ++ rest) := by
          rw [List.drop_append_of_le_length (by omega), ← List.append_assoc, ← hws, List.take_append_drop]
        have hPrd : Rd wc (some ⟨gh, 0, none⟩) (nums .u64 P) := by
          have h1 := (HR3.out.rd 0).take l
          rw [List.drop_zero] at h1
          have e : (over hs' 0 (outs ++ [c])).take l = P := by
            unfold over
            rw [List.take_zero, List.nil_append, List.take_append_of_le_length (by rw [List.length_append, HOL.out]; simp; omega), hP]
          rw [e] at h1
          exact h1
        have hSB0 := subVV_walk gu j (us' ++ rest) ws P (some ⟨gu, j, none⟩) (some ⟨gh, 0, none⟩) (cu - j) (cu - j) ch wc.drew (HUB.out.drew 1) (.inl ⟨rfl, _, hdrop⟩) (.inr ⟨(show Rd wc.drew _ _ from hPrd), fun a ha => by obtain rfl := Option.some.inj ha; exact fun h => hgug h.symm⟩) (hPlen.trans hwl.symm)
          (by rw [List.length_append, hwl]; omega) hwsw hPw (by rw [hwl]; omega) (by have := HJM.out; omega)
        have hSB : ∀ n, n = l → Calls Tryz.prog 140 #[.slice (some ⟨gu, j, none⟩) n (cu - j), .slice (some ⟨gu, j, none⟩) n (cu - j), .slice (some ⟨gh, 0, none⟩) l ch] wc.drew (VvPost wc.drew gu j (us' ++ rest) ws P SubL) := by
          intro n hn
          rw [hn]
          have := hSB0
          rw [hwl] at this
          exact this
        have HSB := Lib.hid hSB
        have HWL := Lib.hid hwl
        have HWS := Lib.hid hwS
        have HPV := Lib.hid hPV
        have HDR := Lib.hid hdrop
        have hLN : L = N + m := HLM.out
        obtain ⟨pl, hpl⟩ : ∃ pl, j + l = pl := ⟨_, rfl⟩
        have hpli : (pl : Int) - j = (l : Int) := by omega
        have hwp : IntKind.i64.wrap ((j : Int) + l) = (pl : Int) := by rw [IntKind.wrap_i64]; omega
        have hwp2 : IntKind.i64.wrap ((l : Int) + j) = (pl : Int) := by rw [IntKind.wrap_i64]; omega
        have hpl1 : (j : Int) ≤ pl := by omega
        have hpl2 : (pl : Int) ≤ cu := by omega
        have hpl3 : (0 : Int) ≤ pl := by omega
        have hjcu : ¬ j = cu := by omega
        have hjcu2 : ¬ cu = j := by omega
        have hlch : (l : Int) ≤ ch := by omega
        have hl0 : (0 : Int) ≤ l := by omega
        have HLEN := Lib.hid (show pl - j = l by omega)
        have HPLE := Lib.hid hpl
        clear hSB0 hSB hwl hPlen hwS hPV hwsw hPw hdrop hPrd hws hP hulN hpl hLN
        go_upto_region 28 with fail
        go_region_held3 (fun _ => True) (first | trivial)
          (first
            | (go_at_call 140; (with_reducible refine (HSB.out (pl - j) HLEN.out).mono ?_); rintro e w2 ⟨bb, O, rfl, hbb, hOl, hOw, hrow4, hx5, hs5, hv5⟩; have HROW4 := Lib.hid hrow4; have HOL4 := Lib.hid hOl; have HOW4 := Lib.hid hOw; have HV5 := Lib.hid hv5; have HX5 := Lib.hid hx5; clear hrow4 hOl hOw hv5 hx5 hs5))
        obtain ⟨Q, hQ⟩ : ∃ Q, S / V = Q := ⟨_, rfl⟩
        have HQE := Lib.hid hQ
        have hVp := HO.out.Vpos
        clear hpli hwp hwp2 hpl1 hpl2 hpl3 hQ
        go_upto_if 148 with fail
        go_cut [15] from 45 to 200 (fun qv wx => qv = .int .u64 (Q : Int) ∧ ∃ R, R.length = l ∧ (∀ d ∈ R, d < 18446744073709551616) ∧ valD 18446744073709551616 R = S % V ∧ Row wx gu .u64 106 (over (us' ++ rest) j R) ∧ Ext (fun b => b = gu) wc wx)
        case first =>
          as_aux_lemma =>
            rcases (show bb = 0 ∨ bb = 1 by omega) with rfl | rfl
            · have hv := HV5.out
              unfold SubL at hv
              rw [Nat.mul_zero, Nat.add_zero, HWS.out, HPV.out] at hv
              obtain ⟨e1, e2⟩ := step_clean hVp HG1.out hv
              have HE1 := Lib.hid e1
              have HE2 := Lib.hid e2
              clear hv e1 e2
              go_wp2_with fail
              go_meet
              exact ⟨by rw [HE1.out, HQE.out], O, HOL4.out.trans HWL.out, HOW4.out, HE2.out, HROW4.out, Ext.trans (Ext.drew (Ext.refl _ wc)) HX5.out⟩
            · have hv := HV5.out
              unfold SubL at hv
              have hOl2 : O.length = l := HOL4.out.trans HWL.out
              rw [HWL.out, HWS.out, HPV.out] at hv
              have hNle : N ≤ O.length := by rw [hOl2]; rcases hl1 with h | h <;> omega
              have hONl : (O.take N).length = N := by rw [List.length_take]; omega
              have hulN := HINV.out.ulen
              have hjO : j + O.length ≤ us'.length := by rw [hOl2]; omega
              have hjO2 : j + O.length ≤ (us' ++ rest).length := by rw [List.length_append]; omega
              have hZd : (over (us' ++ rest) j O).drop j = O.take N ++ (O.drop N ++ (us' ++ rest).drop (j + O.length)) := by
                unfold over
                rw [List.append_assoc, List.drop_append_of_le_length (by rw [List.length_take, List.length_append]; omega), List.drop_of_length_le (by rw [List.length_take, List.length_append]; omega), List.nil_append, ← List.append_assoc, List.take_append_drop]
              have hAD0 := addVV_walk gu j (over (us' ++ rest) j O) (O.take N) vs (some ⟨gu, j, none⟩) (some v) (cu - j) (cu - j) cv w2.drew (HROW4.out.drew 1) (.inl ⟨rfl, _, hZd⟩) (.inr ⟨(show Rd w2.drew (some v) (nums .u64 vs) from Rd.ext1 (w := wc.drew) (w' := w2) (show Rd wc.drew (some v) (nums .u64 vs) from HVB.out) HX5.out (fun a ha => by obtain rfl := Option.some.inj ha; exact hvu)), fun a ha => by obtain rfl := Option.some.inj ha; exact hvu⟩)
                (by rw [hvl, hONl]; exact HN.out) (by rw [over_length hjO2, hONl, List.length_append]; omega) (fun d hd => HOW4.out d (List.mem_of_mem_take hd)) HVW.out (by rw [hONl]; omega) (by have := HJM.out; omega)
              have hAD : ∀ n, n = N → Calls Tryz.prog 137 #[.slice (some ⟨gu, j, none⟩) n (cu - j), .slice (some ⟨gu, j, none⟩) n (cu - j), .slice (some v) N cv] w2.drew (VvPost w2.drew gu j (over (us' ++ rest) j O) (O.take N) vs AddL) := by
                intro n hn
                rw [hn]
                have := hAD0
                rw [hONl] at this
                exact this
              have HAD := Lib.hid hAD
              have hpnj : (pn : Int) - j = (N : Int) := by omega
              have hpn3 : (j : Int) ≤ pn := by omega
              have hpnE := HPN.out
              have hpn4 : (pn : Int) ≤ cu := by have := HLM.out; have := HJM.out; omega
              have hpn5 : (0 : Int) ≤ pn := by omega
              have hwpn : IntKind.i64.wrap (pn : Int) = (pn : Int) := by rw [IntKind.wrap_i64]; omega
              have HLENN := Lib.hid (show pn - j = N by omega)
              have HHV := Lib.hid hv
              have HOL5 := Lib.hid hOl2
              have HONL := Lib.hid hONl
              have HJO2 := Lib.hid hjO2
              clear hv hOl2 hNle hONl hulN hjO hjO2 hZd hAD0 hAD hpnE
              go_upto_region 30 with fail
              go_region_held3 (fun _ => True) (first | trivial)
                (first
                  | (go_at_call 137; (with_reducible refine (HAD.out (pn - j) HLENN.out).mono ?_); rintro e w3 ⟨c2, P2, rfl, hc2, hP2l, hP2w, hrow6, hx6, hs6, hv6⟩; have HROW6 := Lib.hid hrow6; have HPL6 := Lib.hid hP2l; have HPW6 := Lib.hid hP2w; have HV6 := Lib.hid hv6; have HX6 := Lib.hid hx6; clear hrow6 hP2l hP2w hv6 hx6 hs6))
              clear hpnj hpn3 hpn4 hwpn
              have hP2N : P2.length = N := HPL6.out.trans HONL.out
              have hv6 := HV6.out
              unfold AddL at hv6
              rw [HONL.out, hV] at hv6
              have hOlt : valD 18446744073709551616 (O.take N) < 18446744073709551616 ^ N := by
                have := valD_lt_pow (all_take HOW4.out N)
                rwa [HONL.out] at this
              have hPlt : valD 18446744073709551616 P2 < 18446744073709551616 ^ N := by
                have := valD_lt_pow HPW6.out
                rwa [hP2N] at this
              have hVX : V ≤ 18446744073709551616 ^ N := by
                have := valD_lt_pow HVW.out
                rw [hvl, HN.out, hV] at this
                exact Nat.le_of_lt this
              have hxx : Ext (fun b => b = gu) wc w3 := ((Ext.refl _ wc).drew.trans HX5.out).drew.trans HX6.out
              rcases hl1 with hlN | hlN
              · have hsb := step_back (Oh := 0) (X := 18446744073709551616 ^ N) (b := 1) hVp hVX HG2.out (by have hh := HHV.out; rw [hlN] at hh; rw [List.take_of_length_le (show O.length ≤ N by rw [HOL5.out, hlN]; exact Nat.le_refl _), Nat.mul_zero, Nat.add_zero]; exact hh) hOlt (by decide) hPlt hv6
                obtain ⟨e1, e2, e3⟩ := hsb
                have hqi : (q : Int) - 1 = (Q : Int) := by have := HQE.out; omega
                have hwQ : IntKind.u64.wrap (Q : Int) = (Q : Int) := by rw [IntKind.wrap_u64]; have := HQE.out; omega
                have hnl : ¬ (N : Int) < l := by omega
                have HE2 := Lib.hid e2
                have HP2N := Lib.hid hP2N
                have HXX := Lib.hid hxx
                have HLN := Lib.hid hlN
                clear hv6 hOlt hPlt hVX hxx e1 e2 e3 hP2N hlN
                go_wp2_with fail
                go_meet
                refine ⟨rfl, P2, by rw [HP2N.out, HLN.out], HPW6.out, HE2.out, ?_, HXX.out⟩
                have h1 := HROW6.out
                rw [over_twice HJO2.out (by rw [HP2N.out, HOL5.out, HLN.out])] at h1
                exact h1
              · have hNO : N < O.length := by rw [HOL5.out, hlN]; omega
                obtain ⟨Oh, hOh⟩ : ∃ Oh, O[N] = Oh := ⟨_, rfl⟩
                have hOhB : Oh < 18446744073709551616 := by rw [← hOh]; exact HOW4.out _ (List.getElem_mem _)
                have hsplit : valD 18446744073709551616 O = valD 18446744073709551616 (O.take N) + 18446744073709551616 ^ N * Oh := by
                  have h1 := valD_take_succ (b := 18446744073709551616) hNO
                  rw [List.take_of_length_le (by rw [HOL5.out, hlN]; exact Nat.le_refl _), hOh] at h1
                  exact h1
                have hsb := step_back (Oh := Oh) (X := 18446744073709551616 ^ N) (b := 18446744073709551616) hVp hVX HG2.out (by have := HHV.out; rw [hsplit, hlN, Nat.mul_one, Nat.pow_succ] at this; exact this) hOlt hOhB hPlt hv6
                obtain ⟨e1, e2, e3⟩ := hsb
                have hqi : (q : Int) - 1 = (Q : Int) := by have := HQE.out; omega
                have hwQ : IntKind.u64.wrap (Q : Int) = (Q : Int) := by rw [IntKind.wrap_u64]; have := HQE.out; omega
                have hnl : (N : Int) < l := by omega
                have hzlen : j + (O.take N).length ≤ (over (us' ++ rest) j O).length := by rw [over_length HJO2.out, HONL.out]; have := HJO2.out; omega
                have hP2z : j + P2.length ≤ (over (us' ++ rest) j O).length := by rw [over_length HJO2.out, hP2N]; have := HJO2.out; omega
                have hpnz : pn < (over (over (us' ++ rest) j O) j P2).length := by rw [over_length hP2z, over_length HJO2.out]; have := HJO2.out; have := HPN.out; omega
                have hcp := HROW6.out.cell (j := pn) hpnz
                have hgp : (over (over (us' ++ rest) j O) j P2)[pn]'hpnz = Oh := by
                  have h1 := over_getElem? hP2z pn
                  rw [if_neg (by have := HPN.out; omega), if_neg (by rw [hP2N]; have := HPN.out; omega), over_getElem? HJO2.out pn, if_neg (by have := HPN.out; omega), if_pos (by have := HPN.out; omega), show pn - j = N by have := HPN.out; omega, List.getElem?_eq_getElem hNO, hOh] at h1
                  exact (List.getElem?_eq_some_iff.1 h1).2
                rw [hgp] at hcp
                have hfp := HROW6.out.free pn
                have hset : Row (w3.setCell ⟨gu, pn, none⟩ (.int .u64 0)) gu .u64 106 (over (us' ++ rest) j (P2 ++ [0])) := by
                  have h1 := HROW6.out.set pn 0
                  rw [← HPN.out, over_again HJO2.out (a := N) (by rw [HOL5.out, hlN]) hP2N] at h1
                  rw [← HPN.out]
                  exact h1
                have hwz : IntKind.u64.wrap ((Oh : Int) + c2) = 0 := by rw [IntKind.wrap_u64]; omega
                have hpnL : (pn : Int) < L := by have := HLM.out; have := HPN.out; omega
                have hpn5' : (0 : Int) ≤ pn := by omega
                have HE2 := Lib.hid e2
                have HP2N := Lib.hid hP2N
                have HXX := Lib.hid hxx
                have HSET := Lib.hid hset
                clear hv6 hOlt hPlt hVX hxx e1 e2 e3 hP2N hNO hOh hOhB hsplit hzlen hP2z hpnz hgp hset
                go_wp2_with fail
                go_meet
                refine ⟨rfl, P2 ++ [0], by rw [List.length_append, HP2N.out, hlN]; rfl, ?_, by rw [valD_zero_end]; exact HE2.out, HSET.out, Ext.setCell (D := fun b => b = gu) (p := ⟨gu, pn, none⟩) HXX.out (fun _ => rfl) _⟩
                intro d hd
                rcases List.mem_append.1 hd with h | h
                · exact HPW6.out d h
                · rw [List.mem_singleton.1 h]; decide
        case rest =>
        as_aux_lemma =>
          obtain ⟨rfl, R, hRl, hRw, hRv, hrowR, hxR⟩ := hcut
          have hQB : Q < 18446744073709551616 := by have := HG1.out; rw [HQE.out] at this; omega
          obtain ⟨hinv', htop⟩ := db_done HINV.out HO.out (by rw [HLE.out]; exact hRl) hRw hRv (by rw [HQE.out]; exact hQB)
          rw [HQE.out] at hinv' htop
          have hulN := HINV.out.ulen
          have hjR : j + R.length ≤ us'.length := by rw [hRl]; omega
          rw [over_left hjR] at hrowR
          have hp1N : j + N - 1 = p1 := by have := HP1.out; have := HN.out; omega
          have hp1l : p1 < (over us' j R).length := by rw [over_length hjR]; omega
          have cp1 := row_left hrowR hp1l
          have hgd : (over us' j R).getD (j + N - 1) 0 = (over us' j R)[p1] := by rw [hp1N, List.getD_eq_getElem?_getD, List.getElem?_eq_getElem hp1l]; rfl
          obtain ⟨un, hun⟩ : ∃ un, (over us' j R)[p1] = un := ⟨_, rfl⟩
          rw [hun] at cp1 hgd
          have hqW := row_beside HQB.out hxR hqu
          have hhW := row_beside HR3.out hxR (fun h => hgug h.symm)
          have hxW := HX4.out.trans' hxR (fun i _ h => .inl h)
          have HINV2 := Lib.hid hinv'
          have HTOP := Lib.hid htop
          have HROWR := Lib.hid hrowR
          have HGD := Lib.hid hgd
          have HQW := Lib.hid hqW
          have HHW := Lib.hid hhW
          have HXW := Lib.hid hxW
          have hhl3 : N + 1 ≤ (over hs' 0 (outs ++ [c])).length := by rw [over_length (by rw [List.length_append, HOL.out]; have := HHL2.out; simp; omega)]; exact HHL2.out
          have HHL3 := Lib.hid hhl3
          by_cases hjm2 : j < m
          · have hjmb : ((j : Int) == m) = false := beq_eq_false_iff_ne.2 (by omega)
            have hjmi : (j : Int) < m := by omega
            have hfq := hqW.free j
            have hlq : j < (over zq (min (j + 1) m) ds).length := by rw [over_length (by have := HINV.out.dlen; omega)]; omega
            obtain ⟨oldq, hcq2⟩ : ∃ oldq : Nat, wc.cell? ⟨gq, j, none⟩ = some (.int .u64 oldq) := ⟨_, hqW.cell (j := j) hlq⟩
            have hqset : Row (wc.setCell ⟨gq, j, none⟩ (.int .u64 (Q : Int))) gq .u64 106 (over zq (min j m) (Q :: ds)) := by
              have h1 := hqW.set j Q
              rw [Nat.min_eq_left (by omega), over_set_pre (by omega)] at h1
              rw [Nat.min_eq_left (by omega)]
              exact h1
            have HQS := Lib.hid hqset
            have hi2 := HINV2.out
            rw [if_pos hjm2] at hi2
            have HI2 := Lib.hid hi2
            clear hinv' htop hulN hjR hrowR hp1N hp1l hgd hun hqW hhW hxW hhl3 hlq hqset hi2 hRl hRw hRv hxR hQB
            go_wp2_with fail
            exact ⟨⟨j, over us' j R, Q :: ds, _, rfl, by rw [HGD.out], HI2.out, HROWR.out.other _ (fun h => hqu h.symm), HQS.out, HHW.out.other _ (fun h => hgqg h.symm), HHL3.out, Ext.setCell (D := fun b => b = gu ∨ b = gq ∨ b = gh) (p := ⟨gq, j, none⟩) HXW.out (fun _ => .inr (.inl rfl)) _⟩, by simp only [idxUp]; omega⟩
          · have hjeq : j = m := by have := HJM.out; omega
            have hjmb : ((j : Int) == m) = true := by rw [hjeq]; exact beq_self_eq_true _
            have hmm : ((m : Int) == m) = true := beq_self_eq_true _
            have hQ0 := htop hjm2
            clear hjeq
            have hQb : ((Q : Int) == 0) = true := by rw [hQ0]; rfl
            have hi2 := HINV2.out
            rw [if_neg hjm2] at hi2
            have HI2 := Lib.hid hi2
            have hq2 := HQW.out
            rw [show min (j + 1) m = min j m by have := HJM.out; omega] at hq2
            have HQ2 := Lib.hid hq2
            clear hinv' htop hulN hjR hrowR hp1N hp1l hgd hun hqW hhW hxW hhl3 hi2 hq2 hRl hRw hRv hxR hQB hQ0
            go_wp2_with fail
            exact ⟨⟨j, over us' j R, ds, _, rfl, by rw [HGD.out], HI2.out, HROWR.out, HQ2.out, HHW.out, HHL3.out, HXW.out⟩, by simp only [idxUp]; omega⟩
end Go.Proofs.YtapfolgiafnllaaGreatDoor
