/-
  math/big's divLarge: shifts, then the schoolbook division.
-/
import Derived.Test.YtapfolgiafnllaaGreatDoorBn24Z
import Derived.Test.YtapfolgiafnllaaGreatDoorBn14Z
import Derived.Test.YtapfolgiafnllaaGreatDoorBn02Z
import Derived.Test.YtapfolgiafnllaaGreatDoorBn15Z
import Derived.Test.YtapfolgiafnllaaGreatDoorItoa4Z
namespace Go.Proofs.YtapfolgiafnllaaGreatDoor
open Go.RowKit

def DivIs (w : World) : Prop := w.cell? ⟨8, 0, none⟩ = some (.int .i64 40)
theorem DivIs.lt {w : World} (h : DivIs w) : 8 < w.heap.size := World.block_lt_of_cell? w _ h
theorem DivIs.below {w w' : World} {B : Nat} (h : DivIs w) (hb : Below B w w') (hB : 8 < B) : DivIs w' := (hb.cell (p := ⟨8, 0, none⟩) (by exact hB)).trans h
theorem makeZero_walk (n : Nat) (w : World) (h0 : 0 < n) (hn : n ≤ 90000) :
    Calls Tryz.prog 121 #[.slice none 0 0, .int .i64 n] w fun e w' => ∃ R, e = .returned (.slice (some ⟨w.heap.size, 0, none⟩) n R) ∧ n ≤ R ∧ R ≤ n + 4 ∧ Row w' w.heap.size .u64 106 (List.replicate R 0) ∧ Below w.heap.size w w' ∧ w'.heap.size = w.heap.size + 1 := by
  refine (make_new_walk none 0 0 n w (by omega) (by omega) (Nat.le_refl _)).mono ?_
  rintro e w1 ⟨rfl, rfl⟩
  have hroom : n ≤ roomFor n ∧ roomFor n ≤ n + 4 := by unfold roomFor; split <;> omega
  exact ⟨_, rfl, hroom.1, hroom.2, row_made w .u64 _ 106, below_a1 _ _, heap_size_alloc _ _⟩
theorem OwnNat.rest {B s : Nat} {w w' : World} {A : Option Addr} {c N : Nat} (h : OwnNat B w A c N) (hr : RestPost w s w') : OwnNat B w' A c N := by
  rcases h with h | ⟨g, zs, h1, h2, hrow, h3, h4, h5⟩
  · exact .inl h
  · exact .inr ⟨g, zs, h1, h2, hr.row hrow, h3, h4, h5⟩
/-- Words in a block of their own, and the number that they are. -/
theorem own_of_row {B g : Nat} {w : World} {ds rest : List Nat} (h : Row w g .u64 106 (ds ++ rest)) (hw : ∀ d ∈ ds, d < 18446744073709551616) (hg : B ≤ g) (hl : (ds ++ rest).length ≤ 100000) : OwnNat B w (some ⟨g, 0, none⟩) (ds ++ rest).length (valD 18446744073709551616 ds) := by
  refine .inr ⟨g, _, rfl, rfl, h, ?_, hg, hl⟩
  obtain ⟨r0, hr0⟩ := trimN_prefix ds
  rw [wds_trim hw] at hr0
  exact ⟨r0 ++ rest, (congrArg (· ++ rest) hr0).trans (List.append_assoc _ _ _)⟩

theorem over_all {zs outs : List Nat} : over zs 0 outs = outs ++ zs.drop outs.length := by simp [over]
theorem lsh_all {s : Nat} (hs : s < 64) {xs : List Nat} (hx : ∀ d ∈ xs, d < 18446744073709551616) : valD 18446744073709551616 (lshC s 0 xs ++ [lshOut s 0 xs]) = valD 18446744073709551616 xs * 2 ^ s ∧ (∀ d ∈ lshC s 0 xs ++ [lshOut s 0 xs], d < 18446744073709551616) := by
  refine ⟨?_, fun d hd => ?_⟩
  · rw [valD_append, lshC_length]
    show _ + _ * (lshOut s 0 xs + 18446744073709551616 * 0) = _
    rw [Nat.mul_zero, Nat.add_zero, lshC_val (Nat.le_of_lt hs), Nat.add_zero]
  · have hp : 2 ^ s ≤ 2 ^ 64 := Nat.pow_le_pow_right (by decide) (Nat.le_of_lt hs)
    rcases List.mem_append.1 hd with h | h
    · exact lshC_lt hs 0 xs (Nat.pow_pos (by decide)) hx d h
    · rw [List.mem_singleton.1 h]
      exact Nat.lt_of_lt_of_le (lshOut_lt hs 0 xs (Nat.pow_pos (by decide)) hx) hp
/-- A divisor, shifted so that its first bit is set. -/
theorem lsh_norm {s k : Nat} (hs : s < 64) {ys : List Nat} (_hy : ∀ d ∈ ys, d < 18446744073709551616) (hl : ys.length = k + 2) (h1 : 9223372036854775808 ≤ ys[k + 1] * 2 ^ s) (h2 : ys[k + 1] * 2 ^ s < 18446744073709551616) :
    valD 18446744073709551616 (lshC s 0 ys) = valD 18446744073709551616 ys * 2 ^ s ∧ 9223372036854775808 ≤ (lshC s 0 ys)[k + 1]'(by rw [lshC_length]; omega) := by
  have h0 : lshOut s 0 ys = 0 := by
    rw [lshOut_last s 0 ys (by omega), hl, show k + 2 - 1 = k + 1 by omega, List.getD_eq_getElem?_getD, List.getElem?_eq_getElem (by omega)]
    show ys[k + 1] / 2 ^ (64 - s) = 0
    refine Nat.div_eq_of_lt (Nat.lt_of_mul_lt_mul_left (a := 2 ^ s) ?_)
    rw [pow_split (Nat.le_of_lt hs), Nat.mul_comm]
    exact h2
  have h3 := lshC_val (Nat.le_of_lt hs) 0 ys
  rw [h0, Nat.mul_zero, Nat.add_zero, Nat.add_zero] at h3
  refine ⟨h3, ?_⟩
  rw [lshC_at (by omega), Nat.mod_eq_of_lt h2]
  omega

theorem dl_math {U0 V X Y p Q R : Nat} (hU : U0 = X * p) (hV : V = Y * p) (hp : 0 < p) (hR : R < V) (he : R + V * Q = U0) : Q = X / Y ∧ R / p = X % Y := by
  obtain ⟨e1, e2⟩ := (Nat.div_mod_unique (show 0 < V by omega)).2 ⟨he, hR⟩
  rw [hU, hV] at e1 e2
  rw [Nat.mul_div_mul_right _ _ hp] at e1
  rw [Nat.mul_mod_mul_right] at e2
  exact ⟨e1.symm, by rw [← e2, Nat.mul_div_cancel _ hp]⟩
theorem dl_lt {xs vs : List Nat} {k m sh U0 V : Nat} (hxw : ∀ d ∈ xs, d < 18446744073709551616) (hsh : sh < 64) (hl : vs.length = k + 2) (hm : xs.length = k + 2 + m) (hV : valD 18446744073709551616 vs = V) (hU : U0 = valD 18446744073709551616 xs * 2 ^ sh) (hkv : k + 1 < vs.length) (ht : 9223372036854775808 ≤ vs[k + 1]) : U0 < V * 18446744073709551616 ^ (m + 1) := by
  have h1 := valD_take_succ (b := 18446744073709551616) hkv
  rw [List.take_of_length_le (by omega), hV] at h1
  have h2 : 18446744073709551616 ^ (k + 1) * 9223372036854775808 ≤ V := by
    have := Nat.mul_le_mul_left (18446744073709551616 ^ (k + 1)) ht
    omega
  have h3 := valD_lt_pow hxw
  rw [hm] at h3
  have h4 : 2 ^ sh ≤ 2 ^ 63 := Nat.pow_le_pow_right (by decide) (by omega)
  have h5 : valD 18446744073709551616 xs * 2 ^ sh < 18446744073709551616 ^ (k + 2 + m) * 2 ^ 63 := Nat.mul_lt_mul_of_lt_of_le h3 h4 (Nat.pow_pos (by decide))
  have h6 := Nat.mul_le_mul_right (18446744073709551616 ^ (m + 1)) h2
  have h7 : 18446744073709551616 ^ (k + 1) * 9223372036854775808 * 18446744073709551616 ^ (m + 1) = 18446744073709551616 ^ (k + 2 + m) * 2 ^ 63 := by
    rw [Nat.mul_right_comm, ← Nat.pow_add, show k + 1 + (m + 1) = k + 2 + m by omega]
  rw [hU]
  omega

/-- Behind the shifts. -/
def DlMid (gv gu L k Ru sh : Nat) (xs ys : List Nat) (w : World) (uv : Value) (wx : World) : Prop :=
  uv = .slice (some ⟨gu, 0, none⟩) (L + 1 : Nat) Ru ∧ ∃ us vs restu restv, Row wx gv .u64 106 (vs ++ restv) ∧ vs.length = k + 2 ∧ (∀ d ∈ vs, d < 18446744073709551616) ∧ valD 18446744073709551616 vs = valD 18446744073709551616 ys * 2 ^ sh ∧
    (∃ h : k + 1 < vs.length, 9223372036854775808 ≤ vs[k + 1]) ∧ Row wx gu .u64 106 (us ++ restu) ∧ us.length = L + 1 ∧ (us ++ restu).length = Ru ∧ (∀ d ∈ us ++ restu, d < 18446744073709551616) ∧ valD 18446744073709551616 us = valD 18446744073709551616 xs * 2 ^ sh ∧ Ext (fun b => b = gv ∨ b = gu) w wx
def DlPost (s Q R : Nat) (w : World) (e : Ending) (w' : World) : Prop :=
  ∃ A c B d, e = .returned (.tuple #[.slice A (wds Q).length c, .slice B (wds R).length d]) ∧ OwnNat s w' A c Q ∧ OwnNat s w' B d R ∧ Below s w w' ∧ Stk w' s

set_option maxRecDepth 100000 in
set_option maxHeartbeats 8000000 in
theorem divLarge_walk (s k cx cy : Nat) (xs ys : List Nat) (X Y : Addr) (w : World) (hs : StkNil w s) (hx : Rd w (some X) (nums .u64 xs)) (hy : Rd w (some Y) (nums .u64 ys)) (hxw : ∀ d ∈ xs, d < 18446744073709551616) (hyw : ∀ d ∈ ys, d < 18446744073709551616)
    (hyl : ys.length = k + 2) (hk : k + 2 ≤ 4) (hxl : k + 2 ≤ xs.length) (hxl2 : xs.length ≤ 900) (htop : ∃ h : k + 1 < ys.length, ys[k + 1] ≠ 0) (hXs : X.block ≠ s) (hYs : Y.block ≠ s) (hX : X.block < w.heap.size) (hY : Y.block < w.heap.size)
    (hd : DivIs w) (hds : 8 < s) (_hcx : xs.length ≤ cx) (_hcy : ys.length ≤ cy) :
    Calls Tryz.prog 177 #[.slice none 0 0, .pointer (some ⟨s, 0, none⟩), .slice none 0 0, .slice (some X) xs.length cx, .slice (some Y) ys.length cy] w
      (DlPost s (valD 18446744073709551616 xs / valD 18446744073709551616 ys) (valD 18446744073709551616 xs % valD 18446744073709551616 ys) w) := by
  obtain ⟨htl, ht0⟩ := htop
  obtain ⟨N, hN⟩ : ∃ N, k + 2 = N := ⟨_, rfl⟩
  obtain ⟨k1, hk1⟩ : ∃ k1, k + 1 = k1 := ⟨_, rfl⟩
  obtain ⟨L, hL⟩ : ∃ L, xs.length = L := ⟨_, rfl⟩
  obtain ⟨y1, hy1⟩ : ∃ y1, ys[k + 1] = y1 := ⟨_, rfl⟩
  obtain ⟨a, ha, hc1⟩ := rd_cell hy htl
  obtain rfl := Option.some.inj ha
  rw [hy1] at ht0 hc1
  rw [hk1] at hc1
  have hy1w : y1 < 18446744073709551616 := by rw [← hy1]; exact hyw _ (List.getElem_mem _)
  obtain ⟨n1, n2, n3⟩ := lz_norm ht0 hy1w
  have HNL := Lib.hid (fun w => nlz_walk y1 w hy1w)
  obtain ⟨sh, hsh⟩ : ∃ sh, lz y1 = sh := ⟨_, rfl⟩
  have hnrm : nrm y1 = y1 * 2 ^ sh := by unfold nrm; rw [hsh]
  rw [hnrm] at n1 n2
  rw [hsh] at HNL n3
  obtain ⟨m, hm⟩ : ∃ m, L - N = m := ⟨_, rfl⟩
  have hNi : (N : Int) - 1 = (k1 : Int) := by omega
  have hLi : ((L : Nat) : Int) - N = (m : Int) := by omega
  have HSV := Lib.hid (save_walk s w hs)
  have HST := Lib.hid (stackNatAny_walk s N w hs (by omega) (by omega))
  have HMK := Lib.hid (fun w => makeZero_walk (L + 1) w (by omega) (by omega))
  have hL1 : ((L + 1 : Nat) : Int) = (L : Int) + 1 := by omega
  rw [hL1] at HMK
  have hslt := iter_lt hs
  have hk1N : (k1 : Int) < (N : Int) := by omega
  have hk10 : (0 : Int) ≤ k1 := by omega
  have hN0 : (0 : Int) ≤ N := by omega
  have hN4 : (N : Int) ≤ 4 := by omega
  have hL9 : (L : Int) ≤ 900 := by omega
  have hm9 : (m : Int) ≤ 900 := by omega
  have HX := Lib.hid hx
  have HY := Lib.hid hy
  have HXW := Lib.hid hxw
  have HYW := Lib.hid hyw
  have HD := Lib.hid hd
  have HS := Lib.hid hs
  have HLT := Lib.hid hslt
  have HY1 := Lib.hid hy1
  have HN1 := Lib.hid n1
  have HN2 := Lib.hid n2
  have HMM := Lib.hid hm
  rw [hL, hyl, hN]
  rw [hL] at hxl hxl2
  rw [hyl, hN] at _hcy
  have HLL := Lib.hid hL
  have HNN := Lib.hid hN
  have HK1 := Lib.hid hk1
  clear hx hy hxw hyw hd hs hslt n1 n2 hm hnrm hsh hL hN hk1 hy1
  go_enter_defers Tryz.func177, Tryz.ntmps177
  go_wp2_with fail
  refine HSV.out.mono ?_
  rintro e w1 ⟨rfl, rfl⟩
  go_wp2_with fail
  refine (HNL.out _).mono ?_
  rintro e w1 ⟨rfl, rfl⟩
  go_wp2_with fail
  refine HST.out.mono ?_
  rintro e w1 ⟨gv, cv, vz, rfl, hv1, hv2, hvrow, hvl, hgv, hext, _, hstn⟩
  have hstn := hstn (by omega)
  have hcv : (N : Int) ≤ cv := by omega
  have HVR := Lib.hid hvrow
  have HVL := Lib.hid hvl
  have HEXT := Lib.hid hext
  have HSTN := Lib.hid hstn
  have hsz1 := hext.size
  clear hvrow hvl hext hstn
  go_wp2_with fail
  refine (HMK.out _).mono ?_
  rintro e w2 ⟨Ru, rfl, hRu1, hRu2, hurow, hub, hsz2⟩
  have HUR := Lib.hid hurow
  have HUB := Lib.hid hub
  clear hurow hub
  obtain ⟨gu, hgu⟩ : ∃ gu, w1.heap.size = gu := ⟨_, rfl⟩
  have HGU := Lib.hid hgu
  rw [hgu] at HUR HUB ⊢
  have hRui : (L : Int) + 1 ≤ Ru := by omega
  go_upto_if 40 with fail
  go_cut [2] from 39 to 100 (fun uv wx => DlMid gv gu L k Ru sh xs ys w2 uv wx)
  case first =>
    as_aux_lemma =>
      have hgus : gu ≠ s := by have := HLT.out; omega
      have hgvlt : gv < gu := by have := iter_lt HVR.out; omega
      have hvrow2 : Row w2 gv .u64 106 vz := HVR.out.below (by rw [hgu]; exact HUB.out)
      have hx2 : Rd w2 (some X) (nums .u64 xs) := (HX.out.ext1 HEXT.out (fun a ha => by obtain rfl := Option.some.inj ha; exact hXs)).below (by rw [hgu]; exact HUB.out)
      have hy2 : Rd w2 (some Y) (nums .u64 ys) := (HY.out.ext1 HEXT.out (fun a ha => by obtain rfl := Option.some.inj ha; exact hYs)).below (by rw [hgu]; exact HUB.out)
      have hXgv : X.block ≠ gv := by omega
      have hYgv : Y.block ≠ gv := by omega
      have hXgu : X.block ≠ gu := by omega
      have hys : ys.length = N := hyl.trans HNN.out
      have HYL := Lib.hid hys
      have HVR2 := Lib.hid hvrow2
      have HX2 := Lib.hid hx2
      have HY2 := Lib.hid hy2
      have hLRu : (L : Int) ≤ Ru := by omega
      have hLRu2 : (L : Int) < (L : Int) + 1 := by omega
      have hL0 : (0 : Int) ≤ L := by omega
      by_cases hsh0 : sh = 0
      · subst hsh0
        have hHN1 := HN1.out
        clear hvrow2 hx2 hy2 hys
        go_wp2_with (with_reducible refine wpList_copy_words rfl _ _ 78 78 rfl 106 Tryz.underlying78 infoWordSize _ _ _ _ _ _ rfl rfl gv 0 vz .u64 106 HVR2.out ys (by rw [HYL.out]; exact (Nat.min_self _).symm) (fun h => ⟨rfl, HY2.out⟩) (by rw [HYL.out]; have := HVL.out; omega) ?_)
        intro w3 HG3 hx3 hs3
        have hur3 : Row w3 gu .u64 106 (List.replicate Ru 0) := row_beside HUR.out hx3 (by omega)
        have hx33 := HX2.out.ext1 hx3 (fun a ha => by obtain rfl := Option.some.inj ha; exact hXgv)
        have HUR3 := Lib.hid hur3
        have HX33 := Lib.hid hx33
        have HX3 := Lib.hid hx3
        clear hur3 hx33 hx3
        go_wp2_with (with_reducible refine wpList_copy_words rfl _ _ 78 78 rfl 106 Tryz.underlying78 infoWordSize _ _ _ _ _ _ rfl rfl gu 0 (List.replicate Ru 0) .u64 106 HUR3.out xs (by rw [HLL.out]; exact (Nat.min_self _).symm) (fun h => ⟨rfl, HX33.out⟩) (by rw [HLL.out, List.length_replicate]; omega) ?_)
        intro w4 HG4 hx4 hs4
        have hlen4 : (over (List.replicate Ru 0) 0 xs).length = Ru := by rw [over_length (by rw [HLL.out, List.length_replicate]; omega), List.length_replicate]
        obtain ⟨old, hcL⟩ : ∃ old : Nat, w4.cell? ⟨gu, L, none⟩ = some (.int .u64 old) := ⟨_, HG4.out.cell (j := L) (by rw [hlen4]; omega)⟩
        have hfL := HG4.out.free L
        have hset : Row (w4.setCell ⟨gu, L, none⟩ (.int .u64 0)) gu .u64 106 ((xs ++ [0]) ++ (List.replicate Ru 0).drop (L + 1)) := by
          have h1 := HG4.out.set L 0
          have h2 := over_set (zs := List.replicate Ru 0) (outs := xs) (o := 0) (v := 0) (by rw [HLL.out, List.length_replicate]; omega)
          rw [HLL.out, Nat.zero_add] at h2
          rw [h2, over_all, List.length_append, HLL.out] at h1
          exact h1
        have hvr4 : Row w4 gv .u64 106 (ys ++ vz.drop ys.length) := by
          have h1 := row_beside HG3.out hx4 (by omega)
          rw [over_all] at h1
          exact h1
        have HSET := Lib.hid hset
        have HVR4 := Lib.hid hvr4
        have HX5 : Hid (Ext (fun b => b = gv ∨ b = gu) w2 w4) := Lib.hid ((HX3.out.mono (fun _ _ h => .inl h)).trans' hx4 (fun _ _ h => .inr h))
        clear hset hvr4 hx4 hlen4
        go_wp2_with fail
        go_meet
        refine ⟨rfl, xs ++ [0], ys, (List.replicate Ru 0).drop (L + 1), vz.drop ys.length, HVR4.out.other _ (by show gv ≠ gu; omega), hyl, HYW.out, by rw [Nat.pow_zero, Nat.mul_one], ⟨htl, ?_⟩, HSET.out, by rw [List.length_append, HLL.out]; rfl, ?_, ?_, by rw [valD_zero_end, Nat.pow_zero, Nat.mul_one], Ext.setCell (D := fun b => b = gv ∨ b = gu) (p := ⟨gu, L, none⟩) HX5.out (fun _ => .inr rfl) _⟩
        · rw [HY1.out]
          have := HN1.out
          rwa [Nat.pow_zero, Nat.mul_one] at this
        · rw [List.length_append, List.length_append, List.length_drop, List.length_replicate, HLL.out]; simp; omega
        · intro d hd
          rcases List.mem_append.1 hd with h | h
          · rcases List.mem_append.1 h with h | h
            · exact HXW.out d h
            · rw [List.mem_singleton.1 h]; decide
          · rw [List.eq_of_mem_replicate (List.mem_of_mem_drop h)]; decide
      · have hshb : ((sh : Int) == 0) = false := beq_eq_false_iff_ne.2 (by omega)
        have hLV := lshVU_walk gv vz ys (some Y) cv cy sh w2 hvrow2 hy2 (fun a ha => by obtain rfl := Option.some.inj ha; exact hYgv) (by rw [hys]; have := HVL.out; omega) HYW.out (by omega) (by omega) (by omega) n3
        rw [hys] at hLV
        have HLV := Lib.hid hLV
        clear hvrow2 hx2 hy2 hys hLV
        go_wp2_with fail
        refine HLV.out.mono ?_
        rintro e w3 ⟨rfl, hvr3, hx3, hs3⟩
        have hur3 : Row w3 gu .u64 106 (List.replicate Ru 0) := row_beside HUR.out hx3 (by omega)
        have hLU := lshVU_walk gu (List.replicate Ru 0) xs (some X) Ru cx sh w3 hur3 (HX2.out.ext1 hx3 (fun a ha => by obtain rfl := Option.some.inj ha; exact hXgv)) (fun a ha => by obtain rfl := Option.some.inj ha; exact hXgu) (by rw [HLL.out, List.length_replicate]; omega) HXW.out (by rw [HLL.out]; omega) (by rw [HLL.out]; omega) (by omega) n3
        rw [HLL.out] at hLU
        have HLU := Lib.hid hLU
        have HVR3 := Lib.hid hvr3
        have HX3 := Lib.hid hx3
        obtain ⟨oc, hoc⟩ : ∃ oc, lshOut sh 0 xs = oc := ⟨_, rfl⟩
        have HOC := Lib.hid hoc
        clear hvr3 hx3 hur3 hLU
        go_wp2_with fail
        refine HLU.out.mono ?_
        rintro e w4 ⟨rfl, hur4, hx4, hs4⟩
        rw [HOC.out]
        have hll : (lshC sh 0 xs).length = L := (lshC_length sh 0 xs).trans HLL.out
        have hlen4 : (over (List.replicate Ru 0) 0 (lshC sh 0 xs)).length = Ru := by rw [over_length (by rw [hll, List.length_replicate]; omega), List.length_replicate]
        obtain ⟨old, hcL⟩ : ∃ old : Nat, w4.cell? ⟨gu, L, none⟩ = some (.int .u64 old) := ⟨_, hur4.cell (j := L) (by rw [hlen4]; omega)⟩
        have hfL := hur4.free L
        have hset : Row (w4.setCell ⟨gu, L, none⟩ (.int .u64 (oc : Int))) gu .u64 106 ((lshC sh 0 xs ++ [oc]) ++ (List.replicate Ru 0).drop (L + 1)) := by
          have h1 := hur4.set L oc
          have h2 := over_set (zs := List.replicate Ru 0) (outs := lshC sh 0 xs) (o := 0) (v := oc) (by rw [hll, List.length_replicate]; omega)
          rw [hll, Nat.zero_add] at h2
          rw [h2, over_all, List.length_append, hll] at h1
          exact h1
        have hvr4 : Row w4 gv .u64 106 (lshC sh 0 ys ++ vz.drop (lshC sh 0 ys).length) := by
          have h1 := row_beside HVR3.out hx4 (by omega)
          rw [over_all] at h1
          exact h1
        obtain ⟨a1, a2⟩ := lsh_all n3 HXW.out
        rw [hoc] at a1 a2
        obtain ⟨b1, b2⟩ := lsh_norm n3 HYW.out hyl (by rw [HY1.out]; exact HN1.out) (by rw [HY1.out]; exact HN2.out)
        have hlw : ∀ d ∈ lshC sh 0 ys, d < 18446744073709551616 := lshC_lt n3 0 ys (Nat.pow_pos (by decide)) HYW.out
        have HSET := Lib.hid hset
        have HVR4 := Lib.hid hvr4
        have HA1 := Lib.hid a1
        have HA2 := Lib.hid a2
        have HB1 := Lib.hid b1
        have HB2 := Lib.hid b2
        have HLW := Lib.hid hlw
        have HLLL := Lib.hid hll
        have HX5 : Hid (Ext (fun b => b = gv ∨ b = gu) w2 w4) := Lib.hid ((HX3.out.mono (fun _ _ h => .inl h)).trans' hx4 (fun _ _ h => .inr h))
        clear hset hvr4 hx4 hlen4 hur4 a1 a2 b1 b2 hlw hll hoc
        go_wp2_with fail
        go_meet
        refine ⟨rfl, lshC sh 0 xs ++ [oc], lshC sh 0 ys, (List.replicate Ru 0).drop (L + 1), vz.drop (lshC sh 0 ys).length, HVR4.out.other _ (by show gv ≠ gu; omega), (lshC_length _ _ _).trans hyl, HLW.out, HB1.out, ⟨by rw [lshC_length]; exact htl, HB2.out⟩, HSET.out, by rw [List.length_append, HLLL.out]; rfl, ?_, ?_, HA1.out, Ext.setCell (D := fun b => b = gv ∨ b = gu) (p := ⟨gu, L, none⟩) HX5.out (fun _ => .inr rfl) _⟩
        · rw [List.length_append, List.length_append, List.length_drop, List.length_replicate, HLLL.out]; simp; omega
        · intro d hd
          rcases List.mem_append.1 hd with h | h
          · exact HA2.out d h
          · rw [List.eq_of_mem_replicate (List.mem_of_mem_drop h)]; decide
  case rest =>
    as_aux_lemma =>
      obtain ⟨rfl, us, vs, restu, restv, hvrow, hvl2, hvw, hvv, ⟨hkv, htop2⟩, hurow, hul, hulR, huw, huv, hx⟩ := hcut
      obtain ⟨U0, hU0⟩ : ∃ U0, valD 18446744073709551616 us = U0 := ⟨_, rfl⟩
      obtain ⟨V, hV⟩ : ∃ V, valD 18446744073709551616 vs = V := ⟨_, rfl⟩
      rw [hU0] at huv
      rw [hV] at hvv
      have hgus : s < gu := by have := HLT.out; omega
      have hgvs : s < gv := by have := HLT.out; omega
      have hgvlt : gv < gu := by have := iter_lt HVR.out; omega
      have hguw : gu < w2.heap.size := by omega
      have hxsz := hx.size
      have hlm : xs.length = k + 2 + m := by have := HLL.out; have := HMM.out; have := HNN.out; omega
      have hlt := dl_lt HXW.out n3 hvl2 hlm hV huv hkv htop2
      have hMQ := fun w => makeZero_walk (m + 1) w (by omega) (by omega)
      have hm1 : ((m + 1 : Nat) : Int) = (m : Int) + 1 := by omega
      rw [hm1] at hMQ
      have HMQ := Lib.hid hMQ
      have hstn2 : StkNil wc s := (hx.block s (by have := HLT.out; omega) (by omega)).trans ((HUB.out.block s (by rw [← HGU.out]; have := HLT.out; omega)).trans HSTN.out)
      have hb2 : Below s w wc := ((HEXT.out.below (Nat.le_of_lt HLT.out) (fun b hb => by omega)).trans (HUB.out.mono (by omega))).trans (hx.below (by omega) (fun b hb => by omega))
      have hmq : (0 : Int) ≤ m := by omega
      have hn40 : (N : Int) < 40 := by omega
      have HUROW := Lib.hid hurow
      have HVROW := Lib.hid hvrow
      have HUW := Lib.hid huw
      have HB2 := Lib.hid hb2
      have HSTN2 := Lib.hid hstn2
      clear hMQ hurow hvrow huw hb2 hstn2
      go_wp2_with fail
      refine (aliasNil_walk _ _ _ _).mono ?_
      rintro e w3 ⟨rfl, nd, rfl⟩
      go_wp2_with fail
      refine (HMQ.out _).mono ?_
      rintro e w5 ⟨cq, rfl, hcq1, hcq2, hqrow, hqb, hqs⟩
      have hgqe : (wc.drewN nd).heap.size = wc.heap.size := rfl
      rw [hgqe] at hqrow hqb hqs ⊢
      obtain ⟨gq, hgq⟩ : ∃ gq, wc.heap.size = gq := ⟨_, rfl⟩
      rw [hgq] at hqrow hqb hqs hxsz ⊢
      have hqb' : Below wc.heap.size wc w5 := by rw [hgq]; exact (below_drewN (Below.refl _ _) nd).trans hqb
      have hdc : DivIs w5 := HD.out.below (HB2.out.trans (hqb'.mono (by omega))) hds
      have hdc2 : w5.cell? ⟨8, 0, none⟩ = some (.int .i64 40) := hdc
      have hcqi : (m : Int) + 1 ≤ cq := by omega
      have hDB0 := divBasic_walk gq gu s (m + 1) k cq Ru cv U0 V (List.replicate cq 0) us restu vs ⟨gv, 0, none⟩ w5 hqrow (by rw [List.length_replicate]; omega) (HUROW.out.below hqb') (by rw [hul]; have := HLL.out; omega) (fun d hd => HUW.out d (List.mem_append_left _ hd))
        (by
          have h1 := ((HVROW.out.below hqb').rd 0).take vs.length
          rw [List.drop_zero, List.take_left] at h1
          exact h1) hvl2 hvw ((hqb'.block s (by omega)).trans HSTN2.out) hk (by omega) (by show gv < _; omega) (by show gv ≠ _; omega) (by show gv ≠ _; omega) (by show gv ≠ _; omega) (by omega) (by omega) hgus (by omega) (by have := HLL.out; omega) (by have := HNN.out; omega) hV hU0 hlt htop2
      rw [hul, hvl2, HNN.out] at hDB0
      have HDB := Lib.hid hDB0
      have HHB := Lib.hid (HB2.out.trans (hqb'.mono (B' := s) (by omega)))
      clear hdc hDB0 hqrow hqb hqs hqb' hgqe
      go_wp2_with fail
      refine HDB.out.mono ?_
      rintro e w6 ⟨us2, ds, rfl, hinv, hur6, hqr6, hbel6, hstk6⟩
      have hus2l : us2.length = L + 1 := by have := hinv.ulen; have := HLL.out; have := HNN.out; omega
      have hdl : ds.length = m + 1 := by have := hinv.dlen; rw [Nat.zero_min] at this; exact this
      have hi1 := hinv.lt
      have hi2 := hinv.eq
      rw [Nat.zero_min, Nat.pow_zero] at hi1 hi2
      rw [Nat.mul_one] at hi1
      rw [Nat.one_mul] at hi2
      obtain ⟨q1, q2⟩ := dl_math huv hvv (Nat.pow_pos (by decide) : 0 < 2 ^ sh) hi1 hi2
      rw [over_all] at hqr6
      have hown := own_of_row (B := s) hqr6 hinv.dw (by omega) (by rw [List.length_append, List.length_drop, List.length_replicate, hdl]; omega)
      rw [q1] at hown
      have hcql : (ds ++ (List.replicate cq 0).drop ds.length).length = cq := by rw [List.length_append, List.length_drop, List.length_replicate, hdl]; omega
      rw [hcql] at hown
      have hNQ0 := norm_walk (some ⟨gq, 0, none⟩) cq ds w6 (by omega) (by omega) (by
        have h1 := (hqr6.rd 0).take ds.length
        rw [List.drop_zero, List.take_left] at h1
        exact h1)
      rw [wds_trim hinv.dw, q1, hdl] at hNQ0
      have HNQ := Lib.hid hNQ0
      have HOWN := Lib.hid hown
      have HUR6 := Lib.hid hur6
      have HBB := Lib.hid (HHB.out.trans hbel6)
      have HSTK6 := Lib.hid hstk6
      have HUW2 := Lib.hid hinv.uw
      have HQ2 := Lib.hid q2
      have HUL2 := Lib.hid hus2l
      have hRul : (us2 ++ restu).length = Ru := by rw [List.length_append, hus2l]; rw [List.length_append, hul] at hulR; exact hulR
      have HRUL := Lib.hid hRul
      obtain ⟨Q, hQ⟩ : ∃ Q, valD 18446744073709551616 xs / valD 18446744073709551616 ys = Q := ⟨_, rfl⟩
      obtain ⟨R, hR⟩ : ∃ R, valD 18446744073709551616 xs % valD 18446744073709551616 ys = R := ⟨_, rfl⟩
      rw [hQ] at HNQ HOWN
      rw [hR] at HQ2
      have HQE := Lib.hid hQ
      have HRE := Lib.hid hR
      clear hinv hus2l hdl hi1 hi2 q1 q2 hqr6 hown hcql hNQ0 hur6 hbel6 hstk6 hRul hQ hR hdc2
      have hw1 : (m : Int) + 1 ≤ 1000 := by omega
      go_wp2_with fail
      refine HNQ.out.mono ?_
      rintro e w7 ⟨rfl, rfl⟩
      by_cases hsh0 : sh = 0
      · subst hsh0
        have hNU0 := norm_walk (some ⟨gu, 0, none⟩) Ru us2 w6 (by have := HUL2.out; omega) (by omega) (by
          have h1 := (HUR6.out.rd 0).take us2.length
          rw [List.drop_zero, List.take_left] at h1
          exact h1)
        have hq2 := HQ2.out
        rw [Nat.pow_zero, Nat.div_one] at hq2
        rw [wds_trim HUW2.out, hq2, HUL2.out] at hNU0
        have hownu := own_of_row (B := s) HUR6.out HUW2.out (by omega) (by rw [HRUL.out]; omega)
        rw [hq2, HRUL.out] at hownu
        have HNU := Lib.hid hNU0
        have HOU := Lib.hid hownu
        clear hNU0 hq2 hownu
        go_wp2_with fail
        refine HNU.out.mono ?_
        rintro e w8 ⟨rfl, rfl⟩
        go_wp2_with fail
        refine leaves_cons (f := 167) (args := #[.pointer (some ⟨s, 0, none⟩), .int .i64 0]) (by simp) (by simp [go_sem]) ?_
        refine (restore_d s _ _ HSTK6.out).mono ?_
        rintro e u' w'' ⟨rfl, rfl, hrp⟩
        obtain rfl := HQE.out
        obtain rfl := HRE.out
        exact ⟨_, results_tmp2 rfl _ _ _, _, _, _, _, rfl, HOWN.out.rest hrp, HOU.out.rest hrp, HBB.out.trans (hrp.below (Nat.le_refl _)), hrp.any⟩
      · have hshb : ((sh : Int) == 0) = false := beq_eq_false_iff_ne.2 (by omega)
        have hRS := rshAll_walk gu (us2 ++ restu) (L + 1) Ru Ru sh w6 HUR6.out (by rw [HRUL.out]; omega) (fun d hd => by
          rcases List.mem_append.1 hd with h | h
          · exact HUW2.out d h
          · exact HUW.out d (List.mem_append_right _ h)) (by omega) (by omega) (by omega) n3
        have HRS := Lib.hid hRS
        clear hRS
        go_wp2_with fail
        refine HRS.out.mono ?_
        rintro e w8 ⟨⟨cc, rfl⟩, hur8, hx8, hs8⟩
        have htk : (us2 ++ restu).take (L + 1) = us2 := by rw [← HUL2.out, List.take_left]
        rw [htk, over_all, rshC_length, HUL2.out, ← HUL2.out, List.drop_left] at hur8
        have hrl : (rshC sh us2).length = L + 1 := (rshC_length _ _).trans HUL2.out
        have hrw := rshC_lt (Nat.le_of_lt n3) (by omega) us2 HUW2.out
        have hrv := rshC_val (Nat.le_of_lt n3) us2
        rw [HQ2.out] at hrv
        have hNU0 := norm_walk (some ⟨gu, 0, none⟩) Ru (rshC sh us2) w8 (by omega) (by omega) (by
          have h1 := (hur8.rd 0).take (rshC sh us2).length
          rw [List.drop_zero, List.take_left] at h1
          exact h1)
        rw [wds_trim hrw, hrv, hrl] at hNU0
        have hrul : (rshC sh us2 ++ restu).length = Ru := by rw [List.length_append, hrl, ← HUL2.out, ← List.length_append, HRUL.out]
        have hownu := own_of_row (B := s) hur8 hrw (by omega) (by rw [hrul]; omega)
        rw [hrv, hrul] at hownu
        have hownq : OwnNat s w8 (some ⟨gq, 0, none⟩) cq Q := by
          rcases HOWN.out with ⟨h, _⟩ | ⟨g, zs, h1, h2, hrow, h3, h4, h5⟩
          · exact absurd h (by simp)
          · have hge : gq = g := by injection h1 with h1; injection h1
            exact .inr ⟨g, zs, h1, h2, row_beside hrow hx8 (by omega), h3, h4, h5⟩
        have hstk8 : Stk w8 s := HSTK6.out.keep hx8 (by omega) (fun g hg => by subst hg; exact ⟨_, HUR6.out⟩)
        have hb8 : Below s w6 w8 := hx8.below (by have := iter_lt HUR6.out; omega) (fun b hb => by omega)
        have HNU := Lib.hid hNU0
        have HOU := Lib.hid hownu
        have HOQ := Lib.hid hownq
        have HSTK8 := Lib.hid hstk8
        have HB8 := Lib.hid (HBB.out.trans hb8)
        clear hur8 hx8 htk hrl hrw hrv hNU0 hrul hownu hownq hstk8 hb8
        go_wp2_with fail
        refine HNU.out.mono ?_
        rintro e w9 ⟨rfl, rfl⟩
        go_wp2_with fail
        refine leaves_cons (f := 167) (args := #[.pointer (some ⟨s, 0, none⟩), .int .i64 0]) (by simp) (by simp [go_sem]) ?_
        refine (restore_d s _ _ HSTK8.out).mono ?_
        rintro e u' w'' ⟨rfl, rfl, hrp⟩
        obtain rfl := HQE.out
        obtain rfl := HRE.out
        exact ⟨_, results_tmp2 rfl _ _ _, _, _, _, _, rfl, HOQ.out.rest hrp, HOU.out.rest hrp, HB8.out.trans (hrp.below (Nat.le_refl _)), hrp.any⟩
end Go.Proofs.YtapfolgiafnllaaGreatDoor

/-
  math/big's (nat).div, for divisors of at most four words.
-/
namespace Go.Proofs.YtapfolgiafnllaaGreatDoor
open Go.RowKit

def NdPost (w : World) (N M : Nat) (e : Ending) (w' : World) : Prop :=
  ∃ A c B d, e = .returned (.tuple #[.slice A (wds (N / M)).length c, .slice B (wds (N % M)).length d]) ∧ OwnNat w.heap.size w' A c (N / M) ∧ OwnNat w.heap.size w' B d (N % M) ∧ Below w.heap.size w w' ∧ w.heap.size ≤ w'.heap.size
theorem wds_top {n k : Nat} (h : (wds n).length = k + 1) : ∃ h : k < (wds n).length, (wds n)[k] ≠ 0 := by
  have hne : wds n ≠ [] := by intro e; rw [e] at h; cases h
  have h1 : (wds n).getLast hne ≠ 0 := toD_last (b := 18446744073709551616) (by decide) n hne
  rw [List.getLast_eq_getElem hne] at h1
  refine ⟨by omega, ?_⟩
  have e : (wds n).length - 1 = k := by omega
  simpa only [e] using h1
theorem OwnNat.low {B B' : Nat} {w : World} {A : Option Addr} {c N : Nat} (h : OwnNat B w A c N) (hB : B' ≤ B) : OwnNat B' w A c N := by
  rcases h with h | ⟨g, zs, h1, h2, h3, h4, h5, h6⟩
  · exact .inl h
  · exact .inr ⟨g, zs, h1, h2, h3, h4, Nat.le_trans hB h5, h6⟩
theorem OwnNat.under {B : Nat} {w w' : World} {A : Option Addr} {c N : Nat} (h : OwnNat B w A c N) (hb : Below w.heap.size w w') : OwnNat B w' A c N := by
  rcases h with h | ⟨g, zs, h1, h2, h3, h4, h5, h6⟩
  · exact .inl h
  · exact .inr ⟨g, zs, h1, h2, h3.below hb, h4, h5, h6⟩

set_option maxRecDepth 100000 in
set_option maxHeartbeats 1000000 in
theorem natDiv_walk (N M : Nat) (A B : Option Addr) (c d : Nat) (w : World) (hc : (wds N).length ≤ c) (hcm : c ≤ 9223372036854775807) (hd : (wds M).length ≤ d) (hdm : d ≤ 9223372036854775807) (hr : Rd w A (nums .u64 (wds N))) (hs : Rd w B (nums .u64 (wds M))) (hN : (wds N).length ≤ 900) (hM4 : (wds M).length ≤ 4) (hM : M ≠ 0) (hk : DivIs w) :
    Calls Tryz.prog 142 #[.slice none 0 0, .pointer none, .slice none 0 0, .slice A (wds N).length c, .slice B (wds M).length d] w (NdPost w N M) := by
  have hm0 : (wds M).length ≠ 0 := fun h1 => hM ((toD_nil_iff (by decide)).1 (List.length_eq_zero_iff.1 h1))
  obtain ⟨lm, hlm⟩ : ∃ lm, (wds M).length = lm := ⟨_, rfl⟩
  obtain ⟨ln, hln⟩ : ∃ ln, (wds N).length = ln := ⟨_, rfl⟩
  have hb0 : ((lm : Int) == 0) = false := beq_eq_false_iff_ne.2 (by omega)
  have hvm := wds_val M
  have hvn := wds_val N
  have hlmi : (0 : Int) ≤ lm := by omega
  by_cases h1 : lm = 1
  · subst h1
    obtain ⟨y, hy⟩ : ∃ y, wds M = [y] := List.length_eq_one_iff.1 hlm
    have hyM : y = M := by rw [hy] at hvm; simpa [valD] using hvm
    subst hyM
    obtain ⟨a, rfl, hc1⟩ := rd_cell hs (j := 0) (by omega)
    have hyw : y < 18446744073709551616 := wds_lt y y (by rw [hy]; simp)
    have e0 : a.add 0 = a := by unfold Addr.add; rw [if_pos rfl]
    have hg : (wds y)[0]'(by omega) = y := by simp [hy]
    rw [hg, e0] at hc1
    have hDW := divW_walk N y A c w hc hcm hr (by omega) hyw hM
    unfold DwPost at hDW
    rw [hln] at hDW
    have HDW := Lib.hid hDW
    clear hDW
    have HSW := Lib.hid (fun w => setWord_walk w.heap.size none 0 0 (N % y) w (.inl ⟨rfl, rfl, rfl⟩) (Nat.le_refl _) (Nat.lt_trans (Nat.mod_lt N (Nat.pos_of_ne_zero hM)) hyw))
    simp only [wds_zero] at HSW
    obtain ⟨rm, hrm⟩ : ∃ rm, N % y = rm := ⟨_, rfl⟩
    unfold NdPost
    rw [hrm] at HDW HSW ⊢
    rw [hlm, hln]
    clear hr hs hvm hvn hy hyw hg hm0 hlm hln hk hrm
    go_enter_defers Tryz.func142, Tryz.ntmps142
    go_wp2_with fail
    refine HDW.out.mono ?_
    rintro e w1 ⟨A1, c1, rfl, hown, hb⟩
    have HO := Lib.hid hown
    have HB := Lib.hid hb
    clear hown hb
    go_wp2_with fail
    refine (HSW.out _).mono ?_
    rintro e w2 ⟨A2, c2, rfl, hown2, hb2, hsz2⟩
    have HO2 := Lib.hid hown2
    have HB2 := Lib.hid hb2
    clear hown2 hb2
    go_wp2_with fail
    have hsz := HB2.out.size
    exact ⟨_, results_tmp2 rfl _ _ _, _, _, _, _, rfl, HO.out.under HB2.out, HO2.out.low HB.out.size, HB.out.trans (HB2.out.mono HB.out.size), Nat.le_trans HB.out.size hsz⟩
  · by_cases hlt : N < M
    · have hdq : N / M = 0 := Nat.div_eq_of_lt hlt
      have hmq : N % M = N := Nat.mod_eq_of_lt hlt
      have hl1 : ((lm : Int) == 1) = false := beq_eq_false_iff_ne.2 (by omega)
      have hsg : sgnC ((N : Int) - M) = -1 := by unfold sgnC; rw [if_pos (by omega)]
      have HCM := Lib.hid (natCmp_walk N M A B c d w hc hd hcm hdm hr hs)
      rw [hsg, hln, hlm] at HCM
      have HST := Lib.hid (fun (w2 : World) (hb : Below w.heap.size w w2) => setNew_walk A c N w2 hc hcm (by omega) (hr.below hb))
      unfold NdPost
      rw [hdq, hmq, hlm, hln, wds_zero]
      simp only [hln] at HST
      clear hr hs hvm hvn hm0 hk
      go_enter_defers Tryz.func142, Tryz.ntmps142
      go_wp2_with fail
      refine HCM.out.mono ?_
      rintro e w1 ⟨rfl, nd, rfl⟩
      go_wp2_with fail
      refine (HST.out _ (below_drewN (Below.refl _ _) nd)).mono ?_
      rintro e w2 ⟨A2, c2, rfl, hown2, hb2, hsz2⟩
      have HO2 := Lib.hid hown2
      have HB2 := Lib.hid hb2
      clear hown2 hb2
      rw [hln]
      go_wp2_with fail
      exact ⟨_, results_tmp2 rfl _ _ _, none, 0, _, _, rfl, .inl ⟨rfl, rfl, rfl⟩, HO2.out, (below_drewN (Below.refl _ _) nd).trans HB2.out, HB2.out.size⟩
    · have hl1 : ((lm : Int) == 1) = false := beq_eq_false_iff_ne.2 (by omega)
      have hsg : ¬ sgnC ((N : Int) - M) < 0 := by unfold sgnC; split <;> (try split) <;> omega
      obtain ⟨sg, hsge⟩ : ∃ sg, sgnC ((N : Int) - M) = sg := ⟨_, rfl⟩
      rw [hsge] at hsg
      have HCM := Lib.hid (natCmp_walk N M A B c d w hc hd hcm hdm hr hs)
      rw [hsge, hln, hlm] at HCM
      obtain ⟨k, hk2⟩ : ∃ k, lm = k + 2 := ⟨lm - 2, by omega⟩
      obtain ⟨Y, rfl, hcY⟩ := rd_cell hs (j := 0) (by omega)
      have hle : lm ≤ ln := by rw [← hlm, ← hln]; exact Nat.le_of_not_lt (fun h => hlt (toD_len_lt (b := 18446744073709551616) (by decide) h))
      obtain ⟨X, rfl, hcX⟩ := rd_cell hr (j := 0) (by omega)
      have hXw : X.block < w.heap.size := World.block_lt_of_cell? w _ hcX
      have hYw : Y.block < w.heap.size := World.block_lt_of_cell? w _ hcY
      have htp := wds_top (n := M) (k := k + 1) (by omega)
      have HDL : Hid (∀ nd, Calls Tryz.prog 177 #[.slice none 0 0, .pointer (some ⟨w.heap.size, 0, none⟩), .slice none 0 0, .slice (some X) ln c, .slice (some Y) lm d] ((w.drewN nd).alloc (.cells #[.pointer none] 181)) (DlPost w.heap.size (N / M) (N % M) ((w.drewN nd).alloc (.cells #[.pointer none] 181)))) := by
        refine Lib.hid fun nd => ?_
        have hb : Below w.heap.size w ((w.drewN nd).alloc (.cells #[.pointer none] 181)) := (below_drewN (Below.refl _ _) nd).trans (below_a1 (w.drewN nd) _)
        have h := divLarge_walk w.heap.size k c d (wds N) (wds M) X Y ((w.drewN nd).alloc (.cells #[.pointer none] 181)) (heap_here (w.drewN nd) _) (hr.below hb) (hs.below hb) (wds_lt N) (wds_lt M) (by omega) (by omega) (by omega) (by omega) htp (by show X.block ≠ _; omega) (by show Y.block ≠ _; omega)
          (Nat.lt_of_lt_of_le hXw hb.size) (Nat.lt_of_lt_of_le hYw hb.size) (hk.below hb hk.lt) hk.lt hc hd
        rw [hvn, hvm, hln, hlm] at h
        exact h
      rw [hlm, hln]
      clear hr hs hvm hvn hm0 hk hcX hcY htp hk2
      go_enter_defers Tryz.func142, Tryz.ntmps142
      go_wp2_with fail
      refine HCM.out.mono ?_
      rintro e w1 ⟨rfl, nd, rfl⟩
      go_wp2_with fail
      refine (getStack_walk _).mono ?_
      rintro e w2 ⟨rfl, rfl⟩
      have hh : (w.drewN nd).heap.size = w.heap.size := rfl
      rw [hh]
      go_wp2_with fail
      refine (HDL.out nd).mono ?_
      rintro e w3 ⟨A1, c1, B1, d1, rfl, ho1, ho2, hb3, hs3⟩
      have HO1 := Lib.hid ho1
      have HO2 := Lib.hid ho2
      have HB3 := Lib.hid hb3
      have HS3 := Lib.hid hs3
      clear ho1 ho2 hb3 hs3
      go_wp2_with fail
      refine leaves_cons (f := 148) (args := #[.pointer (some ⟨w.heap.size, 0, none⟩)]) (by simp) (by simp [go_sem]) ?_
      refine (free_d w.heap.size _ _ HS3.out).mono ?_
      rintro e u' w'' ⟨rfl, rfl, hrp⟩
      have hb4 : Below w.heap.size w w'' := ((below_drewN (Below.refl _ _) nd).trans (below_a1 (w.drewN nd) _)).trans (HB3.out.trans (hrp.below (Nat.le_refl _)))
      exact ⟨_, results_tmp2 rfl _ _ _, _, _, _, _, rfl, HO1.out.rest hrp, HO2.out.rest hrp, hb4, hb4.size⟩
end Go.Proofs.YtapfolgiafnllaaGreatDoor

/-
  Int.Quo.
-/
namespace Go.Proofs.YtapfolgiafnllaaGreatDoor
open Go.RowKit

theorem natAbs_quo (x y : Int) : (x.tdiv y).natAbs = x.natAbs / y.natAbs := Int.natAbs_tdiv x y
theorem quo_sign {x y : Int} (h : x.natAbs / y.natAbs ≠ 0) : (decide (x < 0) != decide (y < 0)) = decide (x.tdiv y < 0) := by
  obtain ⟨a, ha⟩ : ∃ a, x.natAbs = a := ⟨_, rfl⟩
  obtain ⟨b, hb⟩ : ∃ b, y.natAbs = b := ⟨_, rfl⟩
  rw [ha, hb] at h
  have ha0 : a ≠ 0 := by rintro rfl; exact h (Nat.zero_div _)
  have hb0 : b ≠ 0 := by rintro rfl; exact h (Nat.div_zero _)
  have hq : (0 : Int) < ((a / b : Nat) : Int) := by have := Nat.pos_of_ne_zero h; omega
  have e : (a : Int).tdiv b = ((a / b : Nat) : Int) := rfl
  have hx : x = a ∨ x = -(a : Int) := by omega
  have hy : y = b ∨ y = -(b : Int) := by omega
  rcases hx with rfl | rfl <;> rcases hy with rfl | rfl
  · rw [e, decide_eq_false (by omega), decide_eq_false (by omega), decide_eq_false (by omega)]; rfl
  · rw [Int.tdiv_neg, e, decide_eq_false (by omega), decide_eq_true (by omega), decide_eq_true (by omega)]; rfl
  · rw [Int.neg_tdiv, e, decide_eq_true (by omega), decide_eq_false (by omega), decide_eq_true (by omega)]; rfl
  · rw [Int.neg_tdiv, Int.tdiv_neg, Int.neg_neg, e, decide_eq_true (by omega), decide_eq_true (by omega), decide_eq_false (by omega)]; rfl

set_option maxRecDepth 100000 in
set_option maxHeartbeats 4000000 in
theorem intQuo_walk (gz gx gy : Nat) (x y : Int) (w : World) (hz : IntNew w gz) (hx : IntAt w gx x) (hy : IntAt w gy y) (hne : gy ≠ gx) (hgx : gx ≠ gz) (hgy : gy ≠ gz) (hk : DivIs w) (hlx : (wds x.natAbs).length ≤ 900) (hly : (wds y.natAbs).length ≤ 4) (hy0 : y ≠ 0) :
    Calls Tryz.prog 115 #[.pointer (some ⟨gz, 0, none⟩), .pointer (some ⟨gx, 0, none⟩), .pointer (some ⟨gy, 0, none⟩)] w fun e w' => e = .returned (.pointer (some ⟨gz, 0, none⟩)) ∧ IntAt w' gz (x.tdiv y) ∧ Ext (fun b => b = gz) w w' := by
  obtain ⟨A, c, hkx, h2, h3, h4⟩ := hx
  obtain ⟨B, d, hky, i2, i3, i4⟩ := hy
  have hnq := (int_neq hne hkx hky).2
  have c0 := num_cell0 hz
  have c1 := num_cell1 hz
  have d0 := num_cell0 hkx
  have d1 := num_cell1 hkx
  have e0 := num_cell0 hky
  have e1 := num_cell1 hky
  have HM := Lib.hid (fun (w2 : World) (hh : w2.heap = w.heap) => natDiv_walk x.natAbs y.natAbs A B c d w2 h2 h3 i2 i3 (rd_heap h4.rd hh) (rd_heap i4.rd hh) hlx hly (by omega) ((cell_heap hh _ _).trans hk))
  have HZ := Lib.hid hz
  have HKX := Lib.hid hkx
  have HKY := Lib.hid hky
  have hlt := iter_lt hz
  have HLT := Lib.hid hlt
  obtain ⟨nx, hnx2⟩ : ∃ nx, decide (x < 0) = nx := ⟨_, rfl⟩
  obtain ⟨ny, hny2⟩ : ∃ ny, decide (y < 0) = ny := ⟨_, rfl⟩
  have hsg := fun h => quo_sign (x := x) (y := y) h
  rw [hnx2, hny2] at hsg
  rw [hnx2] at d0 HKX
  rw [hny2] at e0 HKY
  have HSG := Lib.hid hsg
  have HSS := Lib.hid (natAbs_quo x y)
  clear h4 i4 hz hkx hky hnx2 hny2 hsg hk
  go_enter Tryz.func115, Tryz.ntmps115
  go_upto_region 1 with fail
  go_cut [21] from 7 to 46 (fun _ wx => MulMid w gz (x.natAbs / y.natAbs) wx)
  case first =>
    go_region_with ((go_at_call 142; refine (HM.out _ (by first | exact heap_drew' _ | exact heap_drewN' _ _)).mono ?_; rintro e w1 ⟨A1, c1', B1, d1', rfl, hown, hownr, hb, hs1⟩; have hk1 : w1.heap[gz]? = some (.cells #[.bool false, .slice none 0 0] 80 (0, 0)) := (hb.block gz (HLT.out)).trans HZ.out; have g0 := num_cell0 hk1; have g1 := num_cell1 hk1; have f0 := one_free hk1 0; have f1 := one_free hk1 1; have HK1 := Lib.hid hk1; have HO := Lib.hid hown; have HB := Lib.hid hb; clear hk1 hown hownr hb))
    all_goals (go_wp2_with fail)
    all_goals go_meet
    all_goals
      have ho2 : OwnNat (gz + 1) w1 A1 c1' (x.natAbs / y.natAbs) := own_low HO.out (by exact HLT.out)
      have hx2 : Ext (fun b => b = gz) w w1 := ext_any (heap_drew' _) rfl rfl rfl HB.out
      have hge := ho2.ge
      exact ⟨A1, c1', cells_set HK1.out 1 _, ho2.room.1, by have := ho2.room; omega, ho2.wd.other _ (fun a ha => by have := hge a ha; show a.block ≠ gz; omega), fun a ha => by have := hge a ha; omega, Ext.setCell (D := fun b => b = gz) (p := ⟨gz, 1, none⟩) hx2 (fun _ => rfl) _⟩
  case rest =>
    obtain ⟨A1, c1', hk1, hl1, hm1, hwd, hfar, hx⟩ := hcut
    have p0 := num_cell0 ((hx.block gx (iter_lt HKX.out) (by exact hgx)).trans HKX.out)
    have p1 := num_cell0 ((hx.block gy (iter_lt HKY.out) (by exact hgy)).trans HKY.out)
    have p2 := num_cell1 hk1
    have p3 := one_free hk1 0
    have p4 := num_cell0 hk1
    have HK1 := Lib.hid hk1
    have HX := Lib.hid hx
    have HWD := Lib.hid hwd
    have HFR := Lib.hid hfar
    have fin : ∀ (wy : World) (b : Bool), wy.heap = wc.heap → b = decide (x.tdiv y < 0) → IntAt (wy.setCell ⟨gz, 0, none⟩ (.bool b)) gz (x.tdiv y) := by
      intro wy b hh hb
      have hk2 : wy.heap[gz]? = some (.cells #[.bool false, .slice A1 (wds (x.natAbs / y.natAbs)).length c1'] 80 (0, 0)) := by rw [hh]; exact HK1.out
      have hk3 := cells_set hk2 0 (.bool b)
      refine ⟨A1, c1', ?_, by rw [HSS.out]; exact hl1, hm1, ?_⟩
      · rw [HSS.out, ← hb]; exact hk3
      · rw [HSS.out]
        exact (HWD.out.of_heap hh).other _ (fun a ha => HFR.out a ha)
    have FIN := Lib.hid fin
    clear hk1 hx hwd hfar fin d0 d1 e0 e1 c0 c1 hnq
    by_cases h0 : x.natAbs / y.natAbs = 0
    · have hlen2 : (wds (x.natAbs / y.natAbs)).length = 0 := by rw [h0, wds_zero]; rfl
      have hng : false = decide (x.tdiv y < 0) := by
        have := natAbs_quo x y
        rw [h0] at this
        rw [Int.natAbs_eq_zero.1 this]
        rfl
      have HNG := Lib.hid hng
      rw [hlen2] at p2
      clear h0 hlen2 hng hl1
      go_wp2_with fail
      refine wp_region_still_tail 20 (by kernel_rfl) (by kernel_rfl) ?_
      simp only [List.take_succ_cons, List.take_zero, List.drop_succ_cons, List.drop_zero]
      iterate 6 still_step
      refine wpStill_step (fun K hK => ?_)
      go_simp
      obtain ⟨bb, hbb⟩ : ∃ bb, false = bb := ⟨_, rfl⟩
      rw [hbb]
      have HBB := Lib.hid hbb
      clear hbb
      refine hK _ ?_
      clear hK K
      still_step
      iterate 9
        refine wpStill_step (fun K hK => ?_)
        rw [if_neg (by simp [Region.wanted, yielded, ← HBB.out])]
        go_simp
        refine hK _ ?_
        clear hK K
      still_step
      have hpk : (if bb = true then undef else Value.bool false) = Value.bool false := by rw [← HBB.out]; rfl
      rw [hpk]
      clear hpk
      still_step
      still_step
      refine wpStill_nil ?_
      change wpList _ _ _ _ _ wc.drew
      go_wp2_with fail
      go_ret
      exact ⟨rfl, FIN.out wc.drew _ rfl HNG.out, Ext.setCell (D := fun b => b = gz) (p := ⟨gz, 0, none⟩) HX.out.drew (fun _ => rfl) _⟩
    · have hlen := wds_pos.2 h0
      have HFN := Lib.hid (HSG.out h0)
      obtain ⟨n, hn⟩ : ∃ n, (wds (x.natAbs / y.natAbs)).length = n := ⟨_, rfl⟩
      rw [hn] at p2 hlen
      have hd0 : decide (0 < n) = true := decide_eq_true hlen
      clear h0 hn hl1
      go_wp2_with fail
      go_still_tail 20, (by kernel_rfl)
      change wpList _ _ _ _ _ wc.drew
      go_wp2_with fail
      go_ret
      exact ⟨rfl, FIN.out wc.drew _ rfl HFN.out, Ext.setCell (D := fun b => b = gz) (p := ⟨gz, 0, none⟩) HX.out.drew (fun _ => rfl) _⟩

end Go.Proofs.YtapfolgiafnllaaGreatDoor
