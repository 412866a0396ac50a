/-
  math/big's divWVW, divW: a number by one word.
-/
import Derived.Test.YtapfolgiafnllaaGreatDoorBn23Z
import Derived.Test.YtapfolgiafnllaaGreatDoorBn02Z
namespace Go.Proofs.YtapfolgiafnllaaGreatDoor
open Go.RowKit

theorem over_set_pre {zs qs : List Nat} {j v : Nat} (h : j < zs.length) : (over zs (j + 1) qs).set j v = over zs j (v :: qs) := by
  unfold over
  have e : zs.take (j + 1) = zs.take j ++ [zs[j]] := List.take_succ_eq_append_getElem h
  have hl : (zs.take j).length = j := by rw [List.length_take]; omega
  rw [e, List.append_assoc, List.append_assoc, List.set_append_right _ _ (by rw [hl]; exact Nat.le_refl _), hl, Nat.sub_self, List.singleton_append, List.set_cons_zero, List.length_cons, List.append_assoc]
  rw [show j + 1 + qs.length = j + (qs.length + 1) by omega]
  rfl
/-- One digit more of a quotient. -/
theorem div_digit {N d y : Nat} (hy : 0 < y) : (N * 18446744073709551616 + d) / y = (N / y) * 18446744073709551616 + ((N % y) * 18446744073709551616 + d) / y ∧ (N * 18446744073709551616 + d) % y = ((N % y) * 18446744073709551616 + d) % y := by
  have h := Nat.div_add_mod N y
  obtain ⟨q, hq⟩ : ∃ q, N / y = q := ⟨_, rfl⟩
  obtain ⟨r, hr⟩ : ∃ r, N % y = r := ⟨_, rfl⟩
  rw [hq, hr] at h ⊢
  have e : N * 18446744073709551616 + d = (r * 18446744073709551616 + d) + y * (q * 18446744073709551616) := by
    have h2 : (y * q + r) * 18446744073709551616 = N * 18446744073709551616 := by rw [h]
    rw [Nat.add_mul, Nat.mul_assoc] at h2
    omega
  rw [e, Nat.add_mul_div_left _ _ hy, Nat.add_mul_mod_self_left]
  exact ⟨by omega, rfl⟩
theorem valD_drop {xs : List Nat} {j : Nat} (h : j < xs.length) : valD 18446744073709551616 (xs.drop j) = valD 18446744073709551616 (xs.drop (j + 1)) * 18446744073709551616 + xs[j] := by
  rw [List.drop_eq_getElem_cons h]
  simp only [valD]
  omega
/-- divWVW's loop: the words from k on have been divided. -/
def DqRel (w : World) (g : Nat) (zs xs : List Nat) (y : Nat) (rv iv : Value) (wr : World) : Prop :=
  ∃ (k r : Nat) (qs : List Nat), iv = .int .i64 ((k : Int) - 1) ∧ rv = .int .u64 r ∧ k ≤ xs.length ∧ qs.length = xs.length - k ∧ (∀ d ∈ qs, d < 18446744073709551616) ∧ r < y ∧
    Row wr g .u64 106 (over zs k qs) ∧ Ext (fun b => b = g) w wr ∧ wr.heap.size = w.heap.size ∧ r = valD 18446744073709551616 (xs.drop k) % y ∧ valD 18446744073709551616 qs = valD 18446744073709551616 (xs.drop k) / y
def DqPost (w : World) (g : Nat) (zs xs : List Nat) (y : Nat) (e : Ending) (w' : World) : Prop :=
  ∃ (qs : List Nat), e = .returned (.int .u64 ((valD 18446744073709551616 xs % y : Nat) : Int)) ∧ qs.length = xs.length ∧ (∀ d ∈ qs, d < 18446744073709551616) ∧
    Row w' g .u64 106 (over zs 0 qs) ∧ Ext (fun b => b = g) w w' ∧ w'.heap.size = w.heap.size ∧ valD 18446744073709551616 qs = valD 18446744073709551616 xs / y
def idxUp : Value → Nat | .int _ k => (k + 1).toNat | _ => 0

set_option maxRecDepth 100000 in
set_option maxHeartbeats 4000000 in
theorem divWVW_walk (g : Nat) (zs xs : List Nat) (X : Option Addr) (cz cx y : Nat) (w : World) (hrow : Row w g .u64 106 zs) (hx : Rd w X (nums .u64 xs)) (hX : ∀ a, X = some a → a.block ≠ g) (hz : xs.length ≤ zs.length)
    (hxw : ∀ d ∈ xs, d < 18446744073709551616) (hy : y < 18446744073709551616) (hy0 : y ≠ 0) (hl : xs.length ≤ 1000000) (hl0 : xs ≠ []) :
    Calls Tryz.prog 210 #[.slice (some ⟨g, 0, none⟩) xs.length cz, .int .u64 0, .slice X xs.length cx, .int .u64 y] w (DqPost w g zs xs y) := by
  by_cases h1 : xs.length = 1
  · obtain ⟨x, rfl⟩ : ∃ x, xs = [x] := List.length_eq_one_iff.1 h1
    obtain ⟨a, rfl, ha⟩ := rd_cell hx (j := 0) (by simp)
    have e0 : a.add 0 = a := by unfold Addr.add; rw [if_pos rfl]
    rw [e0] at ha
    have hxx : x < 18446744073709551616 := hxw x (by simp)
    have HB := Lib.hid (bitsDiv0_walk x y w hxx hy hy0)
    have hq : x / y < 18446744073709551616 := Nat.lt_of_le_of_lt (Nat.div_le_self _ _) hxx
    have hr : x % y < 18446744073709551616 := by have := Nat.mod_lt x (Nat.pos_of_ne_zero hy0); omega
    have hv : valD 18446744073709551616 [x] = x := by simp [valD]
    unfold DqPost
    rw [hv]
    have HR := Lib.hid hrow
    have hz0 : 0 < zs.length := by have := hz; simp at this; omega
    have hc := hrow.cell hz0
    have hf := hrow.free 0
    obtain ⟨old, hold⟩ : ∃ old, zs[0] = old := ⟨_, rfl⟩
    rw [hold] at hc
    obtain ⟨q, hqe⟩ : ∃ q, x / y = q := ⟨_, rfl⟩
    obtain ⟨r, hre⟩ : ∃ r, x % y = r := ⟨_, rfl⟩
    rw [hqe, hre] at HB
    rw [hqe] at hq ⊢
    rw [hre] at hr ⊢
    have hqi : q ≤ 18446744073709551615 := by omega
    have hri : r ≤ 18446744073709551615 := by omega
    clear hx hX hrow hxw hl hl0 hv hold hqe hre h1
    go_enter Tryz.func210, Tryz.ntmps210
    go_wp2_with fail
    refine HB.out.mono ?_
    rintro e w1 ⟨rfl, nd, rfl⟩
    go_wp2_with fail
    go_ret
    have hrow2 : Row ((w.drewN nd).setCell ⟨g, 0, none⟩ (.int .u64 (q : Int))) g .u64 106 (over zs 0 [q]) := by rw [← over_one hz0]; exact (HR.out.drew nd).set 0 q
    exact ⟨[q], rfl, rfl, by simpa using hq, hrow2, Ext.setCell (D := fun b => b = g) (p := ⟨g, 0, none⟩) ((Ext.refl _ w).drewN nd) (fun _ => rfl) _, by simp [World.setCell, World.drewN], by simp [valD]⟩
  · obtain ⟨m, hm⟩ : ∃ m, xs.length = m := ⟨_, rfl⟩
    have hm0 : m ≠ 0 := by intro h; exact hl0 (List.length_eq_zero_iff.1 (hm.trans h))
    have h1b : ((m : Int) == 1) = false := beq_eq_false_iff_ne.2 (by omega)
    have HRC := Lib.hid (reciprocal_walk y w hy hy0)
    have HX := Lib.hid hx
    have HXB := Lib.hid hX
    have HXW := Lib.hid hxw
    have HR := Lib.hid hrow
    have HM := Lib.hid hm
    have HD := Lib.hid (fun (x1 x0 : Nat) (w : World) (h1 : x1 < y) (h2 : x0 < 18446744073709551616) => divWWg_walk x1 x0 y w h1 h2 hy)
    obtain ⟨rc, hrc⟩ : ∃ rc, recip y = rc := ⟨_, rfl⟩
    rw [hrc] at HRC HD
    have hyp : 0 < y := Nat.pos_of_ne_zero hy0
    rw [hm] at hl hz ⊢
    clear hx hX hxw hrow hl0 h1 hm hrc
    go_enter Tryz.func210, Tryz.ntmps210
    go_wp2_with fail
    refine HRC.out.mono ?_
    rintro e w1 ⟨rfl, nd, rfl⟩
    go_wp2_with fail
    go_loopw [8, 12] (fun rv iv wr => DqRel w g zs xs y rv iv wr) (fun _ iv _ => idxUp iv)
    case atStart =>
      refine ⟨m, 0, [], rfl, rfl, Nat.le_of_eq HM.out.symm, by rw [HM.out, Nat.sub_self]; rfl, by simp, hyp, by rw [over_nil]; exact HR.out.drew nd, (Ext.refl _ w).drewN nd, rfl, ?_, ?_⟩
      · rw [List.drop_of_length_le (Nat.le_of_eq HM.out)]; simp [valD]
      · rw [List.drop_of_length_le (Nat.le_of_eq HM.out)]; simp [valD]
    case round =>
      obtain ⟨k, r, qs, rfl, rfl, hk, hql, hqw, hry, hrow, hx, hsz, hre, hve⟩ := hrel
      have HQL := Lib.hid hql
      have HQW := Lib.hid hqw
      have HROW := Lib.hid hrow
      have HRE := Lib.hid hre
      have HVE := Lib.hid hve
      clear hql hqw hre hve
      match k, hk, hrow, HQL, HROW, HRE, HVE with
      | 0, hk, hrow, HQL, HROW, HRE, HVE =>
        have e1 : ((0 : Nat) : Int) - 1 = -1 := rfl
        rw [e1]
        clear hrow e1
        go_wp2_with fail
        go_ret
        refine ⟨qs, ?_, by rw [HQL.out]; rfl, HQW.out, HROW.out, hx, hsz, by rw [HVE.out]; rfl⟩
        rw [HRE.out]
        rfl
      | j + 1, hk, hrow, HQL, HROW, HRE, HVE =>
        have hjl : j < xs.length := hk
        have hjm : j < m := by have := HM.out; omega
        obtain ⟨a, rfl, ha⟩ := rd_cell (HX.out.ext1 hx HXB.out) hjl
        obtain ⟨x, hxk⟩ : ∃ x, xs[j] = x := ⟨_, rfl⟩
        rw [hxk] at ha
        have hxx : x < 18446744073709551616 := by rw [← hxk]; exact HXW.out _ (List.getElem_mem _)
        have hvd := valD_drop hjl
        rw [hxk] at hvd
        have e1 : ((j + 1 : Nat) : Int) - 1 = (j : Int) := by omega
        have fR := hrow.free j
        have hcR := hrow.cell (j := j) (by rw [over_length (by rw [HQL.out, HM.out]; omega)]; omega)
        obtain ⟨old, hold⟩ : ∃ old, (over zs (j + 1) qs)[j]'(by rw [over_length (by rw [HQL.out, HM.out]; omega)]; omega) = old := ⟨_, rfl⟩
        rw [hold] at hcR
        have hD := HD.out r x wr hry hxx
        have hq1 : (r * 18446744073709551616 + x) / y < 18446744073709551616 := hd_lt hry hxx
        have hr1 := Nat.mod_lt (r * 18446744073709551616 + x) hyp
        obtain ⟨dg1, dg2⟩ := div_digit (N := valD 18446744073709551616 (xs.drop (j + 1))) (d := x) hyp
        rw [← hvd, ← HRE.out, ← HVE.out] at dg1
        rw [← hvd, ← HRE.out] at dg2
        obtain ⟨q1, hq1e⟩ : ∃ q1, (r * 18446744073709551616 + x) / y = q1 := ⟨_, rfl⟩
        obtain ⟨r1, hr1e⟩ : ∃ r1, (r * 18446744073709551616 + x) % y = r1 := ⟨_, rfl⟩
        rw [hq1e, hr1e] at hD
        rw [hq1e] at hq1 dg1
        rw [hr1e] at hr1 dg2
        have HDD := Lib.hid hD
        have HG1 := Lib.hid dg1
        have HG2 := Lib.hid dg2
        have hj0 : (0 : Int) ≤ j := by omega
        have hj1 : (j : Int) < m := by omega
        have hj2 : (j : Int) ≤ 1000000 := by omega
        rw [e1]
        clear hD dg1 dg2 hq1e hr1e hvd hold hxk e1 hrow
        go_wp2_with fail
        refine HDD.out.mono ?_
        rintro e w2 ⟨rfl, rfl⟩
        go_wp2_with fail
        have hst : Row (wr.setCell ⟨g, j, none⟩ (.int .u64 (q1 : Int))) g .u64 106 (over zs j (q1 :: qs)) := by rw [← over_set_pre (by omega)]; exact HROW.out.set _ _
        refine ⟨⟨j, r1, q1 :: qs, rfl, rfl, by omega, by have := HQL.out; simp; omega, ?_, hr1, hst, hx.setCell (p := ⟨g, j, none⟩) (fun _ => rfl) _, by simpa [World.setCell] using hsz, HG2.out.symm, ?_⟩, by simp [idxUp]⟩
        · intro d hd
          rcases List.mem_cons.1 hd with h | h
          · rw [h]; exact hq1
          · exact HQW.out d h
        · rw [HG1.out]
          simp only [valD]
          omega

/-- What divW hands back. -/
def DwPost (w : World) (N y : Nat) (e : Ending) (w' : World) : Prop := ∃ A c, e = .returned (.tuple #[.slice A (wds (N / y)).length c, .int .u64 ((N % y : Nat) : Int)]) ∧ OwnNat w.heap.size w' A c (N / y) ∧ Below w.heap.size w w'

set_option maxRecDepth 100000 in
set_option maxHeartbeats 4000000 in
theorem divW_walk (N y : Nat) (A : Option Addr) (c : Nat) (w : World) (hc : (wds N).length ≤ c) (hcm : c ≤ 9223372036854775807) (hr : Rd w A (nums .u64 (wds N))) (hl : (wds N).length ≤ 80000) (hy : y < 18446744073709551616) (hy0 : y ≠ 0) :
    Calls Tryz.prog 176 #[.slice none 0 0, .slice A (wds N).length c, .int .u64 y] w (DwPost w N y) := by
  have hyb : ((y : Int) == 0) = false := beq_eq_false_iff_ne.2 (by omega)
  by_cases h1 : y = 1
  · subst h1
    have HS := Lib.hid (setNew_walk A c N w hc hcm (by omega) hr)
    unfold DwPost
    rw [Nat.div_one, Nat.mod_one]
    clear hr
    go_enter Tryz.func176, Tryz.ntmps176
    go_wp2_with fail
    refine HS.out.mono ?_
    rintro e w1 ⟨A1, c1, rfl, hown, hb, _⟩
    go_wp2_with fail
    go_ret2
    exact ⟨A1, c1, rfl, hown, hb⟩
  · have h1b : ((y : Int) == 1) = false := beq_eq_false_iff_ne.2 (by omega)
    by_cases hN : N = 0
    · subst hN
      unfold DwPost
      rw [Nat.zero_div, Nat.zero_mod, wds_zero]
      rw [wds_zero] at hc
      clear hr hl
      go_enter Tryz.func176, Tryz.ntmps176
      go_wp2_with fail
      go_ret2
      exact ⟨none, 0, rfl, .inl ⟨rfl, rfl, rfl⟩, Below.refl _ _⟩
    · have hm0 : (wds N).length ≠ 0 := fun h1 => hN ((toD_nil_iff (by decide)).1 (List.length_eq_zero_iff.1 h1))
      have hval := wds_val N
      have hwl := wds_lt N
      obtain ⟨xs, hxs⟩ : ∃ xs, wds N = xs := ⟨_, rfl⟩
      rw [hxs] at hm0 hl hc hr hval hwl ⊢
      have hxn : xs ≠ [] := by intro e; rw [e] at hm0; exact hm0 rfl
      have hfar := rd_far hr hxn
      obtain ⟨m, hm⟩ : ∃ m, xs.length = m := ⟨_, rfl⟩
      rw [hm] at hm0 hl hc ⊢
      have hM := make_new_walk none 0 0 m w (by omega) (by omega) (Nat.le_refl _)
      have hroom : m ≤ roomFor m ∧ roomFor m ≤ m + 4 := by unfold roomFor; split <;> omega
      obtain ⟨R, hR⟩ : ∃ R, roomFor m = R := ⟨_, rfl⟩
      rw [hR] at hM hroom
      have hrow := row_made w .u64 R 106
      have hr1 := hr.below (below_a1 w (.cells (madeCells #[.int .u64 0] R) 106))
      have hb1 := below_a1 w (.cells (madeCells #[.int .u64 0] R) 106)
      have hs1 := heap_size_alloc w (.cells (madeCells #[.int .u64 0] R) 106)
      obtain ⟨w1, hw1⟩ : ∃ w1, w.alloc (.cells (madeCells #[.int .u64 0] R) 106) = w1 := ⟨_, rfl⟩
      rw [hw1] at hM hrow hr1 hb1 hs1
      have hzl : (List.replicate R 0).length = R := List.length_replicate
      have hDV := divWVW_walk w.heap.size (List.replicate R 0) xs A R c y w1 hrow hr1 hfar (by rw [hzl, hm]; omega) hwl hy hy0 (by omega) hxn
      unfold DqPost at hDV
      rw [hval, hm] at hDV
      have hlt : N % y < 18446744073709551616 := by have := Nat.mod_lt N (Nat.pos_of_ne_zero hy0); omega
      obtain ⟨r, hre⟩ : ∃ r, N % y = r := ⟨_, rfl⟩
      unfold DwPost
      rw [hre] at hDV hlt ⊢
      have HM := Lib.hid hM
      have HDV := Lib.hid hDV
      have HZL := Lib.hid hzl
      have HB1 := Lib.hid hb1
      have HS1 := Lib.hid hs1
      have hmb : ((m : Int) == 0) = false := beq_eq_false_iff_ne.2 (by omega)
      have hi2 : (m : Int) ≤ R := by omega
      clear hM hrow hr hr1 hb1 hs1 hfar hzl hval hwl hw1 hR hxs hDV hm hre hxn
      go_enter Tryz.func176, Tryz.ntmps176
      go_wp2_with fail
      refine HM.out.mono ?_
      rintro e w9 ⟨rfl, hw9⟩
      obtain rfl : w1 = w9 := hw9.symm
      clear hw9
      go_wp2_with fail
      refine HDV.out.mono ?_
      rintro e w2 ⟨qs, rfl, hql, hqw, hrow2, hx2, hs2, hv2⟩
      obtain ⟨hown, htr, hrd⟩ := own_trim hrow2 hqw (by rw [hql, HZL.out]; omega) (by rw [HZL.out]; omega) (Nat.le_refl _) hv2
      rw [HZL.out] at hown
      have hNW := norm_walk (some ⟨w.heap.size, 0, none⟩) R qs w2 (by omega) (by omega) hrd
      rw [htr, hql] at hNW
      have HNW := Lib.hid hNW
      have HOWN := Lib.hid hown
      have hbw : Below w.heap.size w w2 := HB1.out.trans (hx2.below (by have := HS1.out; omega) (fun k hk => by omega))
      have HBW := Lib.hid hbw
      clear hNW hown hbw hrow2 hqw hx2 hs2 hv2 htr hrd hql
      go_wp2_with fail
      refine HNW.out.mono ?_
      rintro e w5 ⟨rfl, rfl⟩
      go_wp2_with fail
      go_ret2
      exact ⟨_, R, rfl, HOWN.out, HBW.out⟩
end Go.Proofs.YtapfolgiafnllaaGreatDoor

/-
  math/big's lshVU, rshVU: numbers of words, shifted by less than a word.
-/
namespace Go.Proofs.YtapfolgiafnllaaGreatDoor
open Go.RowKit

theorem shl_word {s : Nat} (hs : s ≤ 64) (x : Nat) : x * 2 ^ s % 18446744073709551616 = (x % 2 ^ (64 - s)) * 2 ^ s := by
  rw [← pow_split hs, Nat.mul_comm x, Nat.mul_mod_mul_left, Nat.mul_comm]
/-- Two words' bits, put together. -/
theorem sh_join {s x y a b : Nat} (hs : s ≤ 64) (hy : y < 18446744073709551616) (ha : x * 2 ^ s % 18446744073709551616 = a) (hb : y / 2 ^ (64 - s) = b) : bits BinOp.or IntKind.u64 (a : Int) (b : Int) = ((a + b : Nat) : Int) ∧ bits BinOp.or IntKind.u64 (b : Int) (a : Int) = ((b + a : Nat) : Int) ∧ a + b < 18446744073709551616 := by
  have hlt : b < 2 ^ s := by
    rw [← hb, Nat.div_lt_iff_lt_mul (Nat.pow_pos (by decide)), pow_split hs]
    exact hy
  rw [shl_word hs] at ha
  have haw : (x % 2 ^ (64 - s)) * 2 ^ s < 18446744073709551616 := by rw [← shl_word hs]; exact Nat.mod_lt _ (by decide)
  have h1 := or_sum (a := x % 2 ^ (64 - s)) haw hlt hs
  rw [ha] at h1 haw
  have hs2 : (2 : Nat) ^ s ≤ 18446744073709551616 := Nat.pow_le_pow_right (n := 2) (by decide) hs
  have h2 : bits BinOp.or IntKind.u64 (b : Int) (a : Int) = bits BinOp.or IntKind.u64 (a : Int) (b : Int) := by
    rw [(bits_nat .u64 64 (by decide) (fun n h0 h1 => by rw [IntKind.wrap_u64]; omega) b a (by omega) haw).2, (bits_nat .u64 64 (by decide) (fun n h0 h1 => by rw [IntKind.wrap_u64]; omega) a b haw (by omega)).2, Nat.or_comm]
  refine ⟨h1, by rw [h2, h1, Nat.add_comm], ?_⟩
  have h3 : x % 2 ^ (64 - s) + 1 ≤ 2 ^ (64 - s) := Nat.mod_lt _ (Nat.pow_pos (by decide))
  have h4 := Nat.mul_le_mul_right (2 ^ s) h3
  rw [Nat.mul_comm (2 ^ (64 - s)), pow_split hs, Nat.add_mul, Nat.one_mul, ha] at h4
  omega
theorem shl_int (x s a : Nat) (ha : x * 2 ^ s % 18446744073709551616 = a) : IntKind.u64.wrap ((x : Int) * 2 ^ s) = (a : Int) := by
  have e : (x : Int) * 2 ^ s = ((x * 2 ^ s : Nat) : Int) := by rw [Int.natCast_mul, Int.natCast_pow]; rfl
  rw [e, IntKind.wrap_u64]
  omega
theorem shr_int (x t b : Nat) (hb : x / 2 ^ t = b) : (x : Int) / 2 ^ t = (b : Int) := by
  rw [← hb, Int.natCast_ediv, Int.natCast_pow]; rfl
theorem lshC_at {s : Nat} {xs : List Nat} {i : Nat} (h : i < xs.length) : (lshC s 0 xs)[i]'(by rw [lshC_length]; exact h) = xs[i] * 2 ^ s % 18446744073709551616 + (if i = 0 then 0 else xs.getD (i - 1) 0 / 2 ^ (64 - s)) := by
  have h1 := lshC_get s 0 xs i h
  rw [List.getElem?_eq_getElem (by rw [lshC_length]; exact h)] at h1
  exact Option.some.inj h1
/-- lshVU's loop: the words above i have been shifted. -/
def LshRel (w : World) (g : Nat) (zs xs : List Nat) (s : Nat) (iv : Value) (wr : World) : Prop :=
  ∃ i : Nat, iv = .int .i64 (i : Int) ∧ i < xs.length ∧ Row wr g .u64 106 (over zs (i + 1) ((lshC s 0 xs).drop (i + 1))) ∧ Ext (fun b => b = g) w wr ∧ wr.heap.size = w.heap.size
def LshPost (w : World) (g : Nat) (zs xs : List Nat) (s : Nat) (e : Ending) (w' : World) : Prop :=
  e = .returned (.int .u64 ((lshOut s 0 xs : Nat) : Int)) ∧ Row w' g .u64 106 (over zs 0 (lshC s 0 xs)) ∧ Ext (fun b => b = g) w w' ∧ w'.heap.size = w.heap.size
def idxN : Value → Nat | .int _ k => k.toNat | _ => 0

set_option maxRecDepth 100000 in
set_option maxHeartbeats 4000000 in
theorem lshVU_g_walk (g : Nat) (zs xs : List Nat) (X : Option Addr) (cz cx s : Nat) (w : World) (hrow : Row w g .u64 106 zs) (hx : Rd w X (nums .u64 xs)) (hX : ∀ a, X = some a → a.block ≠ g) (hz : xs.length ≤ zs.length)
    (hxw : ∀ d ∈ xs, d < 18446744073709551616) (hl : xs.length ≤ 1000000) (hl0 : 0 < xs.length) (hs1 : 1 ≤ s) (hs2 : s < 64) :
    Calls Tryz.prog 229 #[.slice (some ⟨g, 0, none⟩) xs.length cz, .slice X xs.length cx, .int .u64 s] w (LshPost w g zs xs s) := by
  have hsb : ((s : Int) == 0) = false := beq_eq_false_iff_ne.2 (by omega)
  have hs3 : (1 : Int) ≤ s := by omega
  have hs4 : (s : Int) < 64 := by omega
  have hm1 := mask63 s hs2
  obtain ⟨t, ht⟩ : ∃ t, 64 - s = t := ⟨_, rfl⟩
  have hm2 := mask63 t (by omega)
  have hts : (64 : Int) - s = (t : Int) := by omega
  have ht0 : (0 : Int) ≤ t := by omega
  have ht1 : (t : Int) < 64 := by omega
  obtain ⟨n, hn⟩ : ∃ n, xs.length = n + 1 := ⟨xs.length - 1, by omega⟩
  have hnl : n < xs.length := by omega
  -- the last word
  obtain ⟨a0, rfl, ha0⟩ := rd_cell hx hnl
  have hout := lshOut_last s 0 xs hl0
  rw [hn, Nat.add_sub_cancel] at hout
  have hgd : xs.getD n 0 = xs[n] := by simp [List.getD_eq_getElem?_getD, List.getElem?_eq_getElem hnl]
  rw [hgd] at hout
  obtain ⟨xn, hxn⟩ : ∃ xn, xs[n] = xn := ⟨_, rfl⟩
  rw [hxn] at ha0 hout
  rw [ht] at hout
  have q1 := shr_int xn t _ rfl
  rw [← hout] at q1
  obtain ⟨oc, hoc⟩ : ∃ oc, lshOut s 0 xs = oc := ⟨_, rfl⟩
  unfold LshPost
  rw [hoc] at q1 ⊢
  have hn1 : ((n + 1 : Nat) : Int) = (n : Int) + 1 := by omega
  have hn2 : (n : Int) ≤ 1000000 := by omega
  have hnb : (((n : Int) + 1) == 0) = false := beq_eq_false_iff_ne.2 (by omega)
  have HX := Lib.hid hx
  have HXB := Lib.hid hX
  have HXW := Lib.hid hxw
  have HR := Lib.hid hrow
  have HN := Lib.hid hn
  have HT := Lib.hid ht
  rw [hn]
  rw [hn] at hl hz
  have hn0 : (0 : Int) ≤ n := by omega
  have hn3 : (n : Int) < (n : Int) + 1 := by omega
  clear hx hX hxw hrow hn hout hgd hxn hoc ht hl0 hnl
  go_enter Tryz.func229, Tryz.ntmps229
  go_wp2_with fail
  clear q1 hm1 hm2 hts
  go_loopw [8] (fun iv wr => LshRel w g zs xs s iv wr) (fun iv _ => idxN iv)
  case atStart => exact ⟨n, rfl, by rw [HN.out]; exact Nat.lt_succ_self _, by rw [List.drop_of_length_le (by rw [lshC_length, HN.out]; exact Nat.le_refl _), over_nil]; exact HR.out, Ext.refl _ _, rfl⟩
  case round =>
    obtain ⟨i, rfl, hi, hrow, hx, hsz⟩ := hrel
    have HROW := Lib.hid hrow
    have hLl : (lshC s 0 xs).length = xs.length := lshC_length s 0 xs
    have hLi := lshC_at (s := s) hi
    have hol : (over zs (i + 1) ((lshC s 0 xs).drop (i + 1))).length = zs.length := over_length (by rw [List.length_drop, hLl]; have := HN.out; omega)
    obtain ⟨a1, ha1e, ha1⟩ := rd_cell (HX.out.ext1 hx HXB.out) hi
    cases ha1e
    have hxi : xs[i] < 18446744073709551616 := HXW.out _ (List.getElem_mem _)
    have hdr : (lshC s 0 xs).drop i = (lshC s 0 xs)[i]'(by rw [hLl]; exact hi) :: (lshC s 0 xs).drop (i + 1) := List.drop_eq_getElem_cons _
    obtain ⟨Li, hLie⟩ : ∃ Li, (lshC s 0 xs)[i]'(by rw [hLl]; exact hi) = Li := ⟨_, rfl⟩
    rw [hLie] at hdr hLi
    obtain ⟨xi, hxie⟩ : ∃ xi, xs[i] = xi := ⟨_, rfl⟩
    rw [hxie] at hxi hLi ha1
    have hst : ∀ (w2 : World), Row w2 g .u64 106 (over zs (i + 1) ((lshC s 0 xs).drop (i + 1))) → Row (w2.setCell ⟨g, i, none⟩ (.int .u64 (Li : Int))) g .u64 106 (over zs i ((lshC s 0 xs).drop i)) := by
      intro w2 h2
      rw [hdr, ← over_set_pre (by rw [HN.out] at hi; omega)]
      exact h2.set _ _
    have HST := Lib.hid hst
    have fR := hrow.free i
    have hcR : ∃ old : Nat, wr.cell? ⟨g, i, none⟩ = some (.int .u64 old) := ⟨_, hrow.cell (j := i) (by rw [hol]; rw [HN.out] at hi; omega)⟩
    obtain ⟨old, hcR⟩ := hcR
    obtain ⟨av, hav⟩ : ∃ av, xi * 2 ^ s % 18446744073709551616 = av := ⟨_, rfl⟩
    have g1 := shl_int xi s av hav
    rw [hav] at hLi
    have havw : av < 18446744073709551616 := by rw [← hav]; exact Nat.mod_lt _ (by decide)
    by_cases hi0 : i = 0
    · subst hi0
      rw [if_pos rfl, Nat.add_zero] at hLi
      subst hLi
      have hfin : over zs 0 ((lshC s 0 xs).drop 0) = over zs 0 (lshC s 0 xs) := by rw [List.drop_zero]
      have HF := Lib.hid hfin
      have e0 : a0.add 0 = a0 := by unfold Addr.add; rw [if_pos rfl]
      rw [e0] at ha1
      clear hrow hLl hol hdr hLie hxie hst hav hfin e0 hxi
      go_wp2_with fail
      go_ret
      have h3 := HST.out wr HROW.out
      rw [HF.out] at h3
      exact ⟨rfl, h3, Ext.setCell (D := fun b => b = g) (p := ⟨g, 0, none⟩) hx (fun _ => rfl) _, by simpa [World.setCell] using hsz⟩
    · obtain ⟨k, hki⟩ : ∃ k, i - 1 = k := ⟨_, rfl⟩
      rw [if_neg hi0, hki] at hLi
      have hk : k < xs.length := by omega
      have hgk : xs.getD k 0 = xs[k] := by simp [List.getD_eq_getElem?_getD, List.getElem?_eq_getElem hk]
      obtain ⟨a2, ha2e, ha2⟩ := rd_cell (HX.out.ext1 hx HXB.out) hk
      cases ha2e
      have hxk : xs[k] < 18446744073709551616 := HXW.out _ (List.getElem_mem _)
      rw [hgk] at hLi
      obtain ⟨xk, hxke⟩ : ∃ xk, xs[k] = xk := ⟨_, rfl⟩
      rw [hxke] at hLi ha2 hxk
      obtain ⟨bv, hbv⟩ : ∃ bv, xk / 2 ^ (64 - s) = bv := ⟨_, rfl⟩
      obtain ⟨j1, _, j3⟩ := sh_join (Nat.le_of_lt hs2) hxk hav hbv
      rw [hbv] at hLi
      rw [HT.out] at hbv
      have g2 := shr_int xk t bv hbv
      rw [← hLi] at j1 j3
      have hik : (i : Int) - 1 = (k : Int) := by omega
      have hwk : IntKind.i64.wrap (k : Int) = (k : Int) := by rw [IntKind.wrap_i64]; have := HN.out; omega
      have hkl : (i : Int) < (n : Int) + 1 := by have := HN.out; omega
      have hk0 : (0 : Int) ≤ k := by omega
      have hk2 : (0 : Int) ≤ (i : Int) := by omega
      have hk3 : (0 : Int) < (i : Int) := by omega
      have hk4 : (k : Int) < (n : Int) + 1 := by omega
      have hki2 : k < i := by omega
      have hki1 : i = k + 1 := by omega
      have HKI := Lib.hid hki1
      have HKK := Lib.hid hk
      clear hrow hLl hol hdr hLie hxie hst hav hLi hi0 hgk hxke hbv hi hk hxi hxk hki hki1 hki2
      go_wp2_with fail
      go_still_tail 17, (by kernel_rfl)
      change wpList _ _ _ _ _ wr.drew
      go_wp2_with fail
      have h3 := HST.out wr.drew (HROW.out.drew 1)
      rw [HKI.out] at h3 ⊢
      exact ⟨⟨k, rfl, HKK.out, h3, Ext.setCell (D := fun b => b = g) (p := ⟨g, k + 1, none⟩) hx.drew (fun _ => rfl) _, by simpa [World.setCell] using hsz⟩, by simp [idxN]⟩

set_option maxRecDepth 100000 in
set_option maxHeartbeats 1000000 in
theorem lshVU_walk (g : Nat) (zs xs : List Nat) (X : Option Addr) (cz cx s : Nat) (w : World) (hrow : Row w g .u64 106 zs) (hx : Rd w X (nums .u64 xs)) (hX : ∀ a, X = some a → a.block ≠ g) (hz : xs.length ≤ zs.length)
    (hxw : ∀ d ∈ xs, d < 18446744073709551616) (hl : xs.length ≤ 1000000) (hl0 : 0 < xs.length) (hs1 : 1 ≤ s) (hs2 : s < 64) :
    Calls Tryz.prog 199 #[.slice (some ⟨g, 0, none⟩) xs.length cz, .slice X xs.length cx, .int .u64 s] w (LshPost w g zs xs s) := by
  have HG := Lib.hid (lshVU_g_walk g zs xs X cz cx s w hrow hx hX hz hxw hl hl0 hs1 hs2)
  clear hrow hx hX hxw
  go_enter Tryz.func199, Tryz.ntmps199
  go_wp2_with fail
  refine HG.out.mono ?_
  rintro e w1 ⟨rfl, hp⟩
  have HP := Lib.hid hp
  clear hp
  go_wp2_with fail
  go_ret
  exact ⟨rfl, HP.out⟩
end Go.Proofs.YtapfolgiafnllaaGreatDoor
