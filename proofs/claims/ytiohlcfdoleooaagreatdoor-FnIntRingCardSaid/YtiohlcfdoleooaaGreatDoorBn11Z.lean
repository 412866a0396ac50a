/-
  (*big.Int).Mul of two numbers into a new one.
-/
import Derived.Test.YtiohlcfdoleooaaGreatDoorBn18Z
import Derived.Test.YtiohlcfdoleooaaGreatDoorBn01Z
import Derived.BigRegion
import Derived.Test.YtiohlcfdoleooaaGreatDoorBn06Z
import Derived.Test.YtiohlcfdoleooaaGreatDoorBn07Z
namespace Go.Proofs.YtiohlcfdoleooaaGreatDoor
open Go.RowKit

theorem bigMul_sign {x y : Int} (h : x.natAbs * y.natAbs ≠ 0) : ((decide (x < 0)) != (decide (y < 0))) = decide (x * y < 0) := by
  have hx : x ≠ 0 := by rintro rfl; exact h (by rw [Int.natAbs_zero, Nat.zero_mul])
  have hy : y ≠ 0 := by rintro rfl; exact h (by rw [Int.natAbs_zero, Nat.mul_zero])
  rcases Int.lt_or_gt_of_ne hx with h1 | h1 <;> rcases Int.lt_or_gt_of_ne hy with h2 | h2
  · rw [decide_eq_true h1, decide_eq_true h2, decide_eq_false (Int.not_lt.2 (Int.le_of_lt (Int.mul_pos_of_neg_of_neg h1 h2)))]; rfl
  · rw [decide_eq_true h1, decide_eq_false (Int.not_lt.2 (Int.le_of_lt h2)), decide_eq_true (Int.mul_neg_of_neg_of_pos h1 h2)]; rfl
  · rw [decide_eq_false (Int.not_lt.2 (Int.le_of_lt h1)), decide_eq_true h2, decide_eq_true (Int.mul_neg_of_pos_of_neg h1 h2)]; rfl
  · rw [decide_eq_false (Int.not_lt.2 (Int.le_of_lt h1)), decide_eq_false (Int.not_lt.2 (Int.le_of_lt h2)), decide_eq_false (Int.not_lt.2 (Int.le_of_lt (Int.mul_pos h1 h2)))]; rfl

/-- The words of a product have been laid down; its sign not yet. -/
def MulMid (w : World) (gz N : Nat) (wx : World) : Prop :=
  ∃ A c, wx.heap[gz]? = some (.cells #[.bool false, .slice A (wds N).length c] 101 (0, 0)) ∧ (wds N).length ≤ c ∧ c ≤ 9223372036854775807 ∧ Wd wx A (wds N) ∧ (∀ a, A = some a → a.block ≠ gz) ∧ Ext (fun b => b = gz) w wx

set_option maxRecDepth 100000 in
set_option maxHeartbeats 4000000 in
theorem intMul0_walk (gz gx gy : Nat) (x y : Int) (stk : Value) (w : World) (hz : IntNew w gz) (hx : IntAt w gx x) (hy : IntAt w gy y) (hne : gy ≠ gx) (hgx : gx ≠ gz) (hgy : gy ≠ gz) (hk : KaraIs w) (hlx : (wds x.natAbs).length < 40) (hly : (wds y.natAbs).length < 40) :
    Calls Tryz.prog 184 #[.pointer (some ⟨gz, 0, none⟩), stk, .pointer (some ⟨gx, 0, none⟩), .pointer (some ⟨gy, 0, none⟩)] w fun e w' => e = .returned (.tuple #[]) ∧ IntAt w' gz (x * y) ∧ Ext (fun b => b = gz) w w' := by
  obtain ⟨A, c, hkx, h2, h3, h4⟩ := hx
  obtain ⟨B, d, hky, i2, i3, i4⟩ := hy
  have hnq := (int_neq hne hkx hky).2
  have c0 := num_cell0 hz
  have c1 := num_cell1 hz
  have d0 := num_cell0 hkx
  have d1 := num_cell1 hkx
  have e0 := num_cell0 hky
  have e1 := num_cell1 hky
  have HM := Lib.hid (fun (w2 : World) (hh : w2.heap = w.heap) => natMul_walk x.natAbs y.natAbs A B c d w2 h2 h3 i2 i3 (rd_heap h4.rd hh) (rd_heap i4.rd hh) ((cell_heap hh _ _).trans hk) hlx hly stk)
  have HZ := Lib.hid hz
  have HKX := Lib.hid hkx
  have HKY := Lib.hid hky
  have hlt := iter_lt hz
  have HLT := Lib.hid hlt
  obtain ⟨nx, hnx2⟩ : ∃ nx, decide (x < 0) = nx := ⟨_, rfl⟩
  obtain ⟨ny, hny2⟩ : ∃ ny, decide (y < 0) = ny := ⟨_, rfl⟩
  have hsg := fun h => bigMul_sign (x := x) (y := y) h
  rw [hnx2, hny2] at hsg
  rw [hnx2] at d0 HKX
  rw [hny2] at e0 HKY
  have HSG := Lib.hid hsg
  have HSS := Lib.hid (Int.natAbs_mul x y)
  clear h4 i4 hz hkx hky hnx2 hny2 hsg hk
  go_enter Tryz.func184, Tryz.ntmps184
  go_upto_region 3 with fail
  go_cut [41] (fun _ wx => MulMid w gz (x.natAbs * y.natAbs) wx)
  case first =>
    go_region_with ((go_at_call 207; refine (HM.out _ (by first | exact heap_drew' _ | exact heap_drewN' _ _)).mono ?_; rintro e w1 ⟨A1, c1', rfl, hown, hb, hs1⟩; have hk1 : w1.heap[gz]? = some (.cells #[.bool false, .slice none 0 0] 101 (0, 0)) := (hb.block gz (HLT.out)).trans HZ.out; have g0 := num_cell0 hk1; have g1 := num_cell1 hk1; have f0 := one_free hk1 0; have f1 := one_free hk1 1; have HK1 := Lib.hid hk1; have HO := Lib.hid hown; have HB := Lib.hid hb; clear hk1 hown hb))
    all_goals (go_wp2_with fail)
    all_goals go_meet
    all_goals
      have ho2 : OwnNat (gz + 1) w1 A1 c1' (x.natAbs * y.natAbs) := own_low HO.out (by exact HLT.out)
      have hx2 : Ext (fun b => b = gz) w w1 := ext_any (heap_drew' _) rfl rfl rfl HB.out
      have hge := ho2.ge
      exact ⟨A1, c1', cells_set HK1.out 1 _, ho2.room.1, by have := ho2.room; omega, ho2.wd.other _ (fun a ha => by have := hge a ha; show a.block ≠ gz; omega), fun a ha => by have := hge a ha; omega, Ext.setCell (D := fun b => b = gz) (p := ⟨gz, 1, none⟩) hx2 (fun _ => rfl) _⟩
  case rest =>
    obtain ⟨A1, c1', hk1, hl1, hm1, hwd, hfar, hx⟩ := hcut
    have p0 := num_cell0 ((hx.block gx (iter_lt HKX.out) (by exact hgx)).trans HKX.out)
    have p1 := num_cell0 ((hx.block gy (iter_lt HKY.out) (by exact hgy)).trans HKY.out)
    have p2 := num_cell1 hk1
    have p3 := one_free hk1 0
    have p4 := num_cell0 hk1
    have HK1 := Lib.hid hk1
    have HX := Lib.hid hx
    have HWD := Lib.hid hwd
    have HFR := Lib.hid hfar
    have fin : ∀ (wy : World) (b : Bool), wy.heap = wc.heap → b = decide (x * y < 0) → IntAt (wy.setCell ⟨gz, 0, none⟩ (.bool b)) gz (x * y) := by
      intro wy b hh hb
      have hk2 : wy.heap[gz]? = some (.cells #[.bool false, .slice A1 (wds (x.natAbs * y.natAbs)).length c1'] 101 (0, 0)) := by rw [hh]; exact HK1.out
      have hk3 := cells_set hk2 0 (.bool b)
      refine ⟨A1, c1', ?_, by rw [HSS.out]; exact hl1, hm1, ?_⟩
      · rw [HSS.out, ← hb]; exact hk3
      · rw [HSS.out]
        exact (HWD.out.of_heap hh).other _ (fun a ha => HFR.out a ha)
    have FIN := Lib.hid fin
    clear hk1 hx hwd hfar fin d0 d1 e0 e1 c0 c1 hnq
    by_cases h0 : x.natAbs * y.natAbs = 0
    · have hlen2 : (wds (x.natAbs * y.natAbs)).length = 0 := by rw [h0, wds_zero]; rfl
      have hng : false = decide (x * y < 0) := by
        have := Int.natAbs_mul x y
        rw [h0] at this
        rw [Int.natAbs_eq_zero.1 this]
        rfl
      have HNG := Lib.hid hng
      rw [hlen2] at p2
      clear h0 hlen2 hng hl1
      go_wp2_with fail
      refine wp_region_still_tail 20 (by kernel_rfl) (by kernel_rfl) ?_
      simp only [List.take_succ_cons, List.take_zero, List.drop_succ_cons, List.drop_zero]
      iterate 6 still_step
      refine wpStill_step (fun K hK => ?_)
      go_simp
      obtain ⟨bb, hbb⟩ : ∃ bb, false = bb := ⟨_, rfl⟩
      rw [hbb]
      have HBB := Lib.hid hbb
      clear hbb
      refine hK _ ?_
      clear hK K
      still_step
      iterate 9
        refine wpStill_step (fun K hK => ?_)
        rw [if_neg (by simp [Region.wanted, yielded, ← HBB.out])]
        go_simp
        refine hK _ ?_
        clear hK K
      still_step
      have hpk : (if bb = true then undef else Value.bool false) = Value.bool false := by rw [← HBB.out]; rfl
      rw [hpk]
      clear hpk
      still_step
      still_step
      refine wpStill_nil ?_
      change wpList _ _ _ _ _ wc.drew
      go_wp2_with fail
      go_end0
      exact ⟨rfl, FIN.out wc.drew _ rfl HNG.out, Ext.setCell (D := fun b => b = gz) (p := ⟨gz, 0, none⟩) HX.out.drew (fun _ => rfl) _⟩
    · have hlen := wds_pos.2 h0
      have HFN := Lib.hid (HSG.out h0)
      obtain ⟨n, hn⟩ : ∃ n, (wds (x.natAbs * y.natAbs)).length = n := ⟨_, rfl⟩
      rw [hn] at p2 hlen
      have hd0 : decide (0 < n) = true := decide_eq_true hlen
      clear h0 hn hl1
      go_wp2_with fail
      go_still_tail 20, (by kernel_rfl)
      change wpList _ _ _ _ _ wc.drew
      go_wp2_with fail
      go_end0
      exact ⟨rfl, FIN.out wc.drew _ rfl HFN.out, Ext.setCell (D := fun b => b = gz) (p := ⟨gz, 0, none⟩) HX.out.drew (fun _ => rfl) _⟩

set_option maxRecDepth 100000 in
set_option maxHeartbeats 1000000 in
theorem intMul_walk (gz gx gy : Nat) (x y : Int) (w : World) (hz : IntNew w gz) (hx : IntAt w gx x) (hy : IntAt w gy y) (hne : gy ≠ gx) (hgx : gx ≠ gz) (hgy : gy ≠ gz) (hk : KaraIs w) (hlx : (wds x.natAbs).length < 40) (hly : (wds y.natAbs).length < 40) :
    Calls Tryz.prog 142 #[.pointer (some ⟨gz, 0, none⟩), .pointer (some ⟨gx, 0, none⟩), .pointer (some ⟨gy, 0, none⟩)] w fun e w' => e = .returned (.pointer (some ⟨gz, 0, none⟩)) ∧ IntAt w' gz (x * y) ∧ Ext (fun b => b = gz) w w' := by
  have HM := Lib.hid (intMul0_walk gz gx gy x y (.pointer none) w hz hx hy hne hgx hgy hk hlx hly)
  clear hz hx hy hk
  go_enter Tryz.func142, Tryz.ntmps142
  go_wp2_with fail
  refine HM.out.mono ?_
  rintro e w1 ⟨rfl, hp⟩
  have HP := Lib.hid hp
  clear hp
  go_wp2_with fail
  go_ret
  exact ⟨rfl, HP.out⟩
end Go.Proofs.YtiohlcfdoleooaaGreatDoor

/-
  math/big's lshVU, rshVU: numbers of words, shifted by less than a word.
-/
namespace Go.Proofs.YtiohlcfdoleooaaGreatDoor
open Go.RowKit

theorem shl_word {s : Nat} (hs : s ≤ 64) (x : Nat) : x * 2 ^ s % 18446744073709551616 = (x % 2 ^ (64 - s)) * 2 ^ s := by
  rw [← pow_split hs, Nat.mul_comm x, Nat.mul_mod_mul_left, Nat.mul_comm]
/-- Two words' bits, put together. -/
theorem sh_join {s x y a b : Nat} (hs : s ≤ 64) (hy : y < 18446744073709551616) (ha : x * 2 ^ s % 18446744073709551616 = a) (hb : y / 2 ^ (64 - s) = b) : bits BinOp.or IntKind.u64 (a : Int) (b : Int) = ((a + b : Nat) : Int) ∧ bits BinOp.or IntKind.u64 (b : Int) (a : Int) = ((b + a : Nat) : Int) ∧ a + b < 18446744073709551616 := by
  have hlt : b < 2 ^ s := by
    rw [← hb, Nat.div_lt_iff_lt_mul (Nat.pow_pos (by decide)), pow_split hs]
    exact hy
  rw [shl_word hs] at ha
  have haw : (x % 2 ^ (64 - s)) * 2 ^ s < 18446744073709551616 := by rw [← shl_word hs]; exact Nat.mod_lt _ (by decide)
  have h1 := or_sum (a := x % 2 ^ (64 - s)) haw hlt hs
  rw [ha] at h1 haw
  have hs2 : (2 : Nat) ^ s ≤ 18446744073709551616 := Nat.pow_le_pow_right (n := 2) (by decide) hs
  have h2 : bits BinOp.or IntKind.u64 (b : Int) (a : Int) = bits BinOp.or IntKind.u64 (a : Int) (b : Int) := by
    rw [(bits_nat .u64 64 (by decide) (fun n h0 h1 => by rw [IntKind.wrap_u64]; omega) b a (by omega) haw).2, (bits_nat .u64 64 (by decide) (fun n h0 h1 => by rw [IntKind.wrap_u64]; omega) a b haw (by omega)).2, Nat.or_comm]
  refine ⟨h1, by rw [h2, h1, Nat.add_comm], ?_⟩
  have h3 : x % 2 ^ (64 - s) + 1 ≤ 2 ^ (64 - s) := Nat.mod_lt _ (Nat.pow_pos (by decide))
  have h4 := Nat.mul_le_mul_right (2 ^ s) h3
  rw [Nat.mul_comm (2 ^ (64 - s)), pow_split hs, Nat.add_mul, Nat.one_mul, ha] at h4
  omega
theorem shl_int (x s a : Nat) (ha : x * 2 ^ s % 18446744073709551616 = a) : IntKind.u64.wrap ((x : Int) * 2 ^ s) = (a : Int) := by
  have e : (x : Int) * 2 ^ s = ((x * 2 ^ s : Nat) : Int) := by rw [Int.natCast_mul, Int.natCast_pow]; rfl
  rw [e, IntKind.wrap_u64]
  omega
theorem shr_int (x t b : Nat) (hb : x / 2 ^ t = b) : (x : Int) / 2 ^ t = (b : Int) := by
  rw [← hb, Int.natCast_ediv, Int.natCast_pow]; rfl
theorem lshC_at {s : Nat} {xs : List Nat} {i : Nat} (h : i < xs.length) : (lshC s 0 xs)[i]'(by rw [lshC_length]; exact h) = xs[i] * 2 ^ s % 18446744073709551616 + (if i = 0 then 0 else xs.getD (i - 1) 0 / 2 ^ (64 - s)) := by
  have h1 := lshC_get s 0 xs i h
  rw [List.getElem?_eq_getElem (by rw [lshC_length]; exact h)] at h1
  exact Option.some.inj h1
/-- lshVU's loop: the words above i have been shifted. -/
def LshRel (w : World) (g : Nat) (zs xs : List Nat) (s : Nat) (iv : Value) (wr : World) : Prop :=
  ∃ i : Nat, iv = .int .i64 (i : Int) ∧ i < xs.length ∧ Row wr g .u64 150 (over zs (i + 1) ((lshC s 0 xs).drop (i + 1))) ∧ Ext (fun b => b = g) w wr ∧ wr.heap.size = w.heap.size
def LshPost (w : World) (g : Nat) (zs xs : List Nat) (s : Nat) (e : Ending) (w' : World) : Prop :=
  e = .returned (.int .u64 ((lshOut s 0 xs : Nat) : Int)) ∧ Row w' g .u64 150 (over zs 0 (lshC s 0 xs)) ∧ Ext (fun b => b = g) w w' ∧ w'.heap.size = w.heap.size
def idxN : Value → Nat | .int _ k => k.toNat | _ => 0

set_option maxRecDepth 100000 in
set_option maxHeartbeats 4000000 in
theorem lshVU_g_walk (g : Nat) (zs xs : List Nat) (X : Option Addr) (cz cx s : Nat) (w : World) (hrow : Row w g .u64 150 zs) (hx : Rd w X (nums .u64 xs)) (hX : ∀ a, X = some a → a.block ≠ g) (hz : xs.length ≤ zs.length)
    (hxw : ∀ d ∈ xs, d < 18446744073709551616) (hl : xs.length ≤ 1000000) (hl0 : 0 < xs.length) (hs1 : 1 ≤ s) (hs2 : s < 64) :
    Calls Tryz.prog 293 #[.slice (some ⟨g, 0, none⟩) xs.length cz, .slice X xs.length cx, .int .u64 s] w (LshPost w g zs xs s) := by
  have hsb : ((s : Int) == 0) = false := beq_eq_false_iff_ne.2 (by omega)
  have hs3 : (1 : Int) ≤ s := by omega
  have hs4 : (s : Int) < 64 := by omega
  have hm1 := mask63 s hs2
  obtain ⟨t, ht⟩ : ∃ t, 64 - s = t := ⟨_, rfl⟩
  have hm2 := mask63 t (by omega)
  have hts : (64 : Int) - s = (t : Int) := by omega
  have ht0 : (0 : Int) ≤ t := by omega
  have ht1 : (t : Int) < 64 := by omega
  obtain ⟨n, hn⟩ : ∃ n, xs.length = n + 1 := ⟨xs.length - 1, by omega⟩
  have hnl : n < xs.length := by omega
  -- the last word
  obtain ⟨a0, rfl, ha0⟩ := rd_cell hx hnl
  have hout := lshOut_last s 0 xs hl0
  rw [hn, Nat.add_sub_cancel] at hout
  have hgd : xs.getD n 0 = xs[n] := by simp [List.getD_eq_getElem?_getD, List.getElem?_eq_getElem hnl]
  rw [hgd] at hout
  obtain ⟨xn, hxn⟩ : ∃ xn, xs[n] = xn := ⟨_, rfl⟩
  rw [hxn] at ha0 hout
  rw [ht] at hout
  have q1 := shr_int xn t _ rfl
  rw [← hout] at q1
  obtain ⟨oc, hoc⟩ : ∃ oc, lshOut s 0 xs = oc := ⟨_, rfl⟩
  unfold LshPost
  rw [hoc] at q1 ⊢
  have hn1 : ((n + 1 : Nat) : Int) = (n : Int) + 1 := by omega
  have hn2 : (n : Int) ≤ 1000000 := by omega
  have hnb : (((n : Int) + 1) == 0) = false := beq_eq_false_iff_ne.2 (by omega)
  have HX := Lib.hid hx
  have HXB := Lib.hid hX
  have HXW := Lib.hid hxw
  have HR := Lib.hid hrow
  have HN := Lib.hid hn
  have HT := Lib.hid ht
  rw [hn]
  rw [hn] at hl hz
  have hn0 : (0 : Int) ≤ n := by omega
  have hn3 : (n : Int) < (n : Int) + 1 := by omega
  clear hx hX hxw hrow hn hout hgd hxn hoc ht hl0 hnl
  go_enter Tryz.func293, Tryz.ntmps293
  go_wp2_with fail
  clear q1 hm1 hm2 hts
  go_loopw [8] (fun iv wr => LshRel w g zs xs s iv wr) (fun iv _ => idxN iv)
  case atStart => exact ⟨n, rfl, by rw [HN.out]; exact Nat.lt_succ_self _, by rw [List.drop_of_length_le (by rw [lshC_length, HN.out]; exact Nat.le_refl _), over_nil]; exact HR.out, Ext.refl _ _, rfl⟩
  case round =>
    obtain ⟨i, rfl, hi, hrow, hx, hsz⟩ := hrel
    have HROW := Lib.hid hrow
    have hLl : (lshC s 0 xs).length = xs.length := lshC_length s 0 xs
    have hLi := lshC_at (s := s) hi
    have hol : (over zs (i + 1) ((lshC s 0 xs).drop (i + 1))).length = zs.length := over_length (by rw [List.length_drop, hLl]; have := HN.out; omega)
    obtain ⟨a1, ha1e, ha1⟩ := rd_cell (HX.out.ext1 hx HXB.out) hi
    cases ha1e
    have hxi : xs[i] < 18446744073709551616 := HXW.out _ (List.getElem_mem _)
    have hdr : (lshC s 0 xs).drop i = (lshC s 0 xs)[i]'(by rw [hLl]; exact hi) :: (lshC s 0 xs).drop (i + 1) := List.drop_eq_getElem_cons _
    obtain ⟨Li, hLie⟩ : ∃ Li, (lshC s 0 xs)[i]'(by rw [hLl]; exact hi) = Li := ⟨_, rfl⟩
    rw [hLie] at hdr hLi
    obtain ⟨xi, hxie⟩ : ∃ xi, xs[i] = xi := ⟨_, rfl⟩
    rw [hxie] at hxi hLi ha1
    have hst : ∀ (w2 : World), Row w2 g .u64 150 (over zs (i + 1) ((lshC s 0 xs).drop (i + 1))) → Row (w2.setCell ⟨g, i, none⟩ (.int .u64 (Li : Int))) g .u64 150 (over zs i ((lshC s 0 xs).drop i)) := by
      intro w2 h2
      rw [hdr, ← over_set_pre (by rw [HN.out] at hi; omega)]
      exact h2.set _ _
    have HST := Lib.hid hst
    have fR := hrow.free i
    have hcR : ∃ old : Nat, wr.cell? ⟨g, i, none⟩ = some (.int .u64 old) := ⟨_, hrow.cell (j := i) (by rw [hol]; rw [HN.out] at hi; omega)⟩
    obtain ⟨old, hcR⟩ := hcR
    obtain ⟨av, hav⟩ : ∃ av, xi * 2 ^ s % 18446744073709551616 = av := ⟨_, rfl⟩
    have g1 := shl_int xi s av hav
    rw [hav] at hLi
    have havw : av < 18446744073709551616 := by rw [← hav]; exact Nat.mod_lt _ (by decide)
    by_cases hi0 : i = 0
    · subst hi0
      rw [if_pos rfl, Nat.add_zero] at hLi
      subst hLi
      have hfin : over zs 0 ((lshC s 0 xs).drop 0) = over zs 0 (lshC s 0 xs) := by rw [List.drop_zero]
      have HF := Lib.hid hfin
      have e0 : a0.add 0 = a0 := by unfold Addr.add; rw [if_pos rfl]
      rw [e0] at ha1
      clear hrow hLl hol hdr hLie hxie hst hav hfin e0 hxi
      go_wp2_with fail
      go_ret
      have h3 := HST.out wr HROW.out
      rw [HF.out] at h3
      exact ⟨rfl, h3, Ext.setCell (D := fun b => b = g) (p := ⟨g, 0, none⟩) hx (fun _ => rfl) _, by simpa [World.setCell] using hsz⟩
    · obtain ⟨k, hki⟩ : ∃ k, i - 1 = k := ⟨_, rfl⟩
      rw [if_neg hi0, hki] at hLi
      have hk : k < xs.length := by omega
      have hgk : xs.getD k 0 = xs[k] := by simp [List.getD_eq_getElem?_getD, List.getElem?_eq_getElem hk]
      obtain ⟨a2, ha2e, ha2⟩ := rd_cell (HX.out.ext1 hx HXB.out) hk
      cases ha2e
      have hxk : xs[k] < 18446744073709551616 := HXW.out _ (List.getElem_mem _)
      rw [hgk] at hLi
      obtain ⟨xk, hxke⟩ : ∃ xk, xs[k] = xk := ⟨_, rfl⟩
      rw [hxke] at hLi ha2 hxk
      obtain ⟨bv, hbv⟩ : ∃ bv, xk / 2 ^ (64 - s) = bv := ⟨_, rfl⟩
      obtain ⟨j1, _, j3⟩ := sh_join (Nat.le_of_lt hs2) hxk hav hbv
      rw [hbv] at hLi
      rw [HT.out] at hbv
      have g2 := shr_int xk t bv hbv
      rw [← hLi] at j1 j3
      have hik : (i : Int) - 1 = (k : Int) := by omega
      have hwk : IntKind.i64.wrap (k : Int) = (k : Int) := by rw [IntKind.wrap_i64]; have := HN.out; omega
      have hkl : (i : Int) < (n : Int) + 1 := by have := HN.out; omega
      have hk0 : (0 : Int) ≤ k := by omega
      have hk2 : (0 : Int) ≤ (i : Int) := by omega
      have hk3 : (0 : Int) < (i : Int) := by omega
      have hk4 : (k : Int) < (n : Int) + 1 := by omega
      have hki2 : k < i := by omega
      have hki1 : i = k + 1 := by omega
      have HKI := Lib.hid hki1
      have HKK := Lib.hid hk
      clear hrow hLl hol hdr hLie hxie hst hav hLi hi0 hgk hxke hbv hi hk hxi hxk hki hki1 hki2
      go_wp2_with fail
      go_still_tail 17, (by kernel_rfl)
      change wpList _ _ _ _ _ wr.drew
      go_wp2_with fail
      have h3 := HST.out wr.drew (HROW.out.drew 1)
      rw [HKI.out] at h3 ⊢
      exact ⟨⟨k, rfl, HKK.out, h3, Ext.setCell (D := fun b => b = g) (p := ⟨g, k + 1, none⟩) hx.drew (fun _ => rfl) _, by simpa [World.setCell] using hsz⟩, by simp [idxN]⟩

set_option maxRecDepth 100000 in
set_option maxHeartbeats 1000000 in
theorem lshVU_walk (g : Nat) (zs xs : List Nat) (X : Option Addr) (cz cx s : Nat) (w : World) (hrow : Row w g .u64 150 zs) (hx : Rd w X (nums .u64 xs)) (hX : ∀ a, X = some a → a.block ≠ g) (hz : xs.length ≤ zs.length)
    (hxw : ∀ d ∈ xs, d < 18446744073709551616) (hl : xs.length ≤ 1000000) (hl0 : 0 < xs.length) (hs1 : 1 ≤ s) (hs2 : s < 64) :
    Calls Tryz.prog 268 #[.slice (some ⟨g, 0, none⟩) xs.length cz, .slice X xs.length cx, .int .u64 s] w (LshPost w g zs xs s) := by
  have HG := Lib.hid (lshVU_g_walk g zs xs X cz cx s w hrow hx hX hz hxw hl hl0 hs1 hs2)
  clear hrow hx hX hxw
  go_enter Tryz.func268, Tryz.ntmps268
  go_wp2_with fail
  refine HG.out.mono ?_
  rintro e w1 ⟨rfl, hp⟩
  have HP := Lib.hid hp
  clear hp
  go_wp2_with fail
  go_ret
  exact ⟨rfl, HP.out⟩
end Go.Proofs.YtiohlcfdoleooaaGreatDoor

/-
  A round of the schoolbook division, in numbers; mulWW, greaterThan.
-/
namespace Go.Proofs.YtiohlcfdoleooaaGreatDoor
open Go.RowKit

/-- What holds when the digits from t on are known. -/
structure DbInv (V U0 n m : Nat) (us ds : List Nat) (t : Nat) : Prop where
  ulen : us.length = n + m
  uw : ∀ d ∈ us, d < 18446744073709551616
  dlen : ds.length = m - min t m
  dw : ∀ d ∈ ds, d < 18446744073709551616
  tle : t ≤ m + 1
  lt : valD 18446744073709551616 us < V * 18446744073709551616 ^ (min t m)
  eq : valD 18446744073709551616 us + V * (18446744073709551616 ^ (min t m) * valD 18446744073709551616 ds) = U0
/-- The words of u that a round changes. -/
def winL (n m j : Nat) : Nat := if j < m then n + 1 else n
theorem win_zero {us : List Nat} {n m j : Nat} (h : us.length = n + m) (hj : j ≤ m) : valD 18446744073709551616 (((us ++ [0]).drop j).take (n + 1)) = valD 18446744073709551616 ((us.drop j).take (winL n m j)) := by
  rw [List.drop_append_of_le_length (by omega)]
  unfold winL
  split
  · rw [List.take_append_of_le_length (by rw [List.length_drop]; omega)]
  · rw [List.take_of_length_le (by simp; omega), List.take_of_length_le (by simp; omega), valD_zero_end]
/-- What a round begins with. -/
structure DbOpen (V : Nat) (us vs : List Nat) (n m j S u0 u1 u2 v1 v2 : Nat) : Prop where
  sect : valD 18446744073709551616 ((us.drop j).take (winL n m j)) = S
  us_eq : valD 18446744073709551616 us = valD 18446744073709551616 (us.take j) + 18446744073709551616 ^ j * S
  u0_le : u0 ≤ v1
  words : u0 < 18446744073709551616 ∧ u1 < 18446744073709551616 ∧ u2 < 18446744073709551616 ∧ v1 < 18446744073709551616 ∧ v2 < 18446744073709551616
  big : 9223372036854775808 ≤ v1
  less : u0 < v1 → S / V ≤ ((u0 * 18446744073709551616 + u1) * 18446744073709551616 + u2) / (v1 * 18446744073709551616 + v2) ∧ ((u0 * 18446744073709551616 + u1) * 18446744073709551616 + u2) / (v1 * 18446744073709551616 + v2) ≤ S / V + 1 ∧ u0 * 18446744073709551616 + u1 < v1 * 18446744073709551616 + v2 ∧ ((u0 * 18446744073709551616 + u1) * 18446744073709551616 + u2) / (v1 * 18446744073709551616 + v2) < 18446744073709551616
  same : u0 = v1 → S / V ≤ 18446744073709551615 ∧ 18446744073709551615 ≤ S / V + 1
  top : j = m → S < V
  Vpos : 0 < V
theorem db_open {V U0 n m j k : Nat} {us ds vs : List Nat} (h : DbInv V U0 n m us ds (j + 1)) (hv : ∀ d ∈ vs, d < 18446744073709551616) (hV : valD 18446744073709551616 vs = V) (hk : vs.length = k + 2) (hn : n = k + 2) (hb : 9223372036854775808 ≤ vs[k + 1]) :
    ∃ S, DbOpen V us vs n m j S (us.getD (j + n) 0) (us[j + k + 1]'(by have := h.ulen; have := h.tle; omega)) (us[j + k]'(by have := h.ulen; have := h.tle; omega)) vs[k + 1] vs[k] := by
  have hj : j ≤ m := by have := h.tle; omega
  have hl := h.ulen
  subst hn
  have hu : ∀ d ∈ us ++ [0], d < 18446744073709551616 := by
    intro d hd
    rcases List.mem_append.1 hd with h1 | h1
    · exact h.uw d h1
    · rw [List.mem_singleton.1 h1]; decide
  have hlt : valD 18446744073709551616 (us ++ [0]) < valD 18446744073709551616 vs * 18446744073709551616 ^ (j + 1) := by
    rw [valD_zero_end, hV]
    exact Nat.lt_of_lt_of_le h.lt (Nat.mul_le_mul_left _ (Nat.pow_le_pow_right (by decide) (Nat.min_le_left _ _)))
  obtain ⟨S, V2, hD⟩ := digit_of hu hv hk (j := j) (by simp; omega) hlt
  have hV2 : V2 = V := by rw [← hV, hD.vs_eq]
  subst hV2
  have e0 : (us ++ [0])[j + (k + 2)]'(by simp; omega) = us.getD (j + (k + 2)) 0 := by
    rw [List.getD_eq_getElem?_getD]
    by_cases h1 : j + (k + 2) < us.length
    · rw [List.getElem_append_left h1, List.getElem?_eq_getElem h1]; rfl
    · rw [List.getElem_append_right (by omega), List.getElem?_eq_none (by omega)]; simp
  have e1 : (us ++ [0])[j + (k + 1)]'(by simp; omega) = us[j + k + 1]'(by omega) := List.getElem_append_left (by omega)
  have e2 : (us ++ [0])[j + k]'(by simp; omega) = us[j + k]'(by omega) := List.getElem_append_left (by omega)
  rw [e0, e1, e2] at hD
  have hsect := hD.sect
  rw [show k + 3 = (k + 2) + 1 from rfl, win_zero hl hj] at hsect
  have hus := hD.us_eq
  rw [valD_zero_end, List.take_append_of_le_length (by omega)] at hus
  have hVp : 0 < V2 := by
    rcases Nat.eq_zero_or_pos V2 with h0 | h0
    · have := hD.lt; rw [h0, Nat.zero_mul] at this; exact absurd this (Nat.not_lt_zero _)
    · exact h0
  refine ⟨S, ⟨hsect, hus, hD.u0_le, hD.words, hb, fun h1 => hD.guess hb h1, fun h1 => hD.most hb h1, ?_, hVp⟩⟩
  intro hjm
  subst hjm
  have h2 := h.lt
  rw [Nat.min_eq_right (Nat.le_succ _), hus, Nat.mul_comm V2] at h2
  exact Nat.lt_of_mul_lt_mul_left (a := 18446744073709551616 ^ j) (by omega)
theorem mem_over {zs outs : List Nat} {o : Nat} (hz : ∀ d ∈ zs, d < 18446744073709551616) (ho : ∀ d ∈ outs, d < 18446744073709551616) : ∀ d ∈ over zs o outs, d < 18446744073709551616 := by
  intro d hd
  unfold over at hd
  simp only [List.mem_append] at hd
  rcases hd with (h | h) | h
  · exact hz d (List.mem_of_mem_take h)
  · exact ho d h
  · exact hz d (List.mem_of_mem_drop h)
/-- What a round leaves. -/
theorem db_done {V U0 n m j S u0 u1 u2 v1 v2 : Nat} {us ds vs R : List Nat} (h : DbInv V U0 n m us ds (j + 1)) (ho : DbOpen V us vs n m j S u0 u1 u2 v1 v2) (hR : R.length = winL n m j) (hRw : ∀ d ∈ R, d < 18446744073709551616) (hv : valD 18446744073709551616 R = S % V) (hq : S / V < 18446744073709551616) :
    DbInv V U0 n m (over us j R) (if j < m then S / V :: ds else ds) j ∧ (¬ j < m → S / V = 0) := by
  have hj : j ≤ m := by have := h.tle; omega
  have hl := h.ulen
  have hjR : j + R.length ≤ us.length := by rw [hR]; unfold winL; split <;> omega
  have hov := over_val hjR
  rw [hR, ho.sect, hv] at hov
  have hlow : valD 18446744073709551616 (us.take j) < 18446744073709551616 ^ j := by
    have := valD_lt_pow (all_take h.uw j)
    rwa [List.length_take, Nat.min_eq_left (by omega)] at this
  obtain ⟨s1, s2⟩ := db_step (D := valD 18446744073709551616 ds) ho.us_eq hov (Nat.div_add_mod S V).symm (Nat.mod_lt _ ho.Vpos) hlow
  by_cases hjm : j < m
  · rw [if_pos hjm]
    refine ⟨⟨by rw [over_length hjR]; exact hl, mem_over h.uw hRw, ?_, ?_, by omega, by rw [Nat.min_eq_left hj]; exact s1, ?_⟩, fun hn => absurd hjm hn⟩
    · rw [List.length_cons, h.dlen, Nat.min_eq_left hj, Nat.min_eq_left (by omega)]; omega
    · intro d hd
      rcases List.mem_cons.1 hd with rfl | hd
      · exact hq
      · exact h.dw d hd
    · rw [Nat.min_eq_left hj]
      have h3 := h.eq
      rw [Nat.min_eq_left (by omega)] at h3
      show _ + V * (18446744073709551616 ^ j * (S / V + 18446744073709551616 * valD 18446744073709551616 ds)) = _
      rw [s2, h3]
  · obtain rfl : j = m := by omega
    have hS := ho.top rfl
    rw [if_neg hjm]
    have hmod : S % V = S := Nat.mod_eq_of_lt hS
    rw [hmod] at hov
    have hov2 : valD 18446744073709551616 (over us j R) = valD 18446744073709551616 us := by omega
    refine ⟨⟨by rw [over_length hjR]; exact hl, mem_over h.uw hRw, ?_, h.dw, by omega, ?_, ?_⟩, fun _ => Nat.div_eq_of_lt hS⟩
    · rw [h.dlen, Nat.min_eq_right (by omega), Nat.min_self]
    · have h3 := h.lt
      rw [Nat.min_eq_right (by omega)] at h3
      rw [hov2, Nat.min_self]
      exact h3
    · have h3 := h.eq
      rw [Nat.min_eq_right (by omega)] at h3
      rw [hov2, Nat.min_self]
      exact h3

set_option maxRecDepth 100000 in
set_option maxHeartbeats 1000000 in
theorem mulWW_walk (x y : Nat) (w : World) (hx : x < 18446744073709551616) (hy : y < 18446744073709551616) :
    Calls Tryz.prog 229 #[.int .u64 x, .int .u64 y] w fun e w' => e = .returned (.tuple #[.int .u64 ((x * y / 18446744073709551616 : Nat) : Int), .int .u64 ((x * y % 18446744073709551616 : Nat) : Int)]) ∧ w = w' := by
  have HM := Lib.hid (bitsMul_walk x y w hx hy)
  obtain ⟨a, ha⟩ : ∃ a, x * y / 18446744073709551616 = a := ⟨_, rfl⟩
  obtain ⟨b, hb⟩ : ∃ b, x * y % 18446744073709551616 = b := ⟨_, rfl⟩
  rw [ha, hb] at HM ⊢
  clear ha hb
  go_enter Tryz.func229, Tryz.ntmps229
  go_wp2_with fail
  refine HM.out.mono ?_
  rintro e w1 ⟨rfl, rfl⟩
  go_wp2_with fail
  go_ret2
  exact ⟨rfl, rfl⟩

set_option maxRecDepth 100000 in
set_option maxHeartbeats 1000000 in
theorem greaterThan_walk (x1 x2 y1 y2 : Nat) (w : World) (hx : x2 < 18446744073709551616) (hy : y2 < 18446744073709551616) :
    Calls Tryz.prog 298 #[.int .u64 x1, .int .u64 x2, .int .u64 y1, .int .u64 y2] w fun e w' => e = .returned (.bool (decide (y1 * 18446744073709551616 + y2 < x1 * 18446744073709551616 + x2))) ∧ w = w' := by
  obtain ⟨b, hb⟩ : ∃ b, decide (y1 * 18446744073709551616 + y2 < x1 * 18446744073709551616 + x2) = b := ⟨_, rfl⟩
  rw [hb]
  by_cases h1 : y1 < x1
  · have e : b = true := by rw [← hb, decide_eq_true_eq]; omega
    subst e
    have h1i : (y1 : Int) < x1 := by omega
    go_enter Tryz.func298, Tryz.ntmps298
    go_wp2_with fail
    go_ret
    exact ⟨rfl, rfl⟩
  · by_cases h2 : x1 = y1
    · subst h2
      have e : decide (y2 < x2) = b := by rw [← hb]; exact decide_eq_decide.2 (by omega)
      go_enter Tryz.func298, Tryz.ntmps298
      go_wp2_with fail
      go_ret
      exact ⟨rfl, rfl⟩
    · have e : b = false := by rw [← hb, decide_eq_false_iff_not]; omega
      subst e
      have h1i : ¬ (y1 : Int) < x1 := by omega
      have h2i : ((x1 : Int) == y1) = false := beq_eq_false_iff_ne.2 (by omega)
      go_enter Tryz.func298, Tryz.ntmps298
      go_wp2_with fail
      go_ret
      exact ⟨rfl, rfl⟩
end Go.Proofs.YtiohlcfdoleooaaGreatDoor

/-
  math/big's rshVU: a number of words, shifted down in its own place.
-/
namespace Go.Proofs.YtiohlcfdoleooaaGreatDoor
open Go.RowKit

theorem rshC_at {s : Nat} {xs : List Nat} {i : Nat} (h : i < xs.length) : (rshC s xs)[i]'(by rw [rshC_length]; exact h) = xs[i] / 2 ^ s + xs.getD (i + 1) 0 * 2 ^ (64 - s) % 18446744073709551616 := by
  have h1 := rshC_get s xs i h
  rw [List.getElem?_eq_getElem (by rw [rshC_length]; exact h)] at h1
  exact Option.some.inj h1
theorem over_next {zs L : List Nat} {k : Nat} (hk : k < L.length) (hz : L.length ≤ zs.length) : (over zs 0 (L.take k)).set k (L[k]) = over zs 0 (L.take (k + 1)) := by
  have hl : (L.take k).length = k := by rw [List.length_take]; omega
  have e := over_set (zs := zs) (outs := L.take k) (o := 0) (v := L[k]) (by rw [hl]; omega)
  rw [hl, Nat.zero_add] at e
  rw [e, List.take_succ_eq_append_getElem hk]
theorem over_same {zs L : List Nat} {k i : Nat} (hi : k ≤ i) (hk : k ≤ L.length) (hz : L.length ≤ zs.length) : (over zs 0 (L.take k))[i]? = zs[i]? := by
  have hl : (L.take k).length = k := by rw [List.length_take]; omega
  rw [over_getElem? (by rw [hl]; omega), if_neg (by omega), hl, if_neg (by omega)]
/-- The read of a word that the loop has left alone. -/
theorem row_same {w : World} {g : Nat} {zs L : List Nat} {k i : Nat} (h : Row w g .u64 150 (over zs 0 (L.take k))) (hi : k ≤ i) (hk : k ≤ L.length) (hz : L.length ≤ zs.length) (hiz : i < zs.length) : w.cell? ⟨g, i, none⟩ = some (.int .u64 (zs[i] : Int)) := by
  have h1 := over_same (zs := zs) hi hk hz
  have hlen : i < (over zs 0 (L.take k)).length := by rw [over_length (by rw [List.length_take]; omega)]; exact hiz
  rw [List.getElem?_eq_getElem hiz, List.getElem?_eq_getElem hlen] at h1
  rw [h.cell hlen, Option.some.inj h1]

/-- rshVU's loop: the words below i - 1 have been shifted. -/
def RshRel (w : World) (g : Nat) (zs : List Nat) (n s : Nat) (iv : Value) (wr : World) : Prop :=
  ∃ i : Nat, iv = .int .i64 (i : Int) ∧ 1 ≤ i ∧ i ≤ n ∧ Row wr g .u64 150 (over zs 0 ((rshC s (zs.take n)).take (i - 1))) ∧ Ext (fun b => b = g) w wr ∧ wr.heap.size = w.heap.size
def RshPost (w : World) (g : Nat) (zs : List Nat) (n s : Nat) (e : Ending) (w' : World) : Prop :=
  (∃ c : Nat, e = .returned (.int .u64 (c : Int))) ∧ Row w' g .u64 150 (over zs 0 (rshC s (zs.take n))) ∧ Ext (fun b => b = g) w w' ∧ w'.heap.size = w.heap.size

set_option maxRecDepth 100000 in
set_option maxHeartbeats 4000000 in
theorem rshVU_g_walk (g : Nat) (zs : List Nat) (n cz cx s : Nat) (w : World) (hrow : Row w g .u64 150 zs) (hz : n ≤ zs.length)
    (hxw : ∀ d ∈ zs, d < 18446744073709551616) (hl : n ≤ 1000000) (hl0 : 0 < n) (hs1 : 1 ≤ s) (hs2 : s < 64) :
    Calls Tryz.prog 300 #[.slice (some ⟨g, 0, none⟩) n cz, .slice (some ⟨g, 0, none⟩) n cx, .int .u64 s] w (RshPost w g zs n s) := by
  have hsb : ((s : Int) == 0) = false := beq_eq_false_iff_ne.2 (by omega)
  have hs3 : (1 : Int) ≤ s := by omega
  have hs4 : (s : Int) < 64 := by omega
  have hm1 := mask63 s hs2
  obtain ⟨t, ht⟩ : ∃ t, 64 - s = t := ⟨_, rfl⟩
  have hm2 := mask63 t (by omega)
  have hts : (64 : Int) - s = (t : Int) := by omega
  have ht0 : (0 : Int) ≤ t := by omega
  have ht1 : (t : Int) < 64 := by omega
  have hnn : (n : Int) ≤ 1000000 := by omega
  have hn0 : (0 : Int) < n := by omega
  have hnb : ((n : Int) == 0) = false := beq_eq_false_iff_ne.2 (by omega)
  have hc0 := hrow.cell (j := 0) (by omega)
  obtain ⟨x0, hx0⟩ : ∃ x0, zs[0]'(by omega) = x0 := ⟨_, rfl⟩
  rw [hx0] at hc0
  obtain ⟨c0, hc00⟩ : ∃ c0, x0 * 2 ^ t % 18446744073709551616 = c0 := ⟨_, rfl⟩
  have q1 := shl_int x0 t c0 hc00
  have HXW := Lib.hid hxw
  have HR := Lib.hid hrow
  have HT := Lib.hid ht
  have HZ := Lib.hid hz
  clear hxw hrow hx0 hc00 ht
  unfold RshPost
  go_enter Tryz.func300, Tryz.ntmps300
  go_wp2_with fail
  clear q1 hm1 hm2 hts hc0
  go_loopw [8] (fun iv wr => RshRel w g zs n s iv wr) (fun iv _ => n - idxN iv)
  case atStart => exact ⟨1, rfl, Nat.le_refl _, hl0, by rw [Nat.sub_self, List.take_zero, over_nil]; exact HR.out, Ext.refl _ _, rfl⟩
  case round =>
    obtain ⟨i, rfl, hi1, hi, hrow, hx, hsz⟩ := hrel
    obtain ⟨k, hki⟩ : ∃ k, i - 1 = k := ⟨_, rfl⟩
    rw [hki] at hrow
    have hik1 : i = k + 1 := by omega
    have hLl : (rshC s (zs.take n)).length = n := by rw [rshC_length, List.length_take]; have := HZ.out; omega
    have hkn : k < (zs.take n).length := by rw [List.length_take]; have := HZ.out; omega
    have hLk := rshC_at (s := s) hkn
    have hkL : k < (rshC s (zs.take n)).length := by rw [hLl]; omega
    have hkz : k < zs.length := by have := HZ.out; omega
    have ck := row_same hrow (Nat.le_refl k) (Nat.le_of_lt hkL) (by rw [hLl]; exact HZ.out) hkz
    have hst : ∀ (w2 : World) (v : Nat), (rshC s (zs.take n))[k]'hkL = v → Row w2 g .u64 150 (over zs 0 ((rshC s (zs.take n)).take k)) → Row (w2.setCell ⟨g, k, none⟩ (.int .u64 (v : Int))) g .u64 150 (over zs 0 ((rshC s (zs.take n)).take (k + 1))) := by
      intro w2 v hv h2
      rw [← over_next hkL (by rw [hLl]; exact HZ.out), ← hv]
      exact h2.set _ _
    have HST := Lib.hid hst
    have hxk : zs[k] < 18446744073709551616 := HXW.out _ (List.getElem_mem _)
    rw [List.getElem_take] at hLk
    obtain ⟨xk, hxke⟩ : ∃ xk, zs[k] = xk := ⟨_, rfl⟩
    rw [hxke] at hxk hLk ck
    obtain ⟨av, hav⟩ : ∃ av, xk / 2 ^ s = av := ⟨_, rfl⟩
    have g1 := shr_int xk s av hav
    have fk := hrow.free k
    have HROW := Lib.hid hrow
    have hik : (i : Int) - 1 = (k : Int) := by omega
    have hwk : IntKind.i64.wrap (k : Int) = (k : Int) := by rw [IntKind.wrap_i64]; omega
    have hk0 : (0 : Int) ≤ k := by omega
    have hk1 : (k : Int) < (n : Int) := by omega
    have hi0 : (0 : Int) ≤ i := by omega
    have hi2 : (i : Int) ≤ n := by omega
    by_cases hin : i = n
    · subst hin
      have hg0 : (zs.take i).getD (k + 1) 0 = 0 := by
        rw [List.getD_eq_getElem?_getD, List.getElem?_eq_none (by rw [List.length_take]; omega)]
        rfl
      rw [hg0, Nat.zero_mul, Nat.zero_mod, Nat.add_zero, hav] at hLk
      have HLK := Lib.hid hLk
      have hfin : over zs 0 ((rshC s (zs.take i)).take (k + 1)) = over zs 0 (rshC s (zs.take i)) := by rw [List.take_of_length_le (by rw [hLl]; omega)]
      have HF := Lib.hid hfin
      clear hrow hki hik1 hLl hLk hkz hst hxke hav hg0 hfin hxk
      go_wp2_with fail
      go_ret
      have h3 := HST.out wr _ HLK.out HROW.out
      rw [HF.out] at h3
      exact ⟨⟨_, rfl⟩, h3, Ext.setCell (D := fun b => b = g) (p := ⟨g, k, none⟩) hx (fun _ => rfl) _, by simpa [World.setCell] using hsz⟩
    · have hiz : i < zs.length := by have := HZ.out; omega
      have ci := row_same hrow (i := i) (by omega) (Nat.le_of_lt hkL) (by rw [hLl]; exact HZ.out) hiz
      have hxi : zs[i] < 18446744073709551616 := HXW.out _ (List.getElem_mem _)
      have hgi : (zs.take n).getD (k + 1) 0 = zs[i] := by
        rw [← hik1, List.getD_eq_getElem?_getD, List.getElem?_take, if_pos (by omega), List.getElem?_eq_getElem hiz]
        rfl
      rw [hgi] at hLk
      obtain ⟨xi, hxie⟩ : ∃ xi, zs[i] = xi := ⟨_, rfl⟩
      rw [hxie] at hLk ci hxi
      rw [HT.out] at hLk
      obtain ⟨bv, hbv⟩ : ∃ bv, xi * 2 ^ t % 18446744073709551616 = bv := ⟨_, rfl⟩
      have hts2 : 64 - t = s := by have := HT.out; omega
      obtain ⟨_, j1, j3⟩ := sh_join (s := t) (x := xi) (y := xk) (a := bv) (b := av) (by omega) hxk hbv (by rw [hts2]; exact hav)
      have g2 := shl_int xi t bv hbv
      rw [hbv, hav] at hLk
      rw [← hLk] at j1
      obtain ⟨lv, hlv⟩ : ∃ lv, (rshC s (zs.take n))[k]'hkL = lv := ⟨_, rfl⟩
      rw [hlv] at j1
      have HLV := Lib.hid hlv
      have hin2 : (i : Int) < n := by omega
      have HIN := Lib.hid (show i < n by omega)
      have HIK := Lib.hid hik1
      have hone : (i : Int) + 1 = ((i + 1 : Nat) : Int) := by omega
      have HONE := Lib.hid hone
      clear hrow hki hik1 hLl hLk hkz hst hxke hav hxk hin hiz hgi hxie hbv hts2 hlv hxi hone
      go_wp2_with fail
      go_still_tail 18, (by kernel_rfl)
      change wpList _ _ _ _ _ wr.drew
      go_wp2_with fail
      have h3 := HST.out wr.drew _ HLV.out (HROW.out.drew 1)
      have hin := HIN.out
      rw [HONE.out]
      exact ⟨⟨i + 1, rfl, by omega, by omega, by rw [Nat.add_sub_cancel, HIK.out]; exact h3, Ext.setCell (D := fun b => b = g) (p := ⟨g, k, none⟩) hx.drew (fun _ => rfl) _, by simpa [World.setCell] using hsz⟩, by simp only [idxN]; omega⟩

set_option maxRecDepth 100000 in
set_option maxHeartbeats 1000000 in
theorem rshAll_walk (g : Nat) (zs : List Nat) (n cz cx s : Nat) (w : World) (hrow : Row w g .u64 150 zs) (hz : n ≤ zs.length)
    (hxw : ∀ d ∈ zs, d < 18446744073709551616) (hl : n ≤ 1000000) (hl0 : 0 < n) (hs1 : 1 ≤ s) (hs2 : s < 64) :
    Calls Tryz.prog 276 #[.slice (some ⟨g, 0, none⟩) n cz, .slice (some ⟨g, 0, none⟩) n cx, .int .u64 s] w (RshPost w g zs n s) := by
  have HG := Lib.hid (rshVU_g_walk g zs n cz cx s w hrow hz hxw hl hl0 hs1 hs2)
  clear hrow hxw
  go_enter Tryz.func276, Tryz.ntmps276
  go_wp2_with fail
  refine HG.out.mono ?_
  rintro e w1 ⟨⟨c, rfl⟩, hp⟩
  have HP := Lib.hid hp
  clear hp
  go_wp2_with fail
  go_ret
  exact ⟨⟨c, rfl⟩, HP.out⟩
end Go.Proofs.YtiohlcfdoleooaaGreatDoor
