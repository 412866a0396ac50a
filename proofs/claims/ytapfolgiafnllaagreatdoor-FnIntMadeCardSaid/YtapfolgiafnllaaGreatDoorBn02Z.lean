/-
  (*big.Int).Set into a new number.
-/
import Derived.Test.YtapfolgiafnllaaGreatDoorNatAddZ
import Derived.Test.YtapfolgiafnllaaGreatDoorBn18Z
import Derived.Deep.RegionWith
import Derived.Deep.RegionHeld3
import Derived.Test.YtapfolgiafnllaaGreatDoorBn15Z
import Derived.Test.YtapfolgiafnllaaGreatDoorBn09Z
import Derived.StillTailTactics
import Derived.Test.YtapfolgiafnllaaGreatDoorDiv2Z
namespace Go.Proofs.YtapfolgiafnllaaGreatDoor
open Go.RowKit

theorem infoInt' : (Tryz.prog.info? 80).map (·.size) = some 2 := by kernel_rfl
/-- Two numbers of two blocks have two addresses. -/
theorem int_neq {w : World} {g gx : Nat} {a b c d : Value} (hne : gx ≠ g) (h1 : w.heap[g]? = some (.cells #[a, b] 80 (0, 0))) (h2 : w.heap[gx]? = some (.cells #[c, d] 80 (0, 0))) :
    (binOp BinOp.neq 50 (.pointer (some ⟨g, 0, none⟩)) (.pointer (some ⟨gx, 0, none⟩))).run Tryz.prog w = .ok (.bool true) w ∧ (binOp BinOp.eql 50 (.pointer (some ⟨g, 0, none⟩)) (.pointer (some ⟨gx, 0, none⟩))).run Tryz.prog w = .ok (.bool false) w := by
  obtain ⟨i, hi, hs⟩ := Option.map_eq_some_iff.1 infoInt'
  have hn : (⟨g, 0, none⟩ : Addr) ≠ ⟨gx, 0, none⟩ := fun e => hne (by cases e; rfl)
  have hr : (sameAddr ⟨g, 0, none⟩ ⟨gx, 0, none⟩).run Tryz.prog w = .ok false w := run_sameAddr_other w hn h1 h2
  have h : ∀ d : Nat, (Op.equalIn (d + 1) 50 (.pointer (some ⟨g, 0, none⟩)) (.pointer (some ⟨gx, 0, none⟩))).run Tryz.prog w = .ok false w := fun d => by
    simp [Op.equalIn, run_underlying Tryz.underlying50, sizeOf, typeInfo, hi, hs, hr]
  constructor
  · simp only [binOp]
    simp [Op.equal, Op.maxDepth, h 9999]
  · simp only [binOp]
    simp [Op.equal, Op.maxDepth, h 9999]

set_option maxRecDepth 100000 in
set_option maxHeartbeats 2000000 in
theorem intSet_walk (gz gx : Nat) (z : Int) (w : World) (hz : IntNew w gz) (hx : IntAt w gx z) (hne : gx ≠ gz) (hl : (wds z.natAbs).length ≤ 80000) :
    Calls Tryz.prog 67 #[.pointer (some ⟨gz, 0, none⟩), .pointer (some ⟨gx, 0, none⟩)] w fun e w' => e = .returned (.pointer (some ⟨gz, 0, none⟩)) ∧ IntAt w' gz z ∧ Ext (fun b => b = gz) w w' := by
  obtain ⟨A, c, hk, h2, h3, h4⟩ := hx
  have hnq := (int_neq hne hz hk).1
  have c0 := num_cell0 hz
  have c1 := num_cell1 hz
  have d0 := num_cell0 hk
  have d1 := num_cell1 hk
  have HS := Lib.hid (setNew_walk A c z.natAbs w.drew h2 h3 (by omega) h4.rd)
  have HZ := Lib.hid hz
  have HK := Lib.hid hk
  clear h4 hz hk
  go_enter Tryz.func67, Tryz.ntmps67
  go_wp2_with fail
  go_region_with ((go_at_call 97; (with_reducible refine HS.out.mono ?_); rintro e w1 ⟨A1, c1', rfl, hown, hb, hs⟩; have hz1 := (hb.block gz (iter_lt HZ.out)).trans HZ.out; have e0 := num_cell0 hz1; have e1 := num_cell1 hz1; have f0 := one_free hz1 0; have f1 := one_free hz1 1; have hk1 := (hb.block gx (iter_lt HK.out)).trans HK.out; have e2 := num_cell0 hk1; have HZ1 := Lib.hid hz1; have HO := Lib.hid hown; have HB := Lib.hid hb; clear hz1 hk1 hown hb))
  all_goals
    have hr := HO.out.room
    have hlt := iter_lt HZ.out
    go_wp2_with fail
    go_ret
    exact ⟨rfl, IntAt.put HZ1.out rfl rfl hr.1 (by omega) HO.out.wd (fun a ha => by have := HO.out.ge a ha; exact Nat.ne_of_gt (Nat.lt_of_lt_of_le hlt this)),
      Ext.setCell (D := fun b => b = gz) (p := ⟨gz, 0, none⟩) (Ext.setCell (D := fun b => b = gz) (p := ⟨gz, 1, none⟩) (((Ext.refl _ w).drewN 1).trans (Ext.of_below HB.out)) (fun _ => rfl) _) (fun _ => rfl) _⟩
end Go.Proofs.YtapfolgiafnllaaGreatDoor

/-
  (*big.Int).Add, Sub into a new number.
-/
namespace Go.Proofs.YtapfolgiafnllaaGreatDoor
open Go.RowKit

theorem wds_pos {S : Nat} : 0 < (wds S).length ↔ S ≠ 0 := by
  rw [← Nat.pos_iff_ne_zero.symm.symm, Nat.pos_iff_ne_zero, Nat.pos_iff_ne_zero]
  exact not_congr wds_len0
theorem own_low {B B' : Nat} {w : World} {A : Option Addr} {c N : Nat} (h : OwnNat B w A c N) (hB : B' ≤ B) : OwnNat B' w A c N := by
  rcases h with h | ⟨g, zs, h1, h2, h3, h4, h5, h6⟩
  · exact .inl h
  · exact .inr ⟨g, zs, h1, h2, h3, h4, by omega, h6⟩
theorem ext_drawn {D : Nat → Prop} {w w1 : World} {n : Nat} (h : Below (w.drewN n).heap.size (w.drewN n) w1) : Ext D w w1 := ((Ext.refl _ w).drewN n).trans (Ext.of_below h)
theorem ext_any {D : Nat → Prop} {w w2 w1 : World} (h1 : w2.heap = w.heap) (h2 : w2.os = w.os) (h3 : w2.tape = w.tape) (h4 : w2.output = w.output) (h : Below w2.heap.size w2 w1) : Ext D w w1 :=
  ⟨h.os.trans h2, h.tape.trans h3, h.output.trans h4, by have := h.size; rw [h1] at this; exact this, fun i hi _ => by rw [← h1] at hi ⊢; exact h.block i hi⟩
theorem drawn_more {w w1 : World} {n : Nat} (h : Drawn (w.drewN n) w1) : ∃ m, w1 = w.drewN m := by
  obtain ⟨k, rfl⟩ := h
  exact ⟨_, World.drewN_drewN _ _ _⟩

theorem heap_drew' (w : World) : w.drew.heap = w.heap := rfl
theorem heap_drewN' (w : World) (n : Nat) : (w.drewN n).heap = w.heap := rfl
theorem cell_heap {w w2 : World} (h : w2.heap = w.heap) (b o : Nat) : w2.cell? ⟨b, o, none⟩ = w.cell? ⟨b, o, none⟩ := by simp only [World.cell?, h]
theorem put_fin {w : World} {gz : Nat} (z : Int) : ∀ (S : Nat) (f : Bool) (w1 : World) (A1 : Option Addr) (c1 : Nat), z.natAbs = S → (S ≠ 0 → f = decide (z < 0)) → OwnNat (gz + 1) w1 A1 c1 S → w1.heap[gz]? = some (.cells #[.bool false, .slice none 0 0] 80 (0, 0)) → Ext (fun b => b = gz) w w1 →
      ∀ b, b = (decide (0 < (wds S).length) && f) → IntAt ((w1.setCell ⟨gz, 1, none⟩ (.slice A1 (wds S).length c1)).setCell ⟨gz, 0, none⟩ (.bool b)) gz z ∧ Ext (fun b => b = gz) w ((w1.setCell ⟨gz, 1, none⟩ (.slice A1 (wds S).length c1)).setCell ⟨gz, 0, none⟩ (.bool b)) := by
  intro S f w1 A1 c1 hS hf ho hk hx1 b hb
  refine ⟨IntAt.put hk hS ?_ ho.room.1 (by have := ho.room; omega) ho.wd (fun a ha => by have := ho.ge a ha; omega), Ext.setCell (D := fun b => b = gz) (p := ⟨gz, 0, none⟩) (Ext.setCell (D := fun b => b = gz) (p := ⟨gz, 1, none⟩) hx1 (fun _ => rfl) _) (fun _ => rfl) _⟩
  rw [hb]
  by_cases h0 : S = 0
  · subst h0
    rw [decide_eq_false (show ¬ z < 0 by omega), wds_zero]
    rfl
  · rw [decide_eq_true (wds_pos.2 h0), hf h0]
    simp
theorem Wd.of_heap {w w2 : World} {A : Option Addr} {ws : List Nat} (h : Wd w A ws) (hh : w2.heap = w.heap) : Wd w2 A ws := by
  rcases h with h | ⟨g, zs, r, h1, h2, h3⟩
  · exact .inl h
  · exact .inr ⟨g, zs, r, h1, by unfold Row; rw [hh]; exact h2, h3⟩
end Go.Proofs.YtapfolgiafnllaaGreatDoor

/-
  math/big's basicMul.
-/
namespace Go.Proofs.YtapfolgiafnllaaGreatDoor
open Go.RowKit

def BmRel (w : World) (g R : Nat) (xs ys : List Nat) (iv : Value) (wr : World) : Prop :=
  ∃ (i : Nat) (T : List Nat), iv = .int .i64 (i : Int) ∧ i ≤ ys.length ∧ T.length = R ∧ (∀ d ∈ T, d < 18446744073709551616) ∧ Row wr g .u64 106 T ∧ MulInv xs ys T i ∧ Ext (fun b => b = g) w wr ∧ wr.heap.size = w.heap.size
def BmPost (w : World) (g R : Nat) (xs ys : List Nat) (e : Ending) (w' : World) : Prop :=
  e = .returned (.tuple #[]) ∧ ∃ T : List Nat, Row w' g .u64 106 T ∧ T.length = R ∧ (∀ d ∈ T, d < 18446744073709551616) ∧ valD 18446744073709551616 (T.take (xs.length + ys.length)) = valD 18446744073709551616 xs * valD 18446744073709551616 ys ∧ Ext (fun b => b = g) w w' ∧ w'.heap.size = w.heap.size
theorem over_words {zs outs : List Nat} {o : Nat} (hz : ∀ d ∈ zs, d < 18446744073709551616) (ho : ∀ d ∈ outs, d < 18446744073709551616) : ∀ d ∈ over zs o outs, d < 18446744073709551616 := by
  intro d hd
  unfold over at hd
  rcases List.mem_append.1 hd with h | h
  · rcases List.mem_append.1 h with h | h
    · exact hz d (List.mem_of_mem_take h)
    · exact ho d h
  · exact hz d (List.mem_of_mem_drop h)
theorem Rd.ext1 {g : Nat} {w w' : World} {A : Option Addr} {vs : List Value} (h : Rd w A vs) (hx : Ext (fun b => b = g) w w') (hA : ∀ a, A = some a → a.block ≠ g) : Rd w' A vs := h.ext hx (fun _ a ha => hA a ha)

set_option maxRecDepth 100000 in
set_option maxHeartbeats 4000000 in
theorem basicMul_walk (g : Nat) (zs xs ys : List Nat) (X Y : Option Addr) (cz cx cy : Nat) (w : World) (hrow : Row w g .u64 106 zs) (hzw : ∀ d ∈ zs, d < 18446744073709551616) (hx : Rd w X (nums .u64 xs)) (hX : ∀ a, X = some a → a.block ≠ g)
    (hy : Rd w Y (nums .u64 ys)) (hY : ∀ a, Y = some a → a.block ≠ g) (hxw : ∀ d ∈ xs, d < 18446744073709551616) (hyw : ∀ d ∈ ys, d < 18446744073709551616) (hl : xs.length + ys.length ≤ zs.length) (hR : zs.length ≤ 100000) (hcz : xs.length + ys.length ≤ cz) (_hczm : cz ≤ 100000) (h1 : 0 < xs.length) :
    Calls Tryz.prog 162 #[.slice (some ⟨g, 0, none⟩) (xs.length + ys.length) cz, .slice X xs.length cx, .slice Y ys.length cy] w (BmPost w g zs.length xs ys) := by
  have hcl := fun (ty : TypeId) => clear_words (n := xs.length + ys.length) (c := cz) (t := 78) (ty := ty) hrow Tryz.underlying78 (by omega) hl
  have hrow0 := Row.setCells (List.replicate (xs.length + ys.length) 0) w zs 0 hrow (by simpa using hl)
  have hx0 : Ext (fun b => b = g) w (w.setCells g 0 (nums .u64 (List.replicate (xs.length + ys.length) 0))) := ext_setCells _ _ _ (Ext.refl _ _)
  have hs0 : (w.setCells g 0 (nums .u64 (List.replicate (xs.length + ys.length) 0))).heap.size = w.heap.size := size_setCells _ _ _
  have hI := mulInv_start xs ys zs
  have hw0 : ∀ d ∈ over zs 0 (List.replicate (xs.length + ys.length) 0), d < 18446744073709551616 := over_words hzw (fun d hd => by rw [List.eq_of_mem_replicate hd]; decide)
  have hl0 : (over zs 0 (List.replicate (xs.length + ys.length) 0)).length = zs.length := over_length (by simpa using hl)
  obtain ⟨w0, hw0e⟩ : ∃ w0, w.setCells g 0 (nums .u64 (List.replicate (xs.length + ys.length) 0)) = w0 := ⟨_, rfl⟩
  obtain ⟨T0, hT0⟩ : ∃ T0, over zs 0 (List.replicate (xs.length + ys.length) 0) = T0 := ⟨_, rfl⟩
  rw [hw0e] at hrow0 hx0 hs0
  simp only [hw0e] at hcl
  rw [hT0] at hrow0 hI hw0 hl0
  have HI := Lib.hid hI
  have HW0 := Lib.hid hw0
  have HL0 := Lib.hid hl0
  have HR0 := Lib.hid hrow0
  have HX0 := Lib.hid hx0
  have HS0 := Lib.hid hs0
  have HX := Lib.hid hx
  have HY := Lib.hid hy
  have HXB := Lib.hid hX
  have HYB := Lib.hid hY
  have HXW := Lib.hid hxw
  have HYW := Lib.hid hyw
  have hcz' : (xs.length : Int) + ys.length ≤ cz := by omega
  clear hrow hrow0 hx0 hs0 hI hw0 hl0 hx hy hX hY hxw hyw hzw hw0e hT0
  go_enter Tryz.func162, Tryz.ntmps162
  go_wp2_with fail
  go_loopw [17] (fun iv wr => BmRel w g zs.length xs ys iv wr) (fun iv _ => idxOf ys.length iv)
  case atStart => exact ⟨0, T0, rfl, Nat.zero_le _, HL0.out, HW0.out, HR0.out, HI.out, HX0.out, HS0.out⟩
  case round =>
    obtain ⟨i, T, rfl, hi, hTl, hTw, hrow, hI, hx, hsz⟩ := hrel
    have HI := Lib.hid hI
    have HTW := Lib.hid hTw
    have HROW := Lib.hid hrow
    have HE := Lib.hid hx
    clear hI hTw hx
    by_cases hlt : i < ys.length
    · obtain ⟨b, rfl, hb⟩ := rd_cell (HY.out.ext1 HE.out HYB.out) hlt
      obtain ⟨d, hd⟩ : ∃ d, ys[i] = d := ⟨_, rfl⟩
      rw [hd] at hb
      have hdw : d < 18446744073709551616 := by rw [← hd]; exact HYW.out _ (List.getElem_mem _)
      have HD := Lib.hid hd
      have hlt' : (i : Int) < ys.length := by omega
      have hi0 : (0 : Int) ≤ i := by omega
      clear hd
      by_cases hd0 : d = 0
      · have hd0b : ((d : Int) == 0) = true := by rw [hd0]; rfl
        clear hrow
        go_wp2_with fail
        refine ⟨⟨i + 1, T, by go_num, by omega, hTl, HTW.out, HROW.out, mulInv_skip HI.out hlt (HD.out.trans hd0), HE.out, hsz⟩, by simp [idxOf]; omega⟩
      · have hd0b : ((d : Int) == 0) = false := beq_eq_false_iff_ne.2 (by omega)
        have hm : ((T.drop i).take xs.length).length = xs.length := by rw [List.length_take, List.length_drop]; omega
        have hrx : Rd wr X (nums .u64 xs) := HX.out.ext1 HE.out HXB.out
        have hA := addMulVVWW_walk g i T ((T.drop i).take xs.length) xs (some ⟨g, i, none⟩) X (cz - i) (cz - i) cx d 0 wr.drew (hrow.drew 1) (.inl ⟨rfl, (T.drop i).drop xs.length, (List.take_append_drop _ _).symm⟩) (.inr ⟨(show Rd wr.drew X (nums .u64 xs) from hrx), HXB.out⟩) hm.symm (by rw [hm]; omega)
          (fun d hd => HTW.out d (List.mem_of_mem_drop (List.mem_of_mem_take hd))) HXW.out hdw (by decide) (by rw [hm]; omega) (by omega)
        unfold AmvPost at hA
        rw [hm] at hA
        have hA2 : ∀ n, n = xs.length → Calls Tryz.prog 198 #[.slice (some ⟨g, i, none⟩) n (cz - i), .slice (some ⟨g, i, none⟩) n (cz - i), .slice X xs.length cx, .int .u64 d, .int .u64 0] wr.drew (AmvPost wr.drew g i T ((T.drop i).take xs.length) xs d 0) := by
          intro n hn
          subst hn
          unfold AmvPost
          rw [hm]
          exact hA
        have HA := Lib.hid hA2
        have hsl1 : (i : Int) + xs.length ≤ cz := by omega
        have HM := Lib.hid hm
        obtain ⟨p, hp⟩ : ∃ p, xs.length + i = p := ⟨_, rfl⟩
        have hpi : (p : Int) - i = xs.length := by omega
        have hw1 : IntKind.i64.wrap ((xs.length : Int) + i) = (p : Int) := by rw [IntKind.wrap_i64]; omega
        have hw2 : IntKind.i64.wrap ((i : Int) + xs.length) = (p : Int) := by rw [IntKind.wrap_i64]; omega
        have hp1 : (i : Int) ≤ p := by omega
        have hp2 : (p : Int) ≤ cz := by omega
        have hp3 : (0 : Int) ≤ p := by omega
        have hkk : (p : Int) < (xs.length : Int) + ys.length := by omega
        have HPP := Lib.hid hp
        have hicz : ¬ i = cz := by omega
        clear hp hsl1
        clear hA hA2 hm hrow hrx
        have HLEN := Lib.hid (show p - i = xs.length by have := HPP.out; omega)
        have hicz2 : ¬ cz = i := by omega
        go_upto_region 5 with fail
        go_region_held3 (fun _ => True) (first | trivial)
          (first
            | (go_at_call 198; (with_reducible refine (HA.out (p - i) HLEN.out).mono ?_); rintro e w2 ⟨c, outs, rfl, hc, hol, how, hrow2, hx2, hs2, hv2⟩; have hcR : ∃ old : Nat, w2.cell? ⟨g, p, none⟩ = some (.int .u64 old) := ⟨_, hrow2.cell (j := p) (by rw [over_length (by have := HM.out; omega)]; have := HPP.out; omega)⟩; obtain ⟨old, hcR⟩ := hcR; have hfR := hrow2.free p; have HROW2 := Lib.hid hrow2; have HOL := Lib.hid hol; have HOW := Lib.hid how; have HV2 := Lib.hid hv2; have HX2 := Lib.hid hx2; have HS2 := Lib.hid hs2; clear hrow2 hol how hv2 hx2 hs2))
        all_goals
          go_wp2_with fail
          have hol : outs.length = xs.length := HOL.out.trans HM.out
          have hset := over_set (zs := T) (outs := outs) (o := i) (v := c) (by rw [hol]; omega)
          rw [hol, show i + xs.length = p by have := HPP.out; omega] at hset
          have hst : Row (w2.setCell ⟨g, p, none⟩ (.int .u64 (c : Int))) g .u64 106 (over T i (outs ++ [c])) := by rw [← hset]; exact HROW2.out.set _ _
          have hvv := HV2.out
          rw [HM.out] at hvv
          exact ⟨⟨i + 1, over T i (outs ++ [c]), by go_num, by omega, (over_length (by simp; omega)).trans hTl, over_words HTW.out (fun d hd => by
            rcases List.mem_append.1 hd with h | h
            · exact HOW.out d h
            · simp at h; omega), hst, mulInv_step HI.out hlt HD.out hol (by omega) hvv, ((HE.out.drew).trans HX2.out).setCell (p := ⟨g, p, none⟩) (fun _ => rfl) _, by simp [World.setCell]; have := HS2.out; exact this.trans hsz⟩, by simp [idxOf]; omega⟩
    · have hie : i = ys.length := by omega
      have hlt' : ¬ (i : Int) < ys.length := by omega
      have HIE := Lib.hid hie
      clear hrow hie
      go_wp2_with fail
      go_end0
      exact ⟨rfl, T, HROW.out, hTl, HTW.out, by have := HI.out; rw [HIE.out] at this; exact mulInv_end this, HE.out, hsz⟩
end Go.Proofs.YtapfolgiafnllaaGreatDoor

/-
  math/big's mulAddWW, mul with a new number.
-/
namespace Go.Proofs.YtapfolgiafnllaaGreatDoor
open Go.RowKit

/-- karatsubaThreshold is 40. -/
def KaraIs (w : World) : Prop := w.cell? ⟨5, 0, none⟩ = some (.int .i64 40)
theorem KaraIs.lt {w : World} (h : KaraIs w) : 5 < w.heap.size := World.block_lt_of_cell? w _ h
theorem KaraIs.below {w w' : World} (h : KaraIs w) (hb : Below w.heap.size w w') : KaraIs w' := (hb.cell (by exact h.lt)).trans h
theorem rd_far {w : World} {A : Option Addr} {xs : List Nat} (h : Rd w A (nums .u64 xs)) (hn : xs ≠ []) : ∀ a, A = some a → a.block ≠ w.heap.size := by
  intro a ha
  obtain ⟨b, hb, hlt⟩ := Rd.lt h (by intro e; exact hn (by simpa [nums] using e))
  rw [ha] at hb
  cases hb
  exact Nat.ne_of_lt hlt

theorem rd_heap {w w2 : World} {A : Option Addr} {vs : List Value} (h : Rd w A vs) (hh : w2.heap = w.heap) : Rd w2 A vs := by
  rcases h with h | ⟨a, ha, h⟩
  · exact .inl h
  · exact .inr ⟨a, ha, fun j u hu => (by simp only [World.cell?, hh] : w2.cell? (a.add j) = w.cell? (a.add j)).trans (h j u hu)⟩

set_option maxRecDepth 100000 in
set_option maxHeartbeats 1000000 in
/-- A number without words shares none. -/
theorem aliasNil_walk (A : Option Addr) (n c : Nat) (w : World) :
    Calls Tryz.prog 131 #[.slice none 0 0, .slice A n c] w fun e w' => e = .returned (.bool false) ∧ Drawn w w' := by
  go_enter Tryz.func131, Tryz.ntmps131
  go_wp2_with fail
  go_quiet (fail)
  go_wp2_with fail
  go_ret
  exact ⟨rfl, _, rfl⟩

set_option maxRecDepth 100000 in
set_option maxHeartbeats 2000000 in
/-- mulAddWW(x, y, 0) into a new number. -/
theorem mulAddWWnew_walk (N y : Nat) (A : Option Addr) (c : Nat) (w : World) (_hc : (wds N).length ≤ c) (_hcm : c ≤ 9223372036854775807) (hr : Rd w A (nums .u64 (wds N))) (hl : (wds N).length ≤ 80000) (hN : N ≠ 0) (hy0 : y ≠ 0) (hy : y < 18446744073709551616) :
    Calls Tryz.prog 165 #[.slice none 0 0, .slice A (wds N).length c, .int .u64 y, .int .u64 0] w (OwnPost w.heap.size w (N * y)) := by
  have hm0 : (wds N).length ≠ 0 := fun h1 => hN ((toD_nil_iff (by decide)).1 (List.length_eq_zero_iff.1 h1))
  have hval := wds_val N
  have hwl := wds_lt N
  obtain ⟨xs, hxs⟩ : ∃ xs, wds N = xs := ⟨_, rfl⟩
  rw [hxs] at hm0 hl _hc hr hval hwl ⊢
  have hfar := rd_far hr (by intro e; rw [e] at hm0; exact hm0 rfl)
  have hM := make_new_walk none 0 0 (xs.length + 1) w (by omega) (by omega) (Nat.le_refl _)
  have hroom : xs.length + 1 ≤ roomFor (xs.length + 1) ∧ roomFor (xs.length + 1) ≤ xs.length + 1 + 4 := by unfold roomFor; split <;> omega
  obtain ⟨R, hR⟩ : ∃ R, roomFor (xs.length + 1) = R := ⟨_, rfl⟩
  rw [hR] at hM hroom
  have hi1 : ((xs.length + 1 : Nat) : Int) = (xs.length : Int) + 1 := by omega
  rw [hi1] at hM
  have hrow := row_made w .u64 R 106
  have hr1 := hr.below (below_a1 w (.cells (madeCells #[.int .u64 0] R) 106))
  have hb1 := below_a1 w (.cells (madeCells #[.int .u64 0] R) 106)
  have hs1 := heap_size_alloc w (.cells (madeCells #[.int .u64 0] R) 106)
  obtain ⟨w1, hw1⟩ : ∃ w1, w.alloc (.cells (madeCells #[.int .u64 0] R) 106) = w1 := ⟨_, rfl⟩
  rw [hw1] at hM hrow hr1 hb1 hs1
  have hzl : (List.replicate R 0).length = R := List.length_replicate
  have hAV := mulAddVWW_walk w.heap.size 0 (List.replicate R 0) xs A R c y 0 w1 hrow (.inr ⟨hr1, hfar⟩) (by rw [hzl]; omega) hwl hy (by decide) (by omega) (by decide)
  have HM := Lib.hid hM
  have HAV := Lib.hid hAV
  have HZL := Lib.hid hzl
  have HV := Lib.hid hval
  have HB1 := Lib.hid hb1
  have HS1 := Lib.hid hs1
  have hml : ((xs.length : Int) == 0) = false := beq_eq_false_iff_ne.2 (by omega)
  have hyb : ((y : Int) == 0) = false := beq_eq_false_iff_ne.2 (by omega)
  have hi2 : (xs.length : Int) ≤ R := by omega
  have hi3 : (0 : Int) ≤ xs.length := by omega
  have hi4 : (xs.length : Int) < (xs.length : Int) + 1 := by omega
  clear hM hrow hr hr1 hb1 hs1 hfar hzl hval hwl hw1 hR hi1 hxs hAV
  go_enter Tryz.func165, Tryz.ntmps165
  go_wp2_with fail
  refine HM.out.mono ?_
  rintro e w9 ⟨rfl, hw9⟩
  obtain rfl : w1 = w9 := hw9.symm
  clear hw9
  go_wp2_with fail
  refine HAV.out.mono ?_
  rintro e w2 ⟨cr, outs, rfl, hcr, hol, how, hrow2, hx2, hsz2, hv2⟩
  have hlen2 : (over (List.replicate R 0) 0 outs).length = R := (over_length (by rw [HZL.out]; omega)).trans HZL.out
  obtain ⟨old, c2⟩ : ∃ old : Nat, w2.cell? ⟨w.heap.size, xs.length, none⟩ = some (.int .u64 old) := ⟨_, hrow2.cell (j := xs.length) (by omega)⟩
  have f2 := hrow2.free xs.length
  have HR2 := Lib.hid hrow2
  have HV2 := Lib.hid hv2
  have HO := Lib.hid how
  have HOL := Lib.hid hol
  have HX2 := Lib.hid hx2
  have HSZ2 := Lib.hid hsz2
  clear hrow2 hv2 how hol hx2 hsz2 hlen2
  go_wp2_with fail
  have hset := over_set (zs := List.replicate R 0) (outs := outs) (o := 0) (v := cr) (by rw [HOL.out, HZL.out]; omega)
  rw [Nat.zero_add, HOL.out] at hset
  have hst : Row (w2.setCell ⟨w.heap.size, xs.length, none⟩ (.int .u64 (cr : Int))) w.heap.size .u64 106 (over (List.replicate R 0) 0 (outs ++ [cr])) := by rw [← hset]; exact HR2.out.set _ _
  have hvv : valD 18446744073709551616 (outs ++ [cr]) = N * y := by
    rw [valD_append, HOL.out]
    have e1 : valD 18446744073709551616 [cr] = cr := by simp [valD]
    rw [e1]
    have := HV2.out
    rw [HV.out, Nat.add_zero] at this
    exact this
  have hl3 : (outs ++ [cr]).length = xs.length + 1 := by rw [List.length_append, HOL.out]; rfl
  obtain ⟨hown, htr, hrd⟩ := own_trim hst (fun d hd => by
    rcases List.mem_append.1 hd with h | h
    · exact HO.out d h
    · simp at h; omega) (by rw [hl3, HZL.out]; omega) (by rw [HZL.out]; omega) (Nat.le_refl _) hvv
  rw [HZL.out] at hown
  have hNW := norm_walk (some ⟨w.heap.size, 0, none⟩) R (outs ++ [cr]) _ (by rw [hl3]; omega) (by omega) hrd
  rw [htr, hl3] at hNW
  have HNW := Lib.hid hNW
  have HOWN := Lib.hid hown
  have hbw : Below w.heap.size w w2 := HB1.out.trans (HX2.out.below (by have := HS1.out; omega) (fun k hk => by omega))
  have HBW := Lib.hid hbw
  clear hNW hown hbw hst hvv hl3 htr hrd hset
  refine HNW.out.mono ?_
  rintro e w5 ⟨rfl, rfl⟩
  go_wp2_with fail
  go_ret
  exact ⟨_, R, rfl, HOWN.out, HBW.out.setCell (p := ⟨w.heap.size, xs.length, none⟩) (Nat.le_refl _) _, by have h1 := HSZ2.out; have h2 := HS1.out; simp [World.setCell]; omega⟩

set_option maxRecDepth 100000 in
set_option maxHeartbeats 4000000 in
/-- mul of two numbers of more than one word each. -/
theorem natMulBig_walk (N M : Nat) (A B : Option Addr) (c d : Nat) (w : World) (_hc : (wds N).length ≤ c) (_hcm : c ≤ 9223372036854775807) (_hd : (wds M).length ≤ d) (_hdm : d ≤ 9223372036854775807) (hr : Rd w A (nums .u64 (wds N))) (hs : Rd w B (nums .u64 (wds M))) (hk : KaraIs w)
    (hge : (wds M).length ≤ (wds N).length) (hl : (wds N).length ≤ 10000) (h2 : 2 ≤ (wds M).length) (h40 : (wds M).length < 40) (stk : Value) :
    Calls Tryz.prog 134 #[.slice none 0 0, stk, .slice A (wds N).length c, .slice B (wds M).length d] w (OwnPost w.heap.size w (N * M)) := by
  have hvx := wds_val N
  have hvy := wds_val M
  have hwx := wds_lt N
  have hwy := wds_lt M
  obtain ⟨xs, hxs⟩ : ∃ xs, wds N = xs := ⟨_, rfl⟩
  obtain ⟨ys, hys⟩ : ∃ ys, wds M = ys := ⟨_, rfl⟩
  rw [hxs] at _hc hr hge hl hvx hwx ⊢
  rw [hys] at _hd hs hge h2 h40 hvy hwy ⊢
  have hfx := rd_far hr (by intro e; rw [e, List.length_nil] at hge; omega)
  have hfy := rd_far hs (by intro e; rw [e] at h2; simp at h2)
  obtain ⟨m, hm⟩ : ∃ m, xs.length = m := ⟨_, rfl⟩
  obtain ⟨n, hn⟩ : ∃ n, ys.length = n := ⟨_, rfl⟩
  rw [hm] at hge hl _hc ⊢
  rw [hn] at hge h2 h40 _hd ⊢
  have HRD := Lib.hid hr
  have HSD := Lib.hid hs
  have HK := Lib.hid hk
  have HXL := Lib.hid hm
  have HYL := Lib.hid hn
  have HV := Lib.hid hvx
  have HV2 := Lib.hid hvy
  have HFX := Lib.hid hfx
  have HFY := Lib.hid hfy
  have HWX := Lib.hid hwx
  have HWY := Lib.hid hwy
  have hmn : ¬ (m : Int) < n := by omega
  have hm0 : ((m : Int) == 0) = false := beq_eq_false_iff_ne.2 (by omega)
  have hn0 : ((n : Int) == 0) = false := beq_eq_false_iff_ne.2 (by omega)
  have hn1 : ((n : Int) == 1) = false := beq_eq_false_iff_ne.2 (by omega)
  have hn40 : (n : Int) < 40 := by omega
  clear hr hs hk hm hn hvx hvy hfx hfy hwx hwy hxs hys
  go_enter Tryz.func134, Tryz.ntmps134
  go_wp2_with fail
  refine (aliasNil_walk A m c _).mono ?_
  rintro e w8 ⟨rfl, n1, rfl⟩
  go_wp2_with fail
  refine (aliasNil_walk B n d _).mono ?_
  rintro e w7 ⟨rfl, n2, rfl⟩
  obtain ⟨w0, hw0⟩ : ∃ w0, (w.drewN n1).drewN n2 = w0 := ⟨_, rfl⟩
  have hh : w0.heap = w.heap := by rw [← hw0]; rfl
  have hb0 : Below w.heap.size w w0 := by rw [← hw0]; exact below_drewN (below_drewN (Below.refl _ _) _) _
  have hr := rd_heap HRD.out hh
  have hs := rd_heap HSD.out hh
  have hk : KaraIs w0 := hb0.cell (p := ⟨5, 0, none⟩) (by exact HK.out.lt) |>.trans HK.out
  have hfx : ∀ a, A = some a → a.block ≠ w0.heap.size := by rw [hh]; exact HFX.out
  have hfy : ∀ a, B = some a → a.block ≠ w0.heap.size := by rw [hh]; exact HFY.out
  have hM := make_new_walk none 0 0 (m + n) w0 (by omega) (by omega) (Nat.le_refl _)
  have hroom : m + n ≤ roomFor (m + n) ∧ roomFor (m + n) ≤ m + n + 4 := by unfold roomFor; split <;> omega
  obtain ⟨R, hR⟩ : ∃ R, roomFor (m + n) = R := ⟨_, rfl⟩
  rw [hR] at hM hroom
  have hi1 : ((m + n : Nat) : Int) = (m : Int) + n := by omega
  rw [hi1] at hM
  have hrow := row_made w0 .u64 R 106
  have hr1 := hr.below (below_a1 w0 (.cells (madeCells #[.int .u64 0] R) 106))
  have hs1 := hs.below (below_a1 w0 (.cells (madeCells #[.int .u64 0] R) 106))
  have hk1 := hk.below (below_a1 w0 (.cells (madeCells #[.int .u64 0] R) 106))
  have hb1 := below_a1 w0 (.cells (madeCells #[.int .u64 0] R) 106)
  have hz1 := heap_size_alloc w0 (.cells (madeCells #[.int .u64 0] R) 106)
  obtain ⟨w1, hw1⟩ : ∃ w1, w0.alloc (.cells (madeCells #[.int .u64 0] R) 106) = w1 := ⟨_, rfl⟩
  rw [hw1] at hM hrow hr1 hs1 hk1 hb1 hz1
  rw [hh] at hM hrow hfx hfy hb1 hz1
  have hzl : (List.replicate R 0).length = R := List.length_replicate
  have hBM := basicMul_walk w.heap.size (List.replicate R 0) xs ys A B R c d w1 hrow (fun d hd => by rw [List.eq_of_mem_replicate hd]; decide) hr1 hfx hs1 hfy HWX.out HWY.out (by rw [hzl, HXL.out, HYL.out]; omega) (by rw [hzl]; omega) (by rw [HXL.out, HYL.out]; omega) (by omega) (by rw [HXL.out]; omega)
  rw [HXL.out, HYL.out, hzl] at hBM
  have HM := Lib.hid hM
  have HBM := Lib.hid hBM
  have HB1 := Lib.hid (hb0.trans hb1)
  have HZ1 := Lib.hid hz1
  have hk1 : w1.cell? ⟨5, 0, none⟩ = some (.int .i64 40) := hk1
  rw [hw0]
  clear hM hBM hrow hr hs hr1 hs1 hb1 hb0 hz1 hfx hfy hzl hw1 hw0 hh hR hi1 hk
  go_wp2_with fail
  refine HM.out.mono ?_
  rintro e w9 ⟨rfl, hw9⟩
  obtain rfl : w1 = w9 := hw9.symm
  clear hw9
  go_wp2_with fail
  refine HBM.out.mono ?_
  rintro e w2 ⟨rfl, T, hrow2, hTl, hTw, hv2, hx2, hs2⟩
  have hl3 : (T.take (m + n)).length = m + n := by rw [List.length_take]; omega
  have hov : over T 0 (T.take (m + n)) = T := by
    unfold over
    rw [Nat.zero_add, hl3, List.take_zero, List.nil_append, List.take_append_drop]
  rw [HXL.out, HYL.out, HV.out, HV2.out] at hv2
  obtain ⟨hown, htr, hrd⟩ := own_trim (zs := T) (outs := T.take (m + n)) (B := w.heap.size) (S := N * M) (by rw [hov]; exact hrow2) (fun d hd => hTw d (List.mem_of_mem_take hd)) (by rw [hl3]; omega) (by omega) (Nat.le_refl _) hv2
  rw [hTl] at hown
  have hNW := norm_walk (some ⟨w.heap.size, 0, none⟩) R (T.take (m + n)) w2 (by omega) (by omega) hrd
  rw [htr, hl3] at hNW
  have HNW := Lib.hid hNW
  have HOWN := Lib.hid hown
  have hbw : Below w.heap.size w w2 := HB1.out.trans (hx2.below (by have := HZ1.out; omega) (fun k hk => by omega))
  have HBW := Lib.hid hbw
  have hsz : w.heap.size ≤ w2.heap.size := by have := HZ1.out; omega
  have HSZ := Lib.hid hsz
  clear hNW hown hbw hrow2 hTw hx2 hs2 hv2 htr hrd hl3 hov hTl hsz
  go_wp2_with fail
  refine HNW.out.mono ?_
  rintro e w5 ⟨rfl, rfl⟩
  go_wp2_with fail
  go_ret
  exact ⟨_, R, rfl, HOWN.out, HBW.out, HSZ.out⟩

set_option maxRecDepth 100000 in
set_option maxHeartbeats 2000000 in
theorem natMulGe_walk (N M : Nat) (A B : Option Addr) (c d : Nat) (w : World) (hc : (wds N).length ≤ c) (hcm : c ≤ 9223372036854775807) (hd : (wds M).length ≤ d) (hdm : d ≤ 9223372036854775807) (hr : Rd w A (nums .u64 (wds N))) (hs : Rd w B (nums .u64 (wds M))) (hk : KaraIs w)
    (hge : (wds M).length ≤ (wds N).length) (hl : (wds N).length < 40) (stk : Value) :
    Calls Tryz.prog 134 #[.slice none 0 0, stk, .slice A (wds N).length c, .slice B (wds M).length d] w (OwnPost w.heap.size w (N * M)) := by
  by_cases h2 : 2 ≤ (wds M).length
  · exact natMulBig_walk N M A B c d w hc hcm hd hdm hr hs hk hge (by omega) h2 (by omega) stk
  · by_cases h0 : (wds M).length = 0
    · have hM : M = 0 := (toD_nil_iff (b := 18446744073709551616) (by decide)).1 (List.length_eq_zero_iff.1 h0)
      subst hM
      rw [Nat.mul_zero, wds_zero]
      rw [wds_zero] at hd hge
      have hmn : ¬ ((wds N).length : Int) < 0 := by omega
      by_cases hm0 : (wds N).length = 0
      · rw [hm0]
        clear hr hs hk hc hl hge h0 h2 hm0 hmn
        go_enter Tryz.func134, Tryz.ntmps134
        go_wp2_with fail
        go_ret
        exact ⟨none, 0, by rw [wds_zero]; rfl, .inl ⟨rfl, rfl, rfl⟩, Below.refl _ _, Nat.le_refl _⟩
      · have hmb : (((wds N).length : Int) == 0) = false := beq_eq_false_iff_ne.2 (by omega)
        clear hr hs hk hc hl hge h0 h2 hm0
        go_enter Tryz.func134, Tryz.ntmps134
        go_wp2_with fail
        go_ret
        exact ⟨none, 0, by rw [wds_zero]; rfl, .inl ⟨rfl, rfl, rfl⟩, Below.refl _ _, Nat.le_refl _⟩
    · have h1 : (wds M).length = 1 := by omega
      have hge1 : 1 ≤ (wds N).length := by omega
      have hM0 : M ≠ 0 := by intro e; rw [e, wds_zero] at h0; exact h0 rfl
      obtain ⟨y, hy⟩ := List.length_eq_one_iff.1 h1
      have hv := wds_val M
      have hw := wds_lt M
      rw [hy] at hv hw hs
      have e1 : valD 18446744073709551616 [y] = y := by simp [valD]
      rw [e1] at hv
      subst hv
      have hyw : y < 18446744073709551616 := hw y (by simp)
      obtain ⟨a, rfl, ha⟩ := rd_cell hs (j := 0) (by simp)
      have e0 : a.add 0 = a := by unfold Addr.add; rw [if_pos rfl]
      rw [e0] at ha
      have hN0 : N ≠ 0 := by intro e; rw [e, wds_zero, List.length_nil] at hge1; omega
      have HW := Lib.hid (mulAddWWnew_walk N y A c w hc hcm hr (by omega) hN0 hM0 hyw)
      have hmb : (((wds N).length : Int) == 0) = false := beq_eq_false_iff_ne.2 (by omega)
      have hmn : ¬ ((wds N).length : Int) < 1 := by have := h1; omega
      have ha2 : w.cell? a = some (.int .u64 (y : Int)) := ha
      have hd1 : (1 : Int) ≤ d := by omega
      rw [h1]
      clear hr hs hk hl hge h0 h2 hy e1 e0 ha h1 hw
      go_enter Tryz.func134, Tryz.ntmps134
      go_wp2_with fail
      refine HW.out.mono ?_
      rintro e w1 ⟨A1, c1, rfl, hp⟩
      go_wp2_with fail
      go_ret
      exact ⟨A1, c1, rfl, hp⟩

set_option maxRecDepth 100000 in
set_option maxHeartbeats 2000000 in
theorem natMul_walk (N M : Nat) (A B : Option Addr) (c d : Nat) (w : World) (hc : (wds N).length ≤ c) (hcm : c ≤ 9223372036854775807) (hd : (wds M).length ≤ d) (hdm : d ≤ 9223372036854775807) (hr : Rd w A (nums .u64 (wds N))) (hs : Rd w B (nums .u64 (wds M))) (hk : KaraIs w)
    (hl : (wds N).length < 40) (hl2 : (wds M).length < 40) (stk : Value) :
    Calls Tryz.prog 134 #[.slice none 0 0, stk, .slice A (wds N).length c, .slice B (wds M).length d] w (OwnPost w.heap.size w (N * M)) := by
  by_cases h : (wds M).length ≤ (wds N).length
  · exact natMulGe_walk N M A B c d w hc hcm hd hdm hr hs hk h hl stk
  · have HG := Lib.hid (natMulGe_walk M N B A d c w hd hdm hc hcm hs hr hk (by omega) hl2 stk)
    have hlt : ((wds N).length : Int) < (wds M).length := by omega
    rw [Nat.mul_comm N M]
    clear hr hs hk
    go_enter Tryz.func134, Tryz.ntmps134
    go_wp2_with fail
    refine HG.out.mono ?_
    rintro e w1 ⟨A1, c1, rfl, hp⟩
    go_wp2_with fail
    go_ret
    exact ⟨A1, c1, rfl, hp⟩
end Go.Proofs.YtapfolgiafnllaaGreatDoor
