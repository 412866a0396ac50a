/-
  divWVW by 10^19, in place.
  nat.divW by 10^19, in place.
  math.Log2(10), the room that itoa makes.
  convertWords in base 10, without a table.
-/
import Derived.Test.YtapfolgiafnllaaGreatDoorDiv2Z
import Derived.Test.YtapfolgiafnllaaGreatDoorNat5Z
namespace Go.Proofs.YtapfolgiafnllaaGreatDoor
open Go.RowKit

theorem divWW19_walk (x1 x0 : Nat) (w : World) (hx1 : x1 < 10000000000000000000) (hx0 : x0 < 18446744073709551616) :
    Calls Tryz.prog 233 #[.int .u64 x1, .int .u64 x0, .int .u64 10000000000000000000, .int .u64 15581492618384294730] w fun e w' =>
      e = .returned (.tuple #[.int .u64 (((x1 * 18446744073709551616 + x0) / 10000000000000000000 : Nat) : Int), .int .u64 (((x1 * 18446744073709551616 + x0) % 10000000000000000000 : Nat) : Int)]) ∧ w = w' :=
  divWW_walk x1 x0 10000000000000000000 15581492618384294730 w hx1 hx0 (by decide) (by decide) (by decide) (by decide) (by decide) nlz19_walk

/-- The loop of divWVW: k words are left. -/
def DvRel (w : World) (g : Nat) (xs rest : List Nat) (iv rv : Value) (wr : World) : Prop :=
  ∃ (k r : Nat) (qs : List Nat), iv = .int .i64 ((k : Int) - 1) ∧ rv = .int .u64 r ∧ r < 10000000000000000000 ∧ k ≤ xs.length ∧ qs.length + k = xs.length ∧ (∀ d ∈ qs, d < 18446744073709551616) ∧
    Row wr g .u64 106 (xs.take k ++ qs ++ rest) ∧ Ext (fun b => b = g) w wr ∧ wr.heap.size = w.heap.size ∧ valD 18446744073709551616 qs * 10000000000000000000 + r = valD 18446744073709551616 (xs.drop k)
def DvPost (w : World) (g : Nat) (xs rest : List Nat) (e : Ending) (w' : World) : Prop :=
  ∃ (qs : List Nat), e = .returned (.int .u64 ((valD 18446744073709551616 xs % 10000000000000000000 : Nat) : Int)) ∧ qs.length = xs.length ∧ (∀ d ∈ qs, d < 18446744073709551616) ∧
    Row w' g .u64 106 (qs ++ rest) ∧ Ext (fun b => b = g) w w' ∧ w'.heap.size = w.heap.size ∧ valD 18446744073709551616 qs = valD 18446744073709551616 xs / 10000000000000000000

theorem dv_get {xs qs rest : List Nat} {k : Nat} (hk : k < xs.length) (h : k < (xs.take (k + 1) ++ qs ++ rest).length) : (xs.take (k + 1) ++ qs ++ rest)[k] = xs[k] := by
  apply Option.some.inj
  rw [← List.getElem?_eq_getElem, ← List.getElem?_eq_getElem, List.append_assoc, List.getElem?_append_left (by simp; omega), List.getElem?_take_of_lt (by omega)]
theorem dv_set {xs qs rest : List Nat} {k v : Nat} (hk : k < xs.length) : (xs.take (k + 1) ++ qs ++ rest).set k v = xs.take k ++ (v :: qs) ++ rest := by
  have e : xs.take (k + 1) = xs.take k ++ [xs[k]] := by rw [List.take_add_one, List.getElem?_eq_getElem hk]; rfl
  have hl : (xs.take k).length = k := by simp; omega
  rw [e, List.append_assoc, List.append_assoc, List.set_append_right _ _ (by omega), hl, Nat.sub_self]
  simp
set_option maxRecDepth 100000 in
theorem dv_val {xs qs : List Nat} {k r x q s : Nat} (hk : k < xs.length) (hx : xs[k] = x) (hq : (r * 18446744073709551616 + x) / 10000000000000000000 = q) (hs : (r * 18446744073709551616 + x) % 10000000000000000000 = s)
    (h : valD 18446744073709551616 qs * 10000000000000000000 + r = valD 18446744073709551616 (xs.drop (k + 1))) : valD 18446744073709551616 (q :: qs) * 10000000000000000000 + s = valD 18446744073709551616 (xs.drop k) := by
  have hv : ∀ (B d : Nat) (l : List Nat), valD B (d :: l) = d + B * valD B l := fun _ _ _ => rfl
  rw [List.drop_eq_getElem_cons hk, hx, hv, hv, ← h]
  obtain ⟨V, hV⟩ : ∃ V, valD 18446744073709551616 qs = V := ⟨_, rfl⟩
  rw [hV]
  have h5 : 10000000000000000000 * q + s = r * 18446744073709551616 + x := by rw [← hq, ← hs]; exact Nat.div_add_mod _ _
  clear hV hq hs h
  omega

set_option maxRecDepth 100000 in
set_option maxHeartbeats 2000000 in
theorem divWVW19_walk (g : Nat) (xs rest : List Nat) (cz cx : Nat) (w : World) (hrow : Row w g .u64 106 (xs ++ rest)) (hxw : ∀ d ∈ xs, d < 18446744073709551616) (hl : xs.length ≤ 100000) (h0 : xs ≠ []) :
    Calls Tryz.prog 210 #[.slice (some ⟨g, 0, none⟩) xs.length cz, .int .u64 0, .slice (some ⟨g, 0, none⟩) xs.length cx, .int .u64 10000000000000000000] w (DvPost w g xs rest) := by
  have HR := Lib.hid hrow
  have HX := Lib.hid hxw
  have hlen : 0 < xs.length := by cases xs with | nil => exact absurd rfl h0 | cons a b => simp
  by_cases h1 : xs.length = 1
  · obtain ⟨x, rfl⟩ : ∃ x, xs = [x] := List.length_eq_one_iff.1 h1
    have hx := hxw x (by simp)
    have c0 := hrow.cell (j := 0) (by simp)
    have c1 : w.cell? ⟨g, 0, none⟩ = some (.int .u64 (x : Int)) := c0
    have f0 := hrow.free 0
    have hD := bitsDiv0_walk x 10000000000000000000 w hx (by decide) (by decide)
    have hv : valD 18446744073709551616 [x] = x := by
      have hv : ∀ (B d : Nat) (l : List Nat), valD B (d :: l) = d + B * valD B l := fun _ _ _ => rfl
      rw [hv]
      show x + 18446744073709551616 * 0 = x
      omega
    obtain ⟨q, hq⟩ : ∃ q, x / 10000000000000000000 = q := ⟨_, rfl⟩
    obtain ⟨r, hr⟩ : ∃ r, x % 10000000000000000000 = r := ⟨_, rfl⟩
    have hqw : q < 18446744073709551616 := by omega
    have hrw : r < 18446744073709551616 := by omega
    rw [hq, hr] at hD
    have HD := Lib.hid hD
    have HQ := Lib.hid hq
    have HRR := Lib.hid hr
    have HV := Lib.hid hv
    clear hD hq hr hv hrow hxw c0
    go_enter Tryz.func210, Tryz.ntmps210
    go_wp2_with fail
    refine HD.out.mono ?_
    rintro e w1 ⟨rfl, nd, rfl⟩
    go_wp2_with fail
    go_ret
    have hst : Row ((w.drewN nd).setCell ⟨g, 0, none⟩ (.int .u64 (q : Int))) g .u64 106 ([q] ++ rest) := Row.set (w := w.drewN nd) HR.out 0 q
    exact ⟨[q], by rw [HV.out, HRR.out]; rfl, rfl, by simpa using hqw, hst, Ext.setCell (D := fun b => b = g) (p := ⟨g, 0, none⟩) ((Ext.refl _ _).drewN _) (fun _ => rfl) _, by simp [World.setCell, World.drewN], by
      rw [HV.out, HQ.out]
      show q + 18446744073709551616 * 0 = q
      omega⟩
  · have h1b : ((xs.length : Int) == 1) = false := beq_eq_false_iff_ne.2 (by omega)
    have HC := Lib.hid (recip19_walk w)
    clear hrow hxw
    go_enter Tryz.func210, Tryz.ntmps210
    go_wp2_with fail
    refine HC.out.mono ?_
    rintro e w1 ⟨rfl, nd, rfl⟩
    go_wp2_with fail
    go_loopw [8, 12] (fun rv iv wr => DvRel w g xs rest iv rv wr) (fun _ iv _ => idx1 iv)
    case atStart => exact ⟨xs.length, 0, [], rfl, rfl, by decide, Nat.le_refl _, by simp, by simp, by rw [List.take_length, List.append_nil]; exact HR.out, (Ext.refl _ _).drewN _, rfl, by rw [List.drop_length]; rfl⟩
    case round =>
      obtain ⟨k, r, qs, rfl, rfl, hr, hk, hqk, hqw, hrow, hx, hsz, hval⟩ := hrel
      have HROW := Lib.hid hrow
      have HV := Lib.hid hval
      have HQW := Lib.hid hqw
      clear hval hqw
      match k, hk, hqk, HROW, HV, hrow with
      | 0, hk, hqk, HROW, HV, hrow =>
        have hv := HV.out
        rw [List.drop_zero] at hv
        have e1 : valD 18446744073709551616 xs % 10000000000000000000 = r := by omega
        have e2 : valD 18446744073709551616 xs / 10000000000000000000 = valD 18446744073709551616 qs := by omega
        have E1 := Lib.hid e1
        have E2 := Lib.hid e2
        clear hv e1 e2 hrow
        go_wp2_with fail
        go_ret
        have hrw := HROW.out
        rw [List.take_zero, List.nil_append] at hrw
        exact ⟨qs, by rw [E1.out]; rfl, by omega, HQW.out, hrw, hx, hsz, E2.out.symm⟩
      | k + 1, hk, hqk, HROW, HV, hrow =>
        have e0 : ((k + 1 : Nat) : Int) - 1 = (k : Int) := by omega
        rw [e0]
        have hk1 : k < xs.length := by omega
        have hkl : k < (xs.take (k + 1) ++ qs ++ rest).length := by simp; omega
        obtain ⟨x, hxx⟩ : ∃ x, xs[k] = x := ⟨_, rfl⟩
        have hxw : x < 18446744073709551616 := by rw [← hxx]; exact HX.out _ (List.getElem_mem _)
        have hc := hrow.cell hkl
        rw [dv_get hk1, hxx] at hc
        have hf := hrow.free k
        have hk0 : (0 : Int) ≤ (k : Int) := by omega
        have hk2 : (k : Int) < xs.length := by omega
        have hW := divWW19_walk r x wr hr hxw
        obtain ⟨q, hq⟩ : ∃ q, (r * 18446744073709551616 + x) / 10000000000000000000 = q := ⟨_, rfl⟩
        obtain ⟨s, hs⟩ : ∃ s, (r * 18446744073709551616 + x) % 10000000000000000000 = s := ⟨_, rfl⟩
        have hqw : q < 18446744073709551616 := by omega
        have hsw : s < 10000000000000000000 := by omega
        have hvv := dv_val hk1 hxx hq hs HV.out
        rw [hq, hs] at hW
        have HW := Lib.hid hW
        have HVV := Lib.hid hvv
        clear hW hrow hq hs hvv hxx
        go_wp2_with fail
        refine HW.out.mono ?_
        rintro e w2 ⟨rfl, rfl⟩
        go_wp2_with fail
        refine ⟨⟨k, s, q :: qs, rfl, rfl, hsw, by omega, by simp; omega, ?_, ?_, hx.setCell (p := ⟨g, k, none⟩) (fun _ => rfl) _, by simpa [World.setCell] using hsz, HVV.out⟩, by simp [idx1]⟩
        · intro d hd
          rcases List.mem_cons.1 hd with rfl | hd
          · exact hqw
          · exact HQW.out d hd
        · rw [← dv_set hk1]
          exact HROW.out.set k q
end Go.Proofs.YtapfolgiafnllaaGreatDoor

namespace Go.Proofs.YtapfolgiafnllaaGreatDoor
open Go.RowKit

def DivWPost (B : Nat) (w : World) (A : Option Addr) (c N : Nat) (e : Ending) (w' : World) : Prop :=
  e = .returned (.tuple #[.slice A (wds (N / 10000000000000000000)).length c, .int .u64 ((N % 10000000000000000000 : Nat) : Int)]) ∧ OwnNat B w' A c (N / 10000000000000000000) ∧ Below B w w' ∧ w'.heap.size = w.heap.size

set_option maxRecDepth 100000 in
set_option maxHeartbeats 2000000 in
theorem divW19_walk (B : Nat) (A : Option Addr) (c N : Nat) (w : World) (h : OwnNat B w A c N) (hB : B ≤ w.heap.size) (hN : N ≠ 0) :
    Calls Tryz.prog 176 #[.slice A (wds N).length c, .slice A (wds N).length c, .int .u64 10000000000000000000] w (DivWPost B w A c N) := by
  have hrm := h.room
  have hval := wds_val N
  have hwl := wds_lt N
  have hm0 : (wds N).length ≠ 0 := fun e => hN ((toD_nil_iff (by decide)).1 (List.length_eq_zero_iff.1 e))
  obtain ⟨xs, hxs⟩ : ∃ xs, wds N = xs := ⟨_, rfl⟩
  rcases h with ⟨_, _, h0⟩ | ⟨g, zs, rfl, rfl, hrow, ⟨rest, hzr⟩, hg, hl⟩
  · exact absurd h0 hN
  rw [hxs] at hm0 hrm hval hwl hzr ⊢
  obtain ⟨C, hC⟩ : ∃ C, zs.length = C := ⟨_, rfl⟩
  rw [hC] at hrm hl ⊢
  have hne : xs ≠ [] := fun e => hm0 (by rw [e]; rfl)
  rw [hzr] at hrow
  have HM := Lib.hid (make_room_walk (some ⟨g, 0, none⟩) xs.length C xs.length w hrm.1 (by omega) hrm.1)
  have HD := Lib.hid (divWVW19_walk g xs rest C C w hrow hwl (by omega) hne)
  have hmb : ((xs.length : Int) == 0) = false := beq_eq_false_iff_ne.2 (by omega)
  have HV := Lib.hid hval
  have HC : Hid ((xs ++ rest).length = C) := Lib.hid (by rw [← hzr, hC])
  clear hrow hwl hval hzr hC
  go_enter Tryz.func176, Tryz.ntmps176
  go_wp2_with fail
  refine HM.out.mono ?_
  rintro e w1 ⟨rfl, rfl⟩
  go_wp2_with fail
  refine HD.out.mono ?_
  rintro e w2 ⟨qs, rfl, hql, hqw, hrow2, hx2, hs2, hqv⟩
  have hrd := hrow2.rd 0
  rw [List.drop_zero] at hrd
  have htk := hrd.take qs.length
  rw [List.take_left] at htk
  have htr : trimN qs = wds (N / 10000000000000000000) := by rw [wds_trim hqw, hqv, HV.out]
  have hNW := norm_walk (some ⟨g, 0, none⟩) C qs w2 (by omega) (by omega) htk
  rw [htr, hql] at hNW
  have HN := Lib.hid hNW
  have HR2 := Lib.hid hrow2
  have HTR := Lib.hid htr
  have HQL := Lib.hid hql
  clear hNW hrow2 htr hrd htk hql hqv hqw
  rw [HV.out]
  go_wp2_with fail
  refine HN.out.mono ?_
  rintro e w3 ⟨rfl, rfl⟩
  go_wp2_with fail
  go_ret2
  obtain ⟨r0, hr0⟩ := trimN_prefix qs
  rw [HTR.out] at hr0
  have hcl : C = (qs ++ rest).length := by have := HC.out; have := HQL.out; simp at *; omega
  exact ⟨by rw [Int.natCast_emod]; rfl, .inr ⟨g, qs ++ rest, rfl, hcl, HR2.out, ⟨r0 ++ rest, by rw [← List.append_assoc, ← hr0]⟩, hg, by omega⟩, hx2.below hB (fun k hk => by rw [hk]; exact hg), hs2⟩
end Go.Proofs.YtapfolgiafnllaaGreatDoor

namespace Go.Proofs.YtapfolgiafnllaaGreatDoor
open Go.RowKit

set_option maxRecDepth 100000 in
theorem f64bits_law (x : Nat) (w : World) : (callFunc 246 #[.float .f64 x]).run Tryz.prog w = .ok (.value (.int .u64 (x : Int))) w := by
  rw [run_callFunc_extern Tryz.func246 (by kernel_rfl) (by kernel_rfl) (by kernel_rfl) (e := Extern.MathFloatBits.float64bits) (by kernel_rfl)]
  rfl
set_option maxRecDepth 100000 in
theorem f64from_law (x : Int) (w : World) : (callFunc 247 #[.int .u64 x]).run Tryz.prog w = .ok (.value (.float .f64 x.toNat)) w := by
  rw [run_callFunc_extern Tryz.func247 (by kernel_rfl) (by kernel_rfl) (by kernel_rfl) (e := Extern.MathFloatBits.float64frombits) (by kernel_rfl)]
  rfl

set_option maxRecDepth 100000 in
theorem archLog_law (w : World) : (callFunc 239 #[.float .f64 4603804719079489536]).run Tryz.prog w = .ok (.value (.float .f64 13825510489450817230)) w := by
  rw [run_callFunc_extern Tryz.func239 (by kernel_rfl) (by kernel_rfl) (by kernel_rfl) (e := Extern.MathLog.archLog) (by kernel_rfl)]
  kernel_rfl

theorem mul_law (w : World) : (binOp BinOp.mul 144 (.float .f64 13825510489450817230) (.float .f64 4609176140021203710)).run Tryz.prog w = .ok (.float .f64 13827654785158443579) w := by kernel_rfl
theorem add_law (w : World) : (binOp BinOp.add 144 (.float .f64 13827654785158443579) (.float .f64 4616189618054758400)).run Tryz.prog w = .ok (.float .f64 4614662735865160561) w := by kernel_rfl
set_option maxRecDepth 100000 in
set_option maxHeartbeats 2000000 in
theorem log2_10_walk (w : World) : Calls Tryz.prog 145 #[.float .f64 0x4024000000000000] w fun e w' => e = .returned (.float .f64 4614662735865160561) ∧ w = w' := by
  have h1 := f64bits_law 4621819117588971520
  have h2 := f64from_law
  have h3 := archLog_law
  have b1 : bits BinOp.andNot IntKind.u64 4621819117588971520 9223372036854775808 = 4621819117588971520 := by decide
  have b2 : bits BinOp.andNot IntKind.u64 4621819117588971520 9218868437227405312 = 1125899906842624 := by decide
  have b4 : bits BinOp.and IntKind.u64 1026 2047 = 1026 := by decide
  have b3 : bits BinOp.or IntKind.u64 1125899906842624 4602678819172646912 = 4603804719079489536 := by decide
  have m1 := mul_law
  have m2 := add_law
  have m3 : floatOfInt FloatKind.f64 4 = 4616189618054758400 := by kernel_rfl
  go_enter Tryz.func145, Tryz.ntmps145
  go_wp2
  go_ret
  exact ⟨rfl, rfl⟩
end Go.Proofs.YtapfolgiafnllaaGreatDoor

namespace Go.Proofs.YtapfolgiafnllaaGreatDoor
open Go.RowKit

/-- Digits, the lowest one first, as characters, the highest one first. -/
def chr (ds : List Nat) : List Nat := ds.reverse.map (48 + ·)
theorem chr_snoc (ds : List Nat) (d : Nat) : chr (ds ++ [d]) = (48 + d) :: chr ds := by simp [chr]
theorem chr_length (ds : List Nat) : (chr ds).length = ds.length := by simp [chr]
theorem conv_set {i : Nat} {ds : List Nat} {d : Nat} : (List.replicate (i + 1) 0 ++ chr ds).set i (48 + d) = List.replicate i 0 ++ chr (ds ++ [d]) := by
  rw [List.replicate_succ', List.append_assoc, List.set_append_right _ _ (by simp), chr_snoc]
  simp
/-- What has been written. -/
def ConvMem (B gs n : Nat) (w : World) (i : Nat) (ds : List Nat) (wr : World) : Prop :=
  Row wr gs .u8 5 (List.replicate i 0 ++ chr ds) ∧ ds.length + i = n ∧ (∀ d ∈ ds, d < 10) ∧ Below gs w wr ∧ (∀ k, k < B → k ≠ gs → wr.heap[k]? = w.heap[k]?) ∧ w.heap.size ≤ wr.heap.size
def ConvRel (B gs n : Nat) (A : Option Addr) (c N : Nat) (w : World) (qv iv : Value) (wr : World) : Prop :=
  ∃ (i Q : Nat) (ds : List Nat), qv = .slice A (wds Q).length c ∧ OwnNat B wr A c Q ∧ iv = .int .i64 i ∧ ConvMem B gs n w i ds wr ∧ N = valD 10 ds + 10 ^ ds.length * Q
def ConvIn (B gs n : Nat) (A : Option Addr) (c N : Nat) (w : World) (i0 Q : Nat) (iv rv jv : Value) (wr : World) : Prop :=
  ∃ (i r j : Nat) (ds : List Nat), iv = .int .i64 i ∧ rv = .int .u64 r ∧ jv = .int .i64 j ∧ i + j = i0 ∧ j ≤ 19 ∧ r < 10 ^ (19 - j) ∧ OwnNat B wr A c Q ∧ ConvMem B gs n w i ds wr ∧ N = valD 10 ds + 10 ^ ds.length * (r + 10 ^ (19 - j) * Q)

theorem ConvMem.belowB {B gs n : Nat} {w wr w2 : World} {i : Nat} {ds : List Nat} (h : ConvMem B gs n w i ds wr) (hgs : gs < B) (hb : Below B wr w2) : ConvMem B gs n w i ds w2 := by
  obtain ⟨h1, h2, h3, h4, h5, h6⟩ := h
  exact ⟨(hb.block gs hgs).trans h1, h2, h3, h4.trans (hb.mono (Nat.le_of_lt hgs)), fun k hk hn => (hb.block k hk).trans (h5 k hk hn), Nat.le_trans h6 hb.size⟩
theorem ConvMem.put {B gs n : Nat} {w wr : World} {i : Nat} {ds : List Nat} (h : ConvMem B gs n w (i + 1) ds wr) {d : Nat} (hd : d < 10) :
    ConvMem B gs n w i (ds ++ [d]) (wr.setCell ⟨gs, i, none⟩ (.int .u8 ((48 + d : Nat) : Int))) := by
  obtain ⟨h1, h2, h3, h4, h5, h6⟩ := h
  refine ⟨?_, by simp; omega, ?_, h4.setCell (p := ⟨gs, i, none⟩) (Nat.le_refl _) _, fun k hk hn => (one_other hn).trans (h5 k hk hn), by simpa [World.setCell] using h6⟩
  · rw [← conv_set]
    exact h1.set i (48 + d)
  · intro x hx
    rcases List.mem_append.1 hx with hx | hx
    · exact h3 x hx
    · simp at hx; omega

theorem conv_val {N r t d j Q : Nat} {ds : List Nat} (hj : j < 19) (ht : r / 10 = t) (hd : r % 10 = d) (h : N = valD 10 ds + 10 ^ ds.length * (r + 10 ^ (19 - j) * Q)) :
    N = valD 10 (ds ++ [d]) + 10 ^ (ds ++ [d]).length * (t + 10 ^ (19 - (j + 1)) * Q) := by
  have e : 19 - j = (19 - (j + 1)) + 1 := by omega
  rw [h, e, valD_append, List.length_append, Nat.pow_succ]
  generalize 10 ^ (19 - (j + 1)) = P
  have hr : r = 10 * t + d := by omega
  subst hr
  show valD 10 ds + _ = valD 10 ds + 10 ^ ds.length * (d + 10 * 0) + 10 ^ (ds.length + 1) * (t + P * Q)
  rw [Nat.pow_succ]
  generalize 10 ^ ds.length = L
  have e1 : L * (10 * t + d + P * 10 * Q) = L * d + L * 10 * (t + P * Q) := by
    rw [Nat.mul_assoc L 10, ← Nat.mul_add]
    congr 1
    rw [Nat.mul_add, Nat.mul_comm P 10, Nat.mul_assoc]
    omega
  rw [e1, Nat.mul_zero, Nat.add_zero, Nat.add_assoc]

theorem conv_done {N n r j Q : Nat} {ds : List Nat} (hN : N < 10 ^ n) (hl : ds.length = n) (h : N = valD 10 ds + 10 ^ ds.length * (r + 10 ^ (19 - j) * Q)) : r = 0 ∧ Q = 0 := by
  rw [hl] at h
  have h1 : r + 10 ^ (19 - j) * Q = 0 := by
    refine Nat.eq_zero_of_not_pos fun hp => ?_
    have := Nat.mul_le_mul_left (10 ^ n) hp
    omega
  have h2 : 10 ^ (19 - j) * Q = 0 := by omega
  refine ⟨by omega, ?_⟩
  rcases Nat.mul_eq_zero.1 h2 with h3 | h3
  · exact absurd h3 (Nat.ne_of_gt (Nat.pow_pos (by decide)))
  · exact h3

def ConvFill (B gs n : Nat) (N : Nat) (w : World) (iv : Value) (wr : World) : Prop := ∃ (i : Nat) (ds : List Nat), iv = .int .i64 i ∧ ConvMem B gs n w i ds wr ∧ N = valD 10 ds
theorem val_nought (ds : List Nat) : valD 10 (ds ++ [0]) = valD 10 ds := by rw [valD_append]; show valD 10 ds + 10 ^ ds.length * (0 + 10 * 0) = _; simp
def ConvPost (B gs n : Nat) (N : Nat) (w : World) (e : Ending) (w' : World) : Prop := e = .returned (.tuple #[]) ∧ ∃ ds, ConvMem B gs n w 0 ds w' ∧ N = valD 10 ds

set_option maxRecDepth 100000 in
set_option maxHeartbeats 2000000 in
theorem conv_walk (B gs n : Nat) (A : Option Addr) (c cs N : Nat) (stk : Value) (w : World) (h : OwnNat B w A c N) (hB : B ≤ w.heap.size) (hrow : Row w gs .u8 5 (List.replicate n 0)) (hgs : gs < B) (hn : n ≤ 1000) (hN : N < 10 ^ n) :
    Calls Tryz.prog 151 #[.slice A (wds N).length c, stk, .slice (some ⟨gs, 0, none⟩) n cs, .int .u64 10, .int .i64 19, .int .u64 10000000000000000000, .slice none 0 0] w (ConvPost B gs n N w) := by
  have HO := Lib.hid h
  have HR := Lib.hid hrow
  have HN := Lib.hid hN
  clear h hrow hN
  go_enter Tryz.func151, Tryz.ntmps151
  go_wp2_with fail
  go_loopw [0, 19] (fun qv iv wr => ConvRel B gs n A c N w qv iv wr) (fun _ iv _ => natOf iv)
  case atStart =>
    refine ⟨n, N, [], rfl, HO.out, rfl, ⟨?_, by simp, by simp, Below.refl _ _, fun _ _ _ => rfl, Nat.le_refl _⟩, by simp [valD]⟩
    simpa [chr] using HR.out
  case round =>
    obtain ⟨i, Q, ds, rfl, hown, rfl, hmem, hval⟩ := hrel
    have HM := Lib.hid hmem
    have HV := Lib.hid hval
    have HOW := Lib.hid hown
    clear hmem hval hown
    by_cases hQ : Q = 0
    · subst hQ
      have hl0 : (wds 0).length = 0 := by rw [wds_zero]; rfl
      rw [hl0]
      have hv : N = valD 10 ds := by have := HV.out; rwa [Nat.mul_zero, Nat.add_zero] at this
      have HVV := Lib.hid hv
      clear hv
      go_wp2_with fail
      go_loopw [19] (fun iv wr => ConvFill B gs n N w iv wr) (fun iv _ => natOf iv)
      case atStart => exact ⟨i, ds, rfl, HM.out, HVV.out⟩
      case round =>
        obtain ⟨i2, ds2, rfl, hmem2, hval2⟩ := hrel
        have HM2 := Lib.hid hmem2
        have HV2 := Lib.hid hval2
        have hlen2 := hmem2.2.1
        clear hmem2 hval2
        by_cases hi0 : i2 = 0
        · subst hi0
          go_wp2_with fail
          go_end0
          exact ⟨rfl, ds2, HM2.out, HV2.out⟩
        · obtain ⟨i3, rfl⟩ : ∃ i3, i2 = i3 + 1 := ⟨i2 - 1, by omega⟩
          have hi1 : (0 : Int) < (i3 : Int) + 1 := by omega
          have hi2 : (0 : Int) ≤ (i3 : Int) := by omega
          have hin : (i3 : Int) < n := by omega
          have hc : ∃ old : Nat, wr.cell? ⟨gs, i3, none⟩ = some (.int .u8 old) := ⟨_, HM2.out.1.cell (j := i3) (by rw [List.length_append, List.length_replicate]; omega)⟩
          obtain ⟨old, hc⟩ := hc
          have hf := HM2.out.1.free i3
          have e1 : ((i3 + 1 : Nat) : Int) = (i3 : Int) + 1 := by omega
          rw [e1]
          go_wp2_with fail
          have hst := HM2.out.put (d := 0) (by decide)
          exact ⟨⟨i3, ds2 ++ [0], by go_num, hst, by rw [val_nought]; exact HV2.out⟩, by simp [natOf]⟩
    · have hl0 : (wds Q).length ≠ 0 := fun e => hQ ((toD_nil_iff (by decide)).1 (List.length_eq_zero_iff.1 e))
      have hl1 : (0 : Int) < (wds Q).length := by omega
      go_wp2_with fail
      refine (divW19_walk B A c Q wr HOW.out (by have := HM.out.2.2.2.2.2; omega) hQ).mono ?_
      rintro e w2 ⟨rfl, hown2, hb2, hs2⟩
      have HM2 := Lib.hid (HM.out.belowB hgs hb2)
      have hr19 : Q % 10000000000000000000 < 10000000000000000000 := Nat.mod_lt _ (by decide)
      have hQd : Q = Q % 10000000000000000000 + 10000000000000000000 * (Q / 10000000000000000000) := (Nat.mod_add_div Q _).symm
      obtain ⟨r0, hr0⟩ : ∃ r0, Q % 10000000000000000000 = r0 := ⟨_, rfl⟩
      obtain ⟨Q1, hQ1⟩ : ∃ Q1, Q / 10000000000000000000 = Q1 := ⟨_, rfl⟩
      rw [hr0, hQ1] at hQd
      rw [hr0] at hr19 ⊢
      rw [hQ1] at hown2 ⊢
      have hval1 : N = valD 10 ds + 10 ^ ds.length * (r0 + 10 ^ (19 - 0) * Q1) := by
        have h19 : 10 ^ (19 - 0) = 10000000000000000000 := by decide
        rw [h19, ← hQd]
        exact HV.out
      have HV1 := Lib.hid hval1
      have HOW2 := Lib.hid hown2
      clear hval1 hown2 hr0 hQ1 hQd
      go_wp2_with fail
      go_loopw [19, 20, 21] (fun iv rv jv wr => ConvIn B gs n A c N w i Q1 iv rv jv wr) (fun _ _ jv _ => idxOf 19 jv)
      case atStart => exact ⟨i, r0, 0, ds, rfl, rfl, rfl, rfl, by decide, by simpa using hr19, HOW2.out, HM2.out, HV1.out⟩
      case round =>
        obtain ⟨i2, r, j, ds2, rfl, rfl, rfl, hij, hj, hr, hown3, hmem3, hval3⟩ := hrel
        have HM3 := Lib.hid hmem3
        have HV3 := Lib.hid hval3
        have HOW3 := Lib.hid hown3
        have hrb : r < 10 ^ 19 := Nat.lt_of_lt_of_le hr (Nat.pow_le_pow_right (by decide) (by omega))
        have hlen3 := hmem3.2.1
        clear hmem3 hval3 hown3
        by_cases hgo : j < 19 ∧ 0 < i2
        · obtain ⟨hj19, hi20⟩ := hgo
          obtain ⟨i3, rfl⟩ : ∃ i3, i2 = i3 + 1 := ⟨i2 - 1, by omega⟩
          obtain ⟨t, ht⟩ : ∃ t, r / 10 = t := ⟨_, rfl⟩
          obtain ⟨d, hd⟩ : ∃ d, r % 10 = d := ⟨_, rfl⟩
          have hd10 : d < 10 := by omega
          have hti : (r : Int) / 10 = t := by omega
          have htd : (r : Int) - (t : Int) * 10 = d := by omega
          have hrI : (r : Int) ≤ 10000000000000000000 := by omega
          have htI : (t : Int) * 10 ≤ 10000000000000000000 := by omega
          have hj1 : (j : Int) < 19 := by omega
          have hi1 : (0 : Int) < (i3 : Int) + 1 := by omega
          have hi0 : (0 : Int) ≤ (i3 : Int) := by omega
          have hin : (i3 : Int) < n := by omega
          have hd48 : (d : Int) < 10 := by omega
          have hc : ∃ old : Nat, wr.cell? ⟨gs, i3, none⟩ = some (.int .u8 old) := ⟨_, HM3.out.1.cell (j := i3) (by rw [List.length_append, List.length_replicate]; omega)⟩
          obtain ⟨old, hc⟩ := hc
          have hf := HM3.out.1.free i3
          have e1 : ((i3 + 1 : Nat) : Int) = (i3 : Int) + 1 := by omega
          rw [e1]
          go_wp2_with fail
          have hst := HM3.out.put hd10
          have hv := conv_val hj19 ht hd HV3.out
          have ht2 : t < 10 ^ (19 - (j + 1)) := by
            have e : 19 - j = (19 - (j + 1)) + 1 := by omega
            rw [e, Nat.pow_succ] at hr
            omega
          refine ⟨⟨i3, t, j + 1, ds2 ++ [d], by go_num, by go_num, by go_num, by omega, by omega, ht2, ?_, ?_, hv⟩, by simp [idxOf]; omega⟩
          · exact HOW3.out.ext (Ext.setCell (D := fun b => b = gs) (p := ⟨gs, i3, none⟩) (Ext.refl _ _) (fun _ => rfl) _) (fun b hb => by omega)
          · have e48 : ((48 + d : Nat) : Int) = 48 + (d : Int) := by omega
            rw [e48] at hst
            exact hst
        · have hiN : i ≠ 0 := by
            intro e
            have := conv_done (ds := ds) (r := Q) (j := 0) (Q := 0) HN.out (by have := HM.out.2.1; omega) (by rw [Nat.mul_zero, Nat.add_zero]; exact HV.out)
            exact hQ this.1
          have hv : N = valD 10 ds2 + 10 ^ ds2.length * Q1 := by
            by_cases hj19 : j < 19
            · have hi0 : i2 = 0 := by omega
              obtain ⟨e1, e2⟩ := conv_done HN.out (by omega) HV3.out
              have := HV3.out
              rw [e1, e2] at this
              rw [e2]
              simpa using this
            · obtain rfl : j = 19 := by omega
              have hr0 : r = 0 := by simpa using hr
              have := HV3.out
              rw [hr0] at this
              simpa using this
          have HVV := Lib.hid hv
          clear hv
          by_cases hj19 : j < 19
          · have hi0 : i2 = 0 := by omega
            subst hi0
            have hj1 : (j : Int) < 19 := by omega
            go_wp2_with fail
            refine ⟨⟨0, Q1, ds2, rfl, HOW3.out, rfl, HM3.out, HVV.out⟩, by simp [natOf]; omega⟩
          · have hj1 : ¬ (j : Int) < 19 := by omega
            go_wp2_with fail
            refine ⟨⟨i2, Q1, ds2, rfl, HOW3.out, rfl, HM3.out, HVV.out⟩, by simp [natOf]; omega⟩
end Go.Proofs.YtapfolgiafnllaaGreatDoor
