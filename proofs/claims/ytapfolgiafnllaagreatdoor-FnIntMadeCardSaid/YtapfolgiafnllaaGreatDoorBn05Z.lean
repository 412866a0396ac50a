/-
  (*big.Int).Text, String.
-/
import Derived.Test.YtapfolgiafnllaaGreatDoorItoa4Z
import Derived.StillTailTactics
import Derived.Lib.SlBytesConst
import Derived.Test.YtapfolgiafnllaaGreatDoorSpecFitsZ
import Derived.Test.YtapfolgiafnllaaGreatDoorSpecCmp2Z
namespace Go.Proofs.YtapfolgiafnllaaGreatDoor
open Go.RowKit

set_option maxRecDepth 100000 in
theorem itoaZero_walk (A : Option Addr) (c : Nat) (w : World) :
    Calls Tryz.prog 122 #[.slice A 0 c, .bool false, .int .i64 10] w (ItoaPost w [48]) := by
  have kc := fun (w : World) (C : Array Value) (n c : Nat) => Lib.run_convert_bytes_const (P := Tryz.prog) w 23 5 C n c Tryz.underlying23 Tryz.underlying5
  go_enter Tryz.func122, Tryz.ntmps122
  go_wp2_with fail
  go_ret
  refine ⟨w.heap.size, 0, 1, rfl, by decide, by decide, ?_, below_a1 _ _⟩
  right
  refine ⟨_, rfl, fun j u hu => ?_⟩
  match j, hu with
  | 0, hu => simp [Lib.byteCells] at hu; subst hu; rw [add_off]; have := heap_here w (.cells #[.int .u8 48] 5 (1, 2)); simp only [World.cell?, Nat.add_zero, this]; rfl
  | j + 1, hu => simp [Lib.byteCells] at hu

set_option maxRecDepth 100000 in
theorem conv_text_bytes {w : World} {g o c : Nat} {l : List UInt8} (h : Rd w (some ⟨g, o, none⟩) (Lib.byteCells l)) :
    (convert 23 9 (.slice (some ⟨g, o, none⟩) l.length c)).run Tryz.prog w = .ok (.string (S l)) w := by
  have := run_convert_bytes_arg (P := Tryz.prog) w 23 5 Tryz.underlying23 Tryz.underlying5 g o l.length c (l.map fun b => (b.toNat : Int)) (by simp) (fun i hi => ?_) 9 Tryz.underlying9
  · rw [this]
    congr 2
    unfold strOfNums S
    congr 2
    rw [List.map_map]
    conv => rhs; rw [← List.map_id l]
    apply List.map_congr_left
    intro b _
    simp
  · have hi2 : i < l.length := by simpa using hi
    rcases h with h | ⟨a, ha, h⟩
    · have := congrArg List.length h
      rw [Lib.byteCells_length] at this
      simp at this
      subst this
      simp at hi2
    · cases ha
      have := h i (.int .u8 ((l.map fun b => (b.toNat : Int)).getD i 0)) (by simp [Lib.byteCells, List.getElem?_eq_getElem hi2, List.getD_eq_getElem?_getD])
      rwa [add_off] at this

/-- The decimal text of a number. -/
def zText (z : Int) : List UInt8 := numText (decide (z < 0)) (toD 10 z.natAbs)

theorem itoa_walk (z : Int) (A : Option Addr) (c : Nat) (w : World) (hc : (wds z.natAbs).length ≤ c) (hm : c ≤ 9223372036854775807) (hl : natLen z.natAbs ≤ 320) (hr : Rd w A (nums .u64 (wds z.natAbs))) (hleaf : LeafIs w) :
    Calls Tryz.prog 122 #[.slice A (wds z.natAbs).length c, .bool (decide (z < 0)), .int .i64 10] w (ItoaPost w (zText z)) := by
  by_cases h0 : z.natAbs = 0
  · have e : z = 0 := by omega
    subst e
    have e1 : (wds (0 : Int).natAbs).length = 0 := by simp [wds_zero]
    have e2 : zText 0 = [48] := by simp [zText, numText, toD_zero]
    rw [e1, e2]
    exact itoaZero_walk A c w
  · unfold zText
    by_cases hn : z < 0
    · rw [decide_eq_true hn]
      exact itoaNeg_walk z.natAbs A c w hc hm hl h0 hr hleaf
    · rw [decide_eq_false hn]
      exact itoaPos_walk z.natAbs A c w hc hm hl h0 hr hleaf

set_option maxRecDepth 100000 in
set_option maxHeartbeats 1000000 in
theorem intText_walk (g : Nat) (z : Int) (w : World) (hz : IntAt w g z) (hl : natLen z.natAbs ≤ 320) (hleaf : LeafIs w) :
    Calls Tryz.prog 98 #[.pointer (some ⟨g, 0, none⟩), .int .i64 10] w fun e w' => e = .returned (.string (S (zText z))) ∧ Below w.heap.size w w' := by
  obtain ⟨A, c, hk, h2, h3, h4⟩ := hz
  have c0 := num_cell0 hk
  have c1 := num_cell1 hk
  have HI := Lib.hid (itoa_walk z A c w.drew h2 h3 hl h4.rd hleaf)
  clear h4 hk
  go_enter Tryz.func98, Tryz.ntmps98
  go_wp2_with fail
  go_still_tail 9, (by kernel_rfl)
  change wpList _ _ _ _ _ w.drew
  go_wp2_with fail
  refine HI.out.mono ?_
  rintro e w1 ⟨g1, o1, c1', rfl, hc1, hc2, hrd, hb0⟩
  have hb : Below w.heap.size w w1 := ((Below.refl _ w).drew).trans hb0
  clear hb0
  have hcv := conv_text_bytes (c := c1') hrd
  clear hrd
  go_wp2_with fail
  go_ret
  exact ⟨rfl, hb⟩

set_option maxRecDepth 100000 in
set_option maxHeartbeats 1000000 in
theorem intString_walk (g : Nat) (z : Int) (w : World) (hz : IntAt w g z) (hl : natLen z.natAbs ≤ 320) (hleaf : LeafIs w) :
    Calls Tryz.prog 68 #[.pointer (some ⟨g, 0, none⟩)] w fun e w' => e = .returned (.string (S (zText z))) ∧ Below w.heap.size w w' := by
  have HI := Lib.hid (intText_walk g z w hz hl hleaf)
  clear hz
  go_enter Tryz.func68, Tryz.ntmps68
  go_wp2_with fail
  refine HI.out.mono ?_
  rintro e w1 ⟨rfl, hb⟩
  go_wp2_with fail
  go_ret
  exact ⟨rfl, hb⟩
end Go.Proofs.YtapfolgiafnllaaGreatDoor

/-
  laws.told, laws.asked: true where the answer is the reference's.
-/
namespace Go.Proofs.YtapfolgiafnllaaGreatDoor
open Go.RowKit

set_option maxRecDepth 100000 in
set_option maxHeartbeats 1000000 in
theorem told_walk (t : List UInt8) (ok : Bool) (x : Int) (v : Value) (is : Bool) (w : World) (hv : IsNum w v x) (hl : (toD 10 x.natAbs).length ≤ 1000000) (hok : ok = (is && decide (x.natAbs < 2 ^ 256))) (ht : ok = true → t = zText x) :
    Calls Tryz.prog 17 #[.string (S t), .bool ok, v, .bool is] w fun e w' => e = .returned (.bool true) ∧ Below w.heap.size w w' := by
  obtain ⟨A, c, rfl, hc, hcm, hr⟩ := hv.open
  have HV := Lib.hid hv
  have HL := Lib.hid hl
  clear hv hr hl
  obtain ⟨b, hb⟩ : ∃ b, decide (x < 0) = b := ⟨_, rfl⟩
  obtain ⟨ds, hds⟩ : ∃ ds, toD 10 x.natAbs = ds := ⟨_, rfl⟩
  rw [hb, hds] at HV
  rw [hds] at HL
  have htx : numText b ds = zText x := by rw [← hb, ← hds]; rfl
  rw [hb, hds]
  have HN : Hid (∀ d ∈ ds, d < 10) := Lib.hid (by rw [← hds]; exact toD_lt (by decide) _)
  have HS : Hid (∀ w', IsNum w' (.agg #[.bool b, .slice A ds.length c]) x → NumIs w' (.agg #[.bool b, .slice A ds.length c]) b ds) := Lib.hid (fun w' h => by unfold IsNum at h; rw [hb, hds] at h; exact h)
  clear hb hds hc
  cases is with
  | false =>
    obtain rfl : ok = false := hok
    clear ht htx
    go_enter Tryz.func17, Tryz.ntmps17
    go_wp2_with fail
    go_ret
    exact ⟨rfl, below_a1 _ _⟩
  | true =>
    cases hR : decide (x.natAbs < 2 ^ 256) with
    | false =>
      rw [hR] at hok
      obtain rfl : ok = false := hok
      have HR := Lib.hid hR
      clear ht htx hR
      go_enter Tryz.func17, Tryz.ntmps17
      go_wp2_with fail
      refine (fits_walk _ x _ (HV.out.below (below_a1 _ _))).mono ?_
      rw [HR.out]
      rintro e w1 ⟨rfl, hb1⟩
      go_wp2_with fail
      go_ret
      exact ⟨rfl, bt (below_a1 _ _) hb1⟩
    | true =>
      rw [hR] at hok
      obtain rfl : ok = true := hok
      obtain rfl := ht rfl
      have HR := Lib.hid hR
      rw [← htx]
      obtain ⟨T, hT⟩ : ∃ T, numText b ds = T := ⟨_, rfl⟩
      rw [hT]
      have HT := Lib.hid hT
      clear ht htx hR hT
      go_enter Tryz.func17, Tryz.ntmps17
      go_wp2_with fail
      refine (fits_walk _ x _ (HV.out.below (below_a1 _ _))).mono ?_
      rw [HR.out]
      rintro e w1 ⟨rfl, hb1⟩
      have hk := (hb1.block w.heap.size (by rw [heap_size_alloc]; omega)).trans (heap_here w (.cells #[.bool b, .slice A ds.length c] 25))
      have c0 := num_cell0 hk
      have c1 := num_cell1 hk
      have HB := Lib.hid (bt (below_a1 w (.cells #[.bool b, .slice A ds.length c] 25)) hb1)
      clear hk hb1
      go_wp2_with fail
      refine (text_walk _ b ds _ (HS.out _ (HV.out.below HB.out)) HN.out HL.out).mono ?_
      rw [HT.out]
      rintro e w2 ⟨rfl, hb2⟩
      go_wp2_with fail
      go_ret
      exact ⟨rfl, bt HB.out hb2⟩

set_option maxRecDepth 100000 in
set_option maxHeartbeats 1000000 in
theorem asked_walk (t : List UInt8) (ok : Bool) (x : Int) (v : Value) (w : World) (hv : IsNum w v x) (hl : (toD 10 x.natAbs).length ≤ 1000000) (hok : ok = ((!decide (x < 0)) && decide (x.natAbs < 2 ^ 256))) (ht : ok = true → t = zText x) :
    Calls Tryz.prog 11 #[.string (S t), .bool ok, v, .bool true] w fun e w' => e = .returned (.bool true) ∧ Below w.heap.size w w' := by
  have HTO := Lib.hid (fun (is : Bool) (w' : World) (h1 : IsNum w' v x) (h2 : ok = (is && decide (x.natAbs < 2 ^ 256))) => told_walk t ok x v is w' h1 hl h2 ht)
  obtain ⟨A, c, rfl, hc, hcm, hr⟩ := hv.open
  have HV := Lib.hid hv
  clear hv hr hl ht hc
  cases hb : decide (x < 0) with
  | false =>
    rw [hb] at hok HTO HV
    have HOK := Lib.hid hok
    clear hok hb
    go_enter Tryz.func11, Tryz.ntmps11
    go_wp2_with fail
    refine (HTO.out true _ (HV.out.below (below_a1 _ _)) HOK.out).mono ?_
    rintro e w1 ⟨rfl, hb1⟩
    go_wp2_with fail
    go_ret
    exact ⟨rfl, bt (below_a1 _ _) hb1⟩
  | true =>
    rw [hb] at hok HTO HV
    have HOK := Lib.hid hok
    clear hok hb
    go_enter Tryz.func11, Tryz.ntmps11
    go_wp2_with fail
    refine (HTO.out false _ (HV.out.below (below_a1 _ _)) HOK.out).mono ?_
    rintro e w1 ⟨rfl, hb1⟩
    go_wp2_with fail
    go_ret
    exact ⟨rfl, bt (below_a1 _ _) hb1⟩
end Go.Proofs.YtapfolgiafnllaaGreatDoor

/-
  A number's text is read as that number, and what is read is the number's text: plain laws.
-/
namespace Go.Proofs.YtapfolgiafnllaaGreatDoor

theorem digN_char {d : Nat} (h : d < 10) : digN (UInt8.ofNat (48 + d)) = d ∧ 48 ≤ UInt8.ofNat (48 + d) ∧ UInt8.ofNat (48 + d) ≤ 57 := by
  have e : (UInt8.ofNat (48 + d)).toNat = 48 + d := by
    rw [UInt8.toNat_ofNat']
    exact Nat.mod_eq_of_lt (by omega)
  refine ⟨by unfold digN; rw [e]; omega, ?_, ?_⟩
  · rw [UInt8.le_iff_toNat_le, e]; show 48 ≤ 48 + d; omega
  · rw [UInt8.le_iff_toNat_le, e]; show 48 + d ≤ 57; omega
theorem char_digN {c : UInt8} (h1 : 48 ≤ c) (_h2 : c ≤ 57) : UInt8.ofNat (48 + digN c) = c := by
  rw [UInt8.le_iff_toNat_le] at h1
  have h1 : 48 ≤ c.toNat := h1
  unfold digN
  rw [show 48 + (c.toNat - 48) = c.toNat by omega]
  exact UInt8.ofNat_toNat
theorem map_digs {ds : List Nat} (h : ∀ d ∈ ds, d < 10) : ds.map (fun d => digN (UInt8.ofNat (48 + d))) = ds := by
  induction ds with
  | nil => rfl
  | cons d r ih =>
    rw [List.map_cons, (digN_char (h d (by simp))).1, ih fun x hx => h x (List.mem_cons_of_mem _ hx)]
theorem map_chars {l : List UInt8} (h : allDig l = true) : l.map (fun c => UInt8.ofNat (48 + digN c)) = l := by
  induction l with
  | nil => rfl
  | cons c r ih =>
    unfold allDig at h
    rw [List.all_cons, Bool.and_eq_true, Bool.and_eq_true] at h
    rw [List.map_cons, char_digN (by simpa using h.1.1) (by simpa using h.1.2), ih h.2]
/-- The characters of digits. -/
def chs (ds : List Nat) : List UInt8 := ds.reverse.map fun d => UInt8.ofNat (48 + d)
theorem chs_len (ds : List Nat) : (chs ds).length = ds.length := by simp [chs]
theorem chs_digs {ds : List Nat} (h : ∀ d ∈ ds, d < 10) : digsOf (chs ds) = ds := by
  unfold digsOf chs
  rw [← List.map_reverse, List.reverse_reverse, List.map_map]
  exact map_digs h
theorem chs_allDig {ds : List Nat} (h : ∀ d ∈ ds, d < 10) : allDig (chs ds) = true := by
  unfold allDig chs
  rw [List.all_eq_true]
  intro c hc
  obtain ⟨d, hd, rfl⟩ := List.mem_map.1 hc
  have := digN_char (h d (List.mem_reverse.1 hd))
  rw [Bool.and_eq_true, decide_eq_true_eq, decide_eq_true_eq]
  exact this.2
theorem chs_head {ds : List Nat} (hne : ds ≠ []) : (chs ds).head? = some (UInt8.ofNat (48 + ds.getLast hne)) := by
  unfold chs
  rw [List.head?_map, List.head?_reverse, List.getLast?_eq_some_getLast hne]
  rfl
theorem read_text (z : Int) : readOk (zText z) = true ∧ readZ (zText z) = z := by
  have hdig := toD_lt (b := 10) (by decide) z.natAbs
  have hval := valD_toD (b := 10) (by decide) z.natAbs
  by_cases h0 : z = 0
  · subst h0
    have e : zText 0 = [48] := by unfold zText numText; rw [Int.natAbs_zero, toD_zero]; rfl
    rw [e]
    decide
  · have hn0 : toD 10 z.natAbs ≠ [] := fun h => h0 (by have := (toD_nil_iff (b := 10) (by decide)).1 h; omega)
    have hlast := toD_last (b := 10) (by decide) z.natAbs hn0
    have hlast9 := hdig _ (List.getLast_mem hn0)
    have hhead := chs_head hn0
    have hall := chs_allDig hdig
    have hdd := chs_digs hdig
    have hlen := chs_len (toD 10 z.natAbs)
    have hpos : 0 < (toD 10 z.natAbs).length := List.length_pos_iff.2 hn0
    have et : zText z = signText (decide (z < 0)) ++ chs (toD 10 z.natAbs) := by unfold zText numText; rw [if_neg hn0]; rfl
    obtain ⟨cs, hcs⟩ : ∃ cs, chs (toD 10 z.natAbs) = cs := ⟨_, rfl⟩
    rw [hcs] at hhead hall hdd hlen et
    obtain ⟨L, hL⟩ : ∃ L, (toD 10 z.natAbs).getLast hn0 = L := ⟨_, rfl⟩
    rw [hL] at hhead hlast hlast9
    have hc48 : UInt8.ofNat (48 + L) ≠ 48 := by
      intro h
      have := (digN_char hlast9).1
      rw [h] at this
      exact hlast this.symm
    have hc45 : UInt8.ofNat (48 + L) ≠ 45 := by
      intro h
      have := (digN_char hlast9).2.1
      rw [h] at this
      exact absurd this (by decide)
    have hcne : cs ≠ [] := by intro h; rw [h] at hhead; cases hhead
    have hc0 : (cs == [48]) = false := by
      cases h : cs == [48] with
      | false => rfl
      | true =>
        have h2 := eq_of_beq h
        rw [h2] at hhead
        injection hhead with h3
        exact absurd h3.symm hc48
    have hok : digitsOk cs = true := by
      unfold digitsOk
      rw [hall]
      cases cs with
      | nil => exact absurd rfl hcne
      | cons a b => rfl
    have hh48 : (cs.head? == some 48) = false := by
      rw [hhead]
      exact beq_eq_false_iff_ne.2 (fun h => hc48 (Option.some.inj h))
    by_cases hz : z < 0
    · have et2 : zText z = 45 :: cs := by rw [et, decide_eq_true hz]; rfl
      have hl1 : 1 < (45 :: cs : List UInt8).length := by rw [List.length_cons]; omega
      have hb : readBody (45 :: cs) = cs := by unfold readBody; rw [if_pos ⟨hl1, rfl⟩]; rfl
      have hng : readNeg (45 :: cs) = true := by unfold readNeg; rw [decide_eq_true hl1]; rfl
      have hr : readOk (45 :: cs) = true := by unfold readOk; rw [hb, hok, hh48, hc0]; simp
      have hs : readSign (45 :: cs) = true := by unfold readSign; rw [hr, hng]; rfl
      rw [et2]
      refine ⟨hr, ?_⟩
      unfold readZ
      rw [hs, if_pos rfl, hb, hdd, hval]
      omega
    · have et2 : zText z = cs := by rw [et, decide_eq_false hz]; rfl
      have hh45 : cs.head? ≠ some 45 := by rw [hhead]; intro h; exact hc45 (Option.some.inj h)
      have hb : readBody cs = cs := by unfold readBody; rw [if_neg (fun h => hh45 h.2)]
      have hng : readNeg cs = false := by
        unfold readNeg
        rw [beq_eq_false_iff_ne.2 hh45, Bool.and_false]
      have hr : readOk cs = true := by unfold readOk; rw [hb, hok, hh48, hc0]; simp
      have hs : readSign cs = false := by unfold readSign; rw [hng, Bool.and_false]
      rw [et2]
      refine ⟨hr, ?_⟩
      unfold readZ
      rw [hs, if_neg (by decide), hb, hdd, hval]
      omega
theorem text_read {l : List UInt8} (h : readOk l = true) : zText (readZ l) = l := by
  obtain ⟨hs, hd⟩ := read_num h
  have h2 := h
  unfold readOk at h2
  rw [Bool.and_eq_true, Bool.and_eq_true] at h2
  obtain ⟨⟨h3, h4⟩, h5⟩ := h2
  unfold digitsOk at h3
  rw [Bool.and_eq_true] at h3
  obtain ⟨h6, h7⟩ := h3
  have hsn : readSign l = readNeg l := by unfold readSign; rw [h]; rfl
  have hbody : l = signText (readNeg l) ++ readBody l := by
    unfold readNeg readBody
    by_cases hc : 1 < l.length ∧ l.head? = some 45
    · rw [if_pos hc, decide_eq_true hc.1, hc.2]
      cases l with
      | nil => exact absurd hc.1 (by simp)
      | cons a b =>
        have h1 := hc.2
        injection h1 with h1
        subst h1
        rfl
    · rw [if_neg hc]
      have : (decide (1 < l.length) && (l.head? == some 45)) = false := by
        cases hx : decide (1 < l.length) && (l.head? == some 45) with
        | false => rfl
        | true =>
          rw [Bool.and_eq_true, decide_eq_true_eq, beq_iff_eq] at hx
          exact absurd hx hc
      rw [this]
      rfl
  have hds : readDs l = trimN (digsOf (readBody l)) := by unfold readDs digitsRes; rw [if_pos h, if_pos h6]
  unfold zText
  rw [← hs, hsn, ← hd, hds]
  obtain ⟨B, hB⟩ : ∃ B, readBody l = B := ⟨_, rfl⟩
  obtain ⟨ng, hng⟩ : ∃ ng, readNeg l = ng := ⟨_, rfl⟩
  rw [hB] at h4 h5 h6 h7 hbody ⊢
  rw [hng] at h5 hbody ⊢
  by_cases h48 : B = [48]
  · subst h48
    have hn : ng = false := by cases ng <;> simp at h5 ⊢
    subst hn
    rw [hbody]
    have e : trimN (digsOf [48]) = [] := by decide
    rw [e]
    rfl
  · have hh : B.head? ≠ some 48 := by
      intro hh
      cases B with
      | nil => cases hh
      | cons a b =>
        injection hh with hh
        subst hh
        cases b with
        | nil => exact h48 rfl
        | cons x y => simp at h4
    have hne : B ≠ [] := by intro e; rw [e] at h7; cases h7
    have hdn : digsOf B ≠ [] := by
      intro e
      apply hne
      unfold digsOf at e
      simpa using e
    have hl0 : (digsOf B).getLast hdn ≠ 0 := by
      intro h0
      have e1 : (digsOf B).getLast? = some 0 := by rw [List.getLast?_eq_some_getLast hdn, h0]
      unfold digsOf at e1
      rw [List.getLast?_map, List.getLast?_reverse] at e1
      cases B with
      | nil => exact hne rfl
      | cons a b =>
        have e2 : digN a = 0 := by simpa using e1
        unfold allDig at h6
        rw [List.all_cons, Bool.and_eq_true, Bool.and_eq_true] at h6
        have a1 : (48 : UInt8) ≤ a := by simpa using h6.1.1
        rw [UInt8.le_iff_toNat_le] at a1
        have a1 : 48 ≤ a.toNat := a1
        unfold digN at e2
        exact hh (by rw [List.head?_cons]; congr 1; exact UInt8.toNat_inj.1 (show a.toNat = 48 by omega))
    have et : trimN (digsOf B) = digsOf B := by
      obtain ⟨q, x, hq⟩ : ∃ q x, digsOf B = q ++ [x] := ⟨_, _, (List.dropLast_concat_getLast hdn).symm⟩
      have hx : x ≠ 0 := by
        have := hl0
        simpa [hq] using this
      rw [hq, trimN_snoc, if_neg hx]
    rw [et]
    unfold numText
    rw [if_neg hdn, hbody]
    congr 1
    unfold digsOf
    rw [← List.map_reverse, List.reverse_reverse, List.map_map]
    exact map_chars h6
theorem text_len {z : Int} {k : Nat} (h : z.natAbs < 10 ^ k) : (zText z).length ≤ k + 1 := by
  unfold zText numText
  split
  · simp
  · rw [List.length_append, List.length_map, List.length_reverse]
    have := toD_length_le (b := 10) (by decide) k z.natAbs h
    have : (signText (decide (z < 0))).length ≤ 1 := by unfold signText; split <;> simp
    omega
theorem text_ne (z : Int) : zText z ≠ [] := by
  intro h
  have := (read_text z).1
  rw [h] at this
  cases this
theorem text_inj {x y : Int} (h : zText x = zText y) : x = y := by
  have := (read_text x).2
  rw [h, (read_text y).2] at this
  exact this.symm
end Go.Proofs.YtapfolgiafnllaaGreatDoor
