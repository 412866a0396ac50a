/-
  The walk of laws.FnFormatBack.
-/
import Derived.Test.YtfbaocoeiobolaaPureBack
import Derived.Test.YtfbaocoeiobolaaSpecDec
import Derived.Deep.RegionHeld3
import Derived.Deep.RegionWith
namespace Go.Proofs.Ytfbaocoeiobolaa
open Go.RowKit
attribute [local simp] S_extract S_append

def PlainRel (l R : List UInt8) (o i : Value) : Prop := ∃ (k : Nat) (out : List UInt8), i = .int .i64 k ∧ k ≤ l.length ∧ o = .string (S out) ∧ out ++ plainL (l.drop k) = R

set_option maxRecDepth 100000 in
set_option maxHeartbeats 2000000 in
theorem plain_walk (l : List UInt8) (w : World) (hs : l.length ≤ 1000000) :
    Calls Try.prog 9 #[.string (S l)] w fun e w' => e = .returned (.string (S (plainL l))) ∧ w = w' := by
  obtain ⟨R, hR⟩ : ∃ R, plainL l = R := ⟨_, rfl⟩
  have hRl : R.length ≤ l.length := by rw [← hR]; exact List.length_filter_le _ _
  rw [hR]
  have HF := Lib.hid hR
  clear hR
  have hlit : (⟨#[]⟩ : ByteArray) = S [] := rfl
  go_enter Try.func9, Try.ntmps9
  go_wp2_with fail
  go_loop [3, 4] (fun o i => PlainRel l R o i) (fun _ i => l.length - (intOf i).toNat)
  case atStart => exact ⟨0, [], rfl, Nat.zero_le _, rfl, HF.out⟩
  case round =>
    obtain ⟨k, out, rfl, hk, rfl, hf⟩ := hrel
    have hol : out.length ≤ 1000000 := by have := congrArg List.length hf; rw [List.length_append] at this; omega
    have HG := Lib.hid hf
    clear hf
    by_cases hlt : k < l.length
    · obtain ⟨c, hc⟩ : ∃ c, l[k]'hlt = c := ⟨_, rfl⟩
      have hd : l.drop k = c :: l.drop (k + 1) := by rw [List.drop_eq_getElem_cons hlt, hc]
      have ht : (l.take (k + 1)).drop k = [c] := by
        rw [List.drop_take, hd]
        simp
      have HD := Lib.hid hd
      clear hd
      have hlt' : (k : Int) < l.length := by omega
      have hg := HG.out
      rw [HD.out] at hg
      by_cases h39 : c = 39
      · have hb : ((c.toNat : Int) != 39) = false := by rw [h39]; rfl
        have hg2 : out ++ plainL (l.drop (k + 1)) = R := by
          rw [← hg, h39]
          rfl
        have HS := Lib.hid hg2
        clear hg hg2 h39
        go_wp2_with fail
        refine ⟨⟨k + 1, out, by go_num, by omega, rfl, HS.out⟩, by simp [intOf]; omega⟩
      · have hb : ((c.toNat : Int) != 39) = true := by
          have : ¬ ((c.toNat : Int) = 39) := fun k => h39 (UInt8.toNat_inj.1 (show c.toNat = 39 by omega))
          rw [bne_iff_ne]
          exact this
        have hg2 : (out ++ [c]) ++ plainL (l.drop (k + 1)) = R := by
          rw [← hg]
          have : plainL (c :: l.drop (k + 1)) = c :: plainL (l.drop (k + 1)) := by
            unfold plainL
            rw [List.filter_cons_of_pos (by simpa using h39)]
          rw [this]
          simp
        have HS := Lib.hid hg2
        clear hg hg2 h39
        go_wp2_with fail
        refine ⟨⟨k + 1, out ++ [c], by go_num, by omega, rfl, HS.out⟩, by simp [intOf]; omega⟩
    · have hlt' : ¬ (k : Int) < l.length := by omega
      have e : R = out := by
        rw [← HG.out, List.drop_of_length_le (by omega)]
        simp [plainL]
      have HE := Lib.hid e
      clear e
      go_wp2_with fail
      go_ret
      rw [HE.out]
      exact ⟨rfl, rfl⟩

/-- What the law's last region reads lies where it lay. -/
def Kept (w : World) (g : Nat) (b : Bool) (A : Option Addr) (n c : Nat) (ds : List Nat) (w' : World) : Prop :=
  (w'.cell? ⟨g, 0, none⟩ = some (.bool b) ∧ w'.cell? ⟨g, 1, none⟩ = some (.slice A n c)) ∧ Below w.heap.size w w' ∧ Rd w' A (u8s ds) ∧ g < w'.heap.size
theorem kept_grow {w : World} {g : Nat} {b : Bool} {A : Option Addr} {n c : Nat} {ds : List Nat} {w1 w2 : World}
    (h : w1.cell? ⟨g, 0, none⟩ = some (.bool b) ∧ w1.cell? ⟨g, 1, none⟩ = some (.slice A n c) ∧ Below w.heap.size w w1 ∧ Rd w1 A (u8s ds) ∧ g < w1.heap.size) (k : Below w1.heap.size w1 w2) :
    w2.cell? ⟨g, 0, none⟩ = some (.bool b) ∧ w2.cell? ⟨g, 1, none⟩ = some (.slice A n c) ∧ Below w.heap.size w w2 ∧ Rd w2 A (u8s ds) ∧ g < w2.heap.size :=
  ⟨(k.cell (by exact h.2.2.2.2)).trans h.1, (k.cell (by exact h.2.2.2.2)).trans h.2.1, bt h.2.2.1 k, h.2.2.2.1.below k, Nat.lt_of_lt_of_le h.2.2.2.2 k.size⟩
theorem kept_drew {w : World} {g : Nat} {b : Bool} {A : Option Addr} {n c : Nat} {ds : List Nat} {w1 : World}
    (h : w1.cell? ⟨g, 0, none⟩ = some (.bool b) ∧ w1.cell? ⟨g, 1, none⟩ = some (.slice A n c) ∧ Below w.heap.size w w1 ∧ Rd w1 A (u8s ds) ∧ g < w1.heap.size) :
    w1.drew.cell? ⟨g, 0, none⟩ = some (.bool b) ∧ w1.drew.cell? ⟨g, 1, none⟩ = some (.slice A n c) ∧ Below w.heap.size w w1.drew ∧ Rd w1.drew A (u8s ds) ∧ g < w1.drew.heap.size :=
  ⟨h.1, h.2.1, h.2.2.1.drew, h.2.2.2.1, h.2.2.2.2⟩

def BackRel (r : List UInt8) (b : Value) : Prop := ∃ u : List UInt8, b = .string (S u) ∧ rtrim r = rtrim u ∧ u.length ≤ r.length

set_option maxRecDepth 100000 in
set_option maxHeartbeats 2000000 in
theorem fnFormatBack_walk (l : List UInt8) (n : Nat) (w : World) (hl : l.length ≤ 140737488355328) (hn : n < 18446744073709551616) :
    Calls Try.prog 3 #[.string (S l), .int .u64 n] w fun e w' => e = .returned (.bool true) ∧ Below w.heap.size w w' := by
  have hlit : (⟨#[]⟩ : ByteArray) = S [] := rfl
  have hlit2 : (⟨#[46]⟩ : ByteArray) = S [46] := rfl
  by_cases h0 : l.length ≤ 2147483647
  · have h0' : ¬ (2147483647 : Int) < l.length := by omega
    cases hok : readOk l with
    | false =>
      go_enter Try.func3, Try.ntmps3
      go_wp2_with fail
      refine (read_walk l _ hl).mono ?_
      rw [hok]
      rintro e w1 ⟨v, rfl, ⟨A, c, rfl, hc1, hc2, hrd⟩, hb⟩
      go_wp2_with (go_at_call 8; ((with_reducible refine (awake_walk _).mono ?_); rintro e w2 ⟨rfl, hb2⟩))
      all_goals go_ret
      all_goals exact ⟨rfl, bt (hb.alloc hb.size _) hb2⟩
    | true =>
      by_cases h90 : l.length ≤ 90
      · have h90' : decide ((90 : Int) < l.length) = false := decide_eq_false (by omega)
        obtain ⟨g, hg, hgp⟩ := fmt_read hok
        have hgl := fmt_length _ _ hg
        have hrl := read_len l
        have htx := text_read hok
        have hm : n % 1000000000000000000 < 18446744073709551616 := by omega
        obtain ⟨r, hr⟩ : ∃ r, numText false (dec10 (n % 1000000000000000000)) = r := ⟨_, rfl⟩
        have hd10 := dec10_digits _ _ (Nat.le_refl (n % 1000000000000000000))
        have hrd : allDig r = true := by rw [← hr]; exact text_digits hd10
        have hdl := dec10_length 20 (n % 1000000000000000000) (by omega)
        have hrlen : r.length ≤ 22 := by
          have := text_len false (dec10 (n % 1000000000000000000))
          rw [hr] at this
          omega
        obtain ⟨t, ht, htp, htle⟩ := dec_read hok hrd
        have hu64 : (n : Int) ≤ 18446744073709551615 := by omega
        have hcast : ((n : Int) % 1000000000000000000) = ((n % 1000000000000000000 : Nat) : Int) := by omega
        have HG := Lib.hid hg
        have HGP := Lib.hid hgp
        have HTX := Lib.hid htx
        have HT := Lib.hid ht
        have HTP := Lib.hid htp
        have HCA := Lib.hid hcast
        have HRT := Lib.hid hr
        have HD10 := Lib.hid hd10
        clear hg hgp htx ht htp hcast hr hd10
        go_enter Try.func3, Try.ntmps3
        go_wp2_with fail
        refine (read_walk l _ hl).mono ?_
        rw [hok]
        rintro e w1 ⟨v, rfl, ⟨A, c, rfl, hc1, hc2, hrdx⟩, hb⟩
        have HRX := Lib.hid hrdx
        clear hrdx
        go_wp2_with fail
        refine (implFmtInt_walk l _ (by omega)).mono ?_
        rw [HG.out]
        rintro e w2 ⟨rfl, hb2⟩
        simp only [Option.getD_some, Option.isSome_some]
        go_wp2_with fail
        rw [HCA.out]
        refine (ofUint_walk _ _ hm).mono ?_
        rintro e w3 ⟨v3, rfl, hv3, hb3⟩
        go_wp2_with fail
        refine (text_walk v3 false _ _ hv3 HD10.out (by omega)).mono ?_
        rw [HRT.out]
        rintro e w4 ⟨rfl, hb4⟩
        go_wp2_with fail
        refine (implFmtDec_walk (l ++ 46 :: r) _ (by simp; omega)).mono ?_
        rw [HT.out]
        rintro e w5 ⟨rfl, hb5⟩
        simp only [Option.getD_some, Option.isSome_some]
        have hk5 : w5.heap[w1.heap.size]? = some (.cells #[.bool (readSign l), .slice A (readDs l).length c] 25 (0, 0)) := by
          have a2 := (hb2.block w1.heap.size (by rw [heap_size_alloc]; omega)).trans (heap_here _ _)
          have a3 := (hb3.block w1.heap.size (iter_lt a2)).trans a2
          have a4 := (hb4.block w1.heap.size (iter_lt a3)).trans a3
          exact (hb5.block w1.heap.size (iter_lt a4)).trans a4
        have hbA := bt (bt (bt (bt (hb.alloc hb.size (.cells #[.bool (readSign l), .slice A (readDs l).length c] 25)) hb2) hb3) hb4) hb5
        have hrd5 : Rd w5 A (u8s (readDs l)) := by
          have a1 := HRX.out.below ((Below.refl _ _).alloc (Nat.le_refl _) (.cells #[.bool (readSign l), .slice A (readDs l).length c] 25))
          exact (((a1.below hb2).below hb3).below hb4).below hb5
        have htl : t.length ≤ 1000 := by omega
        have HK5 := Lib.hid hk5
        have HR5 := Lib.hid hrd5
        clear hk5 hrd5 HRX hb hb2 hb3 hb4 hb5 hv3
        go_wp2_with fail
        go_loop [10] (fun b => BackRel r b) (fun b => strSize b)
        case atStart => exact ⟨r, rfl, rfl, Nat.le_refl _⟩
        case round =>
          obtain ⟨u, rfl, hu, hul⟩ := hrel
          have HU := Lib.hid hu
          clear hu
          by_cases hue : u = []
          · subst hue
            have c0 := num_cell0 HK5.out
            have c1 := num_cell1 HK5.out
            have hru : rtrim r = [] := by rw [HU.out]; rfl
            have hpt := HTP.out
            rw [if_pos hru] at hpt
            have HPT := Lib.hid hpt
            clear hru hpt HU
            go_wp2_with fail
            refine (text_walk _ (readSign l) (readDs l) _ ⟨A, c, rfl, hc1, hc2, HR5.out⟩ read_digits (by omega)).mono ?_
            rw [HTX.out]
            rintro e w6 ⟨rfl, hb6⟩
            have hkept : w6.cell? ⟨w1.heap.size, 0, none⟩ = some (.bool (readSign l)) ∧ w6.cell? ⟨w1.heap.size, 1, none⟩ = some (.slice A (readDs l).length c) ∧ Below w.heap.size w w6 ∧ Rd w6 A (u8s (readDs l)) ∧ w1.heap.size < w6.heap.size :=
              kept_grow ⟨c0, c1, hbA, HR5.out, iter_lt HK5.out⟩ hb6
            go_wp2_with fail
            go_region_held3 (fun w' => w'.cell? ⟨w1.heap.size, 0, none⟩ = some (.bool (readSign l)) ∧ w'.cell? ⟨w1.heap.size, 1, none⟩ = some (.slice A (readDs l).length c) ∧ Below w.heap.size w w' ∧ Rd w' A (u8s (readDs l)) ∧ w1.heap.size < w'.heap.size)
              (first | exact kept_drew hkept | exact kept_grow (by assumption) hgr | assumption)
              (first
                | (go_at_call 8; refine (awake_walk _).mono ?_; rintro e w7 ⟨rfl, hgr⟩)
                | (go_at_call_of 9 (Value.string (S g)); refine (plain_walk g _ (by omega)).mono ?_; rw [HGP.out]; rintro e w7 ⟨rfl, rfl⟩)
                | (go_at_call_of 9 (Value.string (S t)); refine (plain_walk t _ (by omega)).mono ?_; rw [HPT.out]; rintro e w7 ⟨rfl, rfl⟩)
                | (go_at_call 12; refine (text_walk _ (readSign l) (readDs l) _ ⟨A, c, rfl, hc1, hc2, by go_split_ands; assumption⟩ read_digits (by omega)).mono ?_; rw [HTX.out]; rintro e w7 ⟨rfl, hgr⟩))
            go_wp2_with fail
            go_ret
            exact ⟨rfl, (‹_ ∧ _ ∧ Below w.heap.size w _ ∧ _›).2.2.1⟩
          · obtain ⟨q, x, rfl⟩ : ∃ q x, u = q ++ [x] := by
              rw [← List.dropLast_concat_getLast hue]
              exact ⟨_, _, rfl⟩
            have hne : (q ++ [x]).isEmpty = false := by simp
            have hlen1 : (0 : Int) ≤ (q.length : Int) + 1 - 1 := by omega
            have hul2 : q.length + 1 ≤ r.length := by simpa using hul
            have hget : ∀ h, (q ++ [x])[q.length]'h = x := fun h => by simp
            have htk : (q ++ [x]).take q.length = q := by simp
            by_cases h48 : x = 48
            · subst h48
              go_wp2_with fail
              refine ⟨⟨q, rfl, ?_, by omega⟩, by simp [strSize]⟩
              rw [HU.out, rtrim_snoc, if_pos rfl]
            · have hcb : ((x.toNat : Int) == 48) = false := by
                have : ¬ ((x.toNat : Int) = 48) := fun k => h48 (nought_of k)
                exact beq_eq_false_iff_ne.2 this
              have hrt : rtrim r = q ++ [x] := by rw [HU.out, rtrim_snoc, if_neg h48]
              have c0 := num_cell0 HK5.out
              have c1 := num_cell1 HK5.out
              have hpt := HTP.out
              rw [hrt, if_neg hue] at hpt
              have HPT := Lib.hid hpt
              clear hrt hpt HU h48
              go_wp2_with fail
              refine (text_walk _ (readSign l) (readDs l) _ ⟨A, c, rfl, hc1, hc2, HR5.out⟩ read_digits (by omega)).mono ?_
              rw [HTX.out]
              rintro e w6 ⟨rfl, hb6⟩
              have hkept : w6.cell? ⟨w1.heap.size, 0, none⟩ = some (.bool (readSign l)) ∧ w6.cell? ⟨w1.heap.size, 1, none⟩ = some (.slice A (readDs l).length c) ∧ Below w.heap.size w w6 ∧ Rd w6 A (u8s (readDs l)) ∧ w1.heap.size < w6.heap.size :=
                kept_grow ⟨c0, c1, hbA, HR5.out, iter_lt HK5.out⟩ hb6
              go_wp2_with fail
              go_region_held3 (fun w' => w'.cell? ⟨w1.heap.size, 0, none⟩ = some (.bool (readSign l)) ∧ w'.cell? ⟨w1.heap.size, 1, none⟩ = some (.slice A (readDs l).length c) ∧ Below w.heap.size w w' ∧ Rd w' A (u8s (readDs l)) ∧ w1.heap.size < w'.heap.size)
                (first | exact kept_drew hkept | exact kept_grow (by assumption) hgr | assumption)
                (first
                  | (go_at_call 8; refine (awake_walk _).mono ?_; rintro e w7 ⟨rfl, hgr⟩)
                  | (go_at_call_of 9 (Value.string (S g)); refine (plain_walk g _ (by omega)).mono ?_; rw [HGP.out]; rintro e w7 ⟨rfl, rfl⟩)
                  | (go_at_call_of 9 (Value.string (S t)); refine (plain_walk t _ (by omega)).mono ?_; rw [HPT.out]; rintro e w7 ⟨rfl, rfl⟩)
                  | (go_at_call 12; refine (text_walk _ (readSign l) (readDs l) _ ⟨A, c, rfl, hc1, hc2, by go_split_ands; assumption⟩ read_digits (by omega)).mono ?_; rw [HTX.out]; rintro e w7 ⟨rfl, hgr⟩))
              go_wp2_with fail
              go_ret
              exact ⟨rfl, (‹_ ∧ _ ∧ Below w.heap.size w _ ∧ _›).2.2.1⟩
      · have h90' : decide ((90 : Int) < l.length) = true := decide_eq_true (by omega)
        go_enter Try.func3, Try.ntmps3
        go_wp2_with fail
        refine (read_walk l _ hl).mono ?_
        rw [hok]
        rintro e w1 ⟨v, rfl, ⟨A, c, rfl, hc1, hc2, hrd⟩, hb⟩
        go_wp2_with (go_at_call 8; ((with_reducible refine (awake_walk _).mono ?_); rintro e w2 ⟨rfl, hb2⟩))
        all_goals go_ret
        all_goals exact ⟨rfl, bt (hb.alloc hb.size _) hb2⟩
  · have h0' : (2147483647 : Int) < l.length := by omega
    go_enter Try.func3, Try.ntmps3
    go_wp2_with fail
    go_ret
    exact ⟨rfl, Below.refl _ _⟩

theorem fnFormatBack_walk_int (l : List UInt8) (a : Int) (w : World) (hl : l.length ≤ 140737488355328) (ha : (Lit.int .u64 a).wf = true) :
    Calls Try.prog 3 #[.string (S l), .int .u64 a] w fun e w' => e = .returned (.bool true) ∧ Below w.heap.size w w' := by
  have h : 0 ≤ a ∧ a < 18446744073709551616 := by
    have h2 : (decide (IntKind.u64.min ≤ a) && decide (a ≤ IntKind.u64.max)) = true := ha
    rw [Bool.and_eq_true, decide_eq_true_eq, decide_eq_true_eq] at h2
    have e1 : IntKind.u64.min = 0 := by decide
    have e2 : IntKind.u64.max = 18446744073709551615 := by decide
    omega
  obtain ⟨n, rfl⟩ := Int.eq_ofNat_of_zero_le h.1
  exact fnFormatBack_walk l n w hl (by omega)
end Go.Proofs.Ytfbaocoeiobolaa
