/-
  A number's text is read as that number, and what is read is the number's text: plain laws.
-/
import Derived.Test.YtiohlcfdoleooaaGreatDoorSpecCmp2Z
import Derived.Test.YtiohlcfdoleooaaGreatDoorBn04Z
namespace Go.Proofs.YtiohlcfdoleooaaGreatDoor

theorem digN_char {d : Nat} (h : d < 10) : digN (UInt8.ofNat (48 + d)) = d ∧ 48 ≤ UInt8.ofNat (48 + d) ∧ UInt8.ofNat (48 + d) ≤ 57 := by
  have e : (UInt8.ofNat (48 + d)).toNat = 48 + d := by
    rw [UInt8.toNat_ofNat']
    exact Nat.mod_eq_of_lt (by omega)
  refine ⟨by unfold digN; rw [e]; omega, ?_, ?_⟩
  · rw [UInt8.le_iff_toNat_le, e]; show 48 ≤ 48 + d; omega
  · rw [UInt8.le_iff_toNat_le, e]; show 48 + d ≤ 57; omega
theorem char_digN {c : UInt8} (h1 : 48 ≤ c) (_h2 : c ≤ 57) : UInt8.ofNat (48 + digN c) = c := by
  rw [UInt8.le_iff_toNat_le] at h1
  have h1 : 48 ≤ c.toNat := h1
  unfold digN
  rw [show 48 + (c.toNat - 48) = c.toNat by omega]
  exact UInt8.ofNat_toNat
theorem map_digs {ds : List Nat} (h : ∀ d ∈ ds, d < 10) : ds.map (fun d => digN (UInt8.ofNat (48 + d))) = ds := by
  induction ds with
  | nil => rfl
  | cons d r ih =>
    rw [List.map_cons, (digN_char (h d (by simp))).1, ih fun x hx => h x (List.mem_cons_of_mem _ hx)]
theorem map_chars {l : List UInt8} (h : allDig l = true) : l.map (fun c => UInt8.ofNat (48 + digN c)) = l := by
  induction l with
  | nil => rfl
  | cons c r ih =>
    unfold allDig at h
    rw [List.all_cons, Bool.and_eq_true, Bool.and_eq_true] at h
    rw [List.map_cons, char_digN (by simpa using h.1.1) (by simpa using h.1.2), ih h.2]
/-- The characters of digits. -/
def chs (ds : List Nat) : List UInt8 := ds.reverse.map fun d => UInt8.ofNat (48 + d)
theorem chs_len (ds : List Nat) : (chs ds).length = ds.length := by simp [chs]
theorem chs_digs {ds : List Nat} (h : ∀ d ∈ ds, d < 10) : digsOf (chs ds) = ds := by
  unfold digsOf chs
  rw [← List.map_reverse, List.reverse_reverse, List.map_map]
  exact map_digs h
theorem chs_allDig {ds : List Nat} (h : ∀ d ∈ ds, d < 10) : allDig (chs ds) = true := by
  unfold allDig chs
  rw [List.all_eq_true]
  intro c hc
  obtain ⟨d, hd, rfl⟩ := List.mem_map.1 hc
  have := digN_char (h d (List.mem_reverse.1 hd))
  rw [Bool.and_eq_true, decide_eq_true_eq, decide_eq_true_eq]
  exact this.2
theorem chs_head {ds : List Nat} (hne : ds ≠ []) : (chs ds).head? = some (UInt8.ofNat (48 + ds.getLast hne)) := by
  unfold chs
  rw [List.head?_map, List.head?_reverse, List.getLast?_eq_some_getLast hne]
  rfl
theorem read_text (z : Int) : readOk (zText z) = true ∧ readZ (zText z) = z := by
  have hdig := toD_lt (b := 10) (by decide) z.natAbs
  have hval := valD_toD (b := 10) (by decide) z.natAbs
  by_cases h0 : z = 0
  · subst h0
    have e : zText 0 = [48] := by unfold zText numText; rw [Int.natAbs_zero, toD_zero]; rfl
    rw [e]
    decide
  · have hn0 : toD 10 z.natAbs ≠ [] := fun h => h0 (by have := (toD_nil_iff (b := 10) (by decide)).1 h; omega)
    have hlast := toD_last (b := 10) (by decide) z.natAbs hn0
    have hlast9 := hdig _ (List.getLast_mem hn0)
    have hhead := chs_head hn0
    have hall := chs_allDig hdig
    have hdd := chs_digs hdig
    have hlen := chs_len (toD 10 z.natAbs)
    have hpos : 0 < (toD 10 z.natAbs).length := List.length_pos_iff.2 hn0
    have et : zText z = signText (decide (z < 0)) ++ chs (toD 10 z.natAbs) := by unfold zText numText; rw [if_neg hn0]; rfl
    obtain ⟨cs, hcs⟩ : ∃ cs, chs (toD 10 z.natAbs) = cs := ⟨_, rfl⟩
    rw [hcs] at hhead hall hdd hlen et
    obtain ⟨L, hL⟩ : ∃ L, (toD 10 z.natAbs).getLast hn0 = L := ⟨_, rfl⟩
    rw [hL] at hhead hlast hlast9
    have hc48 : UInt8.ofNat (48 + L) ≠ 48 := by
      intro h
      have := (digN_char hlast9).1
      rw [h] at this
      exact hlast this.symm
    have hc45 : UInt8.ofNat (48 + L) ≠ 45 := by
      intro h
      have := (digN_char hlast9).2.1
      rw [h] at this
      exact absurd this (by decide)
    have hcne : cs ≠ [] := by intro h; rw [h] at hhead; cases hhead
    have hc0 : (cs == [48]) = false := by
      cases h : cs == [48] with
      | false => rfl
      | true =>
        have h2 := eq_of_beq h
        rw [h2] at hhead
        injection hhead with h3
        exact absurd h3.symm hc48
    have hok : digitsOk cs = true := by
      unfold digitsOk
      rw [hall]
      cases cs with
      | nil => exact absurd rfl hcne
      | cons a b => rfl
    have hh48 : (cs.head? == some 48) = false := by
      rw [hhead]
      exact beq_eq_false_iff_ne.2 (fun h => hc48 (Option.some.inj h))
    by_cases hz : z < 0
    · have et2 : zText z = 45 :: cs := by rw [et, decide_eq_true hz]; rfl
      have hl1 : 1 < (45 :: cs : List UInt8).length := by rw [List.length_cons]; omega
      have hb : readBody (45 :: cs) = cs := by unfold readBody; rw [if_pos ⟨hl1, rfl⟩]; rfl
      have hng : readNeg (45 :: cs) = true := by unfold readNeg; rw [decide_eq_true hl1]; rfl
      have hr : readOk (45 :: cs) = true := by unfold readOk; rw [hb, hok, hh48, hc0]; simp
      have hs : readSign (45 :: cs) = true := by unfold readSign; rw [hr, hng]; rfl
      rw [et2]
      refine ⟨hr, ?_⟩
      unfold readZ
      rw [hs, if_pos rfl, hb, hdd, hval]
      omega
    · have et2 : zText z = cs := by rw [et, decide_eq_false hz]; rfl
      have hh45 : cs.head? ≠ some 45 := by rw [hhead]; intro h; exact hc45 (Option.some.inj h)
      have hb : readBody cs = cs := by unfold readBody; rw [if_neg (fun h => hh45 h.2)]
      have hng : readNeg cs = false := by
        unfold readNeg
        rw [beq_eq_false_iff_ne.2 hh45, Bool.and_false]
      have hr : readOk cs = true := by unfold readOk; rw [hb, hok, hh48, hc0]; simp
      have hs : readSign cs = false := by unfold readSign; rw [hng, Bool.and_false]
      rw [et2]
      refine ⟨hr, ?_⟩
      unfold readZ
      rw [hs, if_neg (by decide), hb, hdd, hval]
      omega
theorem text_read {l : List UInt8} (h : readOk l = true) : zText (readZ l) = l := by
  obtain ⟨hs, hd⟩ := read_num h
  have h2 := h
  unfold readOk at h2
  rw [Bool.and_eq_true, Bool.and_eq_true] at h2
  obtain ⟨⟨h3, h4⟩, h5⟩ := h2
  unfold digitsOk at h3
  rw [Bool.and_eq_true] at h3
  obtain ⟨h6, h7⟩ := h3
  have hsn : readSign l = readNeg l := by unfold readSign; rw [h]; rfl
  have hbody : l = signText (readNeg l) ++ readBody l := by
    unfold readNeg readBody
    by_cases hc : 1 < l.length ∧ l.head? = some 45
    · rw [if_pos hc, decide_eq_true hc.1, hc.2]
      cases l with
      | nil => exact absurd hc.1 (by simp)
      | cons a b =>
        have h1 := hc.2
        injection h1 with h1
        subst h1
        rfl
    · rw [if_neg hc]
      have : (decide (1 < l.length) && (l.head? == some 45)) = false := by
        cases hx : decide (1 < l.length) && (l.head? == some 45) with
        | false => rfl
        | true =>
          rw [Bool.and_eq_true, decide_eq_true_eq, beq_iff_eq] at hx
          exact absurd hx hc
      rw [this]
      rfl
  have hds : readDs l = trimN (digsOf (readBody l)) := by unfold readDs digitsRes; rw [if_pos h, if_pos h6]
  unfold zText
  rw [← hs, hsn, ← hd, hds]
  obtain ⟨B, hB⟩ : ∃ B, readBody l = B := ⟨_, rfl⟩
  obtain ⟨ng, hng⟩ : ∃ ng, readNeg l = ng := ⟨_, rfl⟩
  rw [hB] at h4 h5 h6 h7 hbody ⊢
  rw [hng] at h5 hbody ⊢
  by_cases h48 : B = [48]
  · subst h48
    have hn : ng = false := by cases ng <;> simp at h5 ⊢
    subst hn
    rw [hbody]
    have e : trimN (digsOf [48]) = [] := by decide
    rw [e]
    rfl
  · have hh : B.head? ≠ some 48 := by
      intro hh
      cases B with
      | nil => cases hh
      | cons a b =>
        injection hh with hh
        subst hh
        cases b with
        | nil => exact h48 rfl
        | cons x y => simp at h4
    have hne : B ≠ [] := by intro e; rw [e] at h7; cases h7
    have hdn : digsOf B ≠ [] := by
      intro e
      apply hne
      unfold digsOf at e
      simpa using e
    have hl0 : (digsOf B).getLast hdn ≠ 0 := by
      intro h0
      have e1 : (digsOf B).getLast? = some 0 := by rw [List.getLast?_eq_some_getLast hdn, h0]
      unfold digsOf at e1
      rw [List.getLast?_map, List.getLast?_reverse] at e1
      cases B with
      | nil => exact hne rfl
      | cons a b =>
        have e2 : digN a = 0 := by simpa using e1
        unfold allDig at h6
        rw [List.all_cons, Bool.and_eq_true, Bool.and_eq_true] at h6
        have a1 : (48 : UInt8) ≤ a := by simpa using h6.1.1
        rw [UInt8.le_iff_toNat_le] at a1
        have a1 : 48 ≤ a.toNat := a1
        unfold digN at e2
        exact hh (by rw [List.head?_cons]; congr 1; exact UInt8.toNat_inj.1 (show a.toNat = 48 by omega))
    have et : trimN (digsOf B) = digsOf B := by
      obtain ⟨q, x, hq⟩ : ∃ q x, digsOf B = q ++ [x] := ⟨_, _, (List.dropLast_concat_getLast hdn).symm⟩
      have hx : x ≠ 0 := by
        have := hl0
        simpa [hq] using this
      rw [hq, trimN_snoc, if_neg hx]
    rw [et]
    unfold numText
    rw [if_neg hdn, hbody]
    congr 1
    unfold digsOf
    rw [← List.map_reverse, List.reverse_reverse, List.map_map]
    exact map_chars h6
theorem text_len {z : Int} {k : Nat} (h : z.natAbs < 10 ^ k) : (zText z).length ≤ k + 1 := by
  unfold zText numText
  split
  · simp
  · rw [List.length_append, List.length_map, List.length_reverse]
    have := toD_length_le (b := 10) (by decide) k z.natAbs h
    have : (signText (decide (z < 0))).length ≤ 1 := by unfold signText; split <;> simp
    omega
theorem text_ne (z : Int) : zText z ≠ [] := by
  intro h
  have := (read_text z).1
  rw [h] at this
  cases this
theorem text_inj {x y : Int} (h : zText x = zText y) : x = y := by
  have := (read_text x).2
  rw [h, (read_text y).2] at this
  exact this.symm
end Go.Proofs.YtiohlcfdoleooaaGreatDoor
