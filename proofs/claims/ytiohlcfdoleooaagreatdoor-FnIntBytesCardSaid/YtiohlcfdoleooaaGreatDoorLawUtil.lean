/-
  Small facts for the laws.
-/
import Derived.Test.YtiohlcfdoleooaaGreatDoorSpecUint
import Derived.Test.YtiohlcfdoleooaaGreatDoorSpecSub
import Derived.Test.YtiohlcfdoleooaaGreatDoorTold
import Derived.Test.YtiohlcfdoleooaaGreatDoorIntNew
namespace Go.Proofs.YtiohlcfdoleooaaGreatDoor
open Go.RowKit

/-- What a text that spec.Int takes is. -/
theorem intOk_is {l : List UInt8} (h : intOk l = true) : readOk l = true ∧ l.length ≤ 1000 ∧ overI (readZ l) = false ∧ (toD 10 (readZ l).natAbs).length ≤ 100 := by
  unfold intOk at h
  simp only [Bool.and_eq_true, decide_eq_true_eq] at h
  obtain ⟨h1, h2, h3⟩ := h
  refine ⟨h2, by omega, ?_, toD_length_le (by decide) 100 _ (Nat.lt_of_lt_of_le h3 (by decide))⟩
  unfold overI
  exact decide_eq_false (by have := (natLen_lt_iff (readZ l).natAbs 256).2 h3; omega)
theorem overI_of_U {z : Int} (h : overU z = false) : overI z = false := by
  unfold overU at h
  rw [Bool.or_eq_false_iff] at h
  exact h.2
/-- What a text that spec.Uint takes is. -/
theorem uintOk_is {l : List UInt8} (h : uintOk l = true) : readOk l = true ∧ l.length ≤ 1000 ∧ overU (readZ l) = false ∧ (toD 10 (readZ l).natAbs).length ≤ 100 := by
  unfold uintOk at h
  simp only [Bool.and_eq_true] at h
  obtain ⟨h1, h4⟩ := h
  obtain ⟨a, b, c, d⟩ := intOk_is h1
  refine ⟨a, b, ?_, d⟩
  unfold overU
  unfold overI at c
  rw [c, Bool.or_false]
  simpa using h4
theorem digN_back {c : UInt8} (h : (48 ≤ c && c ≤ 57) = true) : UInt8.ofNat (48 + digN c) = c := by
  rw [Bool.and_eq_true, decide_eq_true_eq, decide_eq_true_eq, UInt8.le_iff_toNat_le, UInt8.le_iff_toNat_le] at h
  have h48 : (48 : UInt8).toNat = 48 := rfl
  unfold digN
  have : 48 + (c.toNat - 48) = c.toNat := by omega
  rw [this]
  simp
theorem map_back {l : List UInt8} (h : allDig l = true) : (l.map digN).map (fun d => UInt8.ofNat (48 + d)) = l := by
  rw [List.map_map]
  conv => rhs; rw [← List.map_id l]
  apply List.map_congr_left
  intro x hx
  unfold allDig at h
  rw [List.all_eq_true] at h
  exact digN_back (h x hx)
/-- A number's text is the one that was read. -/
theorem read_back {l : List UInt8} (h : readOk l = true) : zText (readZ l) = l := by
  obtain ⟨g1, g2⟩ := read_num h
  obtain ⟨c, t, rfl, _, hneg, hbody, hdig, hlen⟩ := read_scan h
  have hsg := read_sign h
  have hok := h
  unfold readOk at hok
  simp only [Bool.and_eq_true, Bool.not_eq_true', Bool.and_eq_false_iff] at hok
  obtain ⟨⟨_, k2⟩, k3⟩ := hok
  have e : zText (readZ (c :: t)) = numText (readSign (c :: t)) (readDs (c :: t)) := by unfold zText; rw [g1, g2]
  rw [e, hsg]
  unfold readDs
  rw [if_pos h]
  obtain ⟨b, r, hb⟩ : ∃ b r, readBody (c :: t) = b :: r := by
    cases hv : readBody (c :: t) with
    | nil =>
      rw [hv] at hbody
      have := congrArg List.length hbody
      simp at this
      split at this <;> simp at * <;> omega
    | cons b r => exact ⟨b, r, rfl⟩
  have hcat : c :: t = signText (readNeg (c :: t)) ++ readBody (c :: t) := by
    rw [hneg, hbody]
    unfold signText
    by_cases h45 : c = 45
    · subst h45; rfl
    · rw [if_neg (by simpa using h45), if_neg h45]; rfl
  unfold digitsRes
  rw [if_pos hdig]
  rw [hb] at k2 k3 hdig hcat ⊢
  by_cases h0 : b :: r = [48]
  · have hn : readNeg (c :: t) = false := by
      rcases k3 with k3 | k3
      · exact k3
      · rw [h0] at k3; exact absurd k3 (by decide)
    rw [hn] at hcat ⊢
    rw [h0] at hcat ⊢
    have e : trimN (digsOf [48]) = [] := by decide
    rw [e, hcat]
    rfl
  · have hbc : b ≠ 48 := by
      intro e
      subst e
      rcases k2 with k2 | k2
      · have hr : r = [] := by
          have := of_decide_eq_false k2
          simp at this
          exact this
        subst hr
        exact h0 rfl
      · simp at k2
    have hds : digsOf (b :: r) = digsOf r ++ [digN b] := by simp [digsOf]
    have hcd : digN b ≠ 0 := by
      have hx : (48 ≤ b && b ≤ 57) = true := by
        unfold allDig at hdig
        rw [List.all_eq_true] at hdig
        exact hdig b (by simp)
      rw [Bool.and_eq_true, decide_eq_true_eq, decide_eq_true_eq, UInt8.le_iff_toNat_le, UInt8.le_iff_toNat_le] at hx
      have h48 : (48 : UInt8).toNat = 48 := rfl
      have : b.toNat ≠ 48 := fun e => hbc (UInt8.toNat_inj.1 e)
      unfold digN
      omega
    have htr : trimN (digsOf (b :: r)) = digsOf (b :: r) := by rw [hds, trimN_snoc, if_neg hcd]
    rw [htr]
    unfold numText
    rw [if_neg (by rw [hds]; simp)]
    have hm : (digsOf (b :: r)).reverse.map (fun d => UInt8.ofNat (48 + d)) = b :: r := by
      unfold digsOf
      rw [← List.map_reverse, List.reverse_reverse]
      exact map_back hdig
    rw [hm, ← hcat]
theorem textZ_walk (v : Value) (z : Int) (w : World) (hv : IsNum w v z) (hl : (toD 10 z.natAbs).length ≤ 1000000) :
    Calls Tryz.prog 20 #[v] w fun e w' => e = .returned (.string (S (zText z))) ∧ Below w.heap.size w w' :=
  text_walk v (decide (z < 0)) (toD 10 z.natAbs) w hv (toD_lt (by decide) _) hl
end Go.Proofs.YtiohlcfdoleooaaGreatDoor
