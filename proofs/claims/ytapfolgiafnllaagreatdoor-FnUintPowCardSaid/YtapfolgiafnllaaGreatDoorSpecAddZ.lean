/-
  Sums and differences of digits: the plain laws.
  The reference's plus, less, Minus, Add, Sub.
-/
import Derived.Test.YtapfolgiafnllaaGreatDoorBn22Z
namespace Go.Proofs.YtapfolgiafnllaaGreatDoor
open Go.RowKit

/-- The i-th digit, 0 behind the last one. -/
def digAt (ds : List Nat) (i : Nat) : Nat := ds.getD i 0
theorem digAt_lt {ds : List Nat} {i : Nat} (h : i < ds.length) : digAt ds i = ds[i] := by simp [digAt, List.getD_eq_getElem?_getD, List.getElem?_eq_getElem h]
theorem digAt_ge {ds : List Nat} {i : Nat} (h : ds.length ≤ i) : digAt ds i = 0 := by simp [digAt, List.getD_eq_getElem?_getD, List.getElem?_eq_none h]
theorem valD_dropAt (b : Nat) (ds : List Nat) (i : Nat) : valD b (ds.drop i) = digAt ds i + b * valD b (ds.drop (i + 1)) := by
  by_cases h : i < ds.length
  · rw [List.drop_eq_getElem_cons h, digAt_lt h]; rfl
  · rw [digAt_ge (by omega), List.drop_of_length_le (by omega), List.drop_of_length_le (by omega)]; simp [valD]
theorem digAt_small {ds : List Nat} (h : ∀ d ∈ ds, d < 10) (i : Nat) : digAt ds i < 10 := by
  by_cases hi : i < ds.length
  · rw [digAt_lt hi]; exact h _ (List.getElem_mem _)
  · rw [digAt_ge (by omega)]; decide

theorem plus_step {ds es os : List Nat} {i c u v S : Nat} (hl : os.length = i) (hu : digAt ds i = u) (hv : digAt es i = v)
    (h : valD 10 os + 10 ^ i * (c + valD 10 (ds.drop i) + valD 10 (es.drop i)) = S) :
    valD 10 (os ++ [(c + u + v) % 10]) + 10 ^ (i + 1) * ((c + u + v) / 10 + valD 10 (ds.drop (i + 1)) + valD 10 (es.drop (i + 1))) = S := by
  rw [valD_dropAt 10 ds i, valD_dropAt 10 es i, hu, hv] at h
  rw [valD_append, hl, Nat.pow_succ, ← h, Nat.add_assoc]
  congr 1
  generalize valD 10 (ds.drop (i + 1)) = D
  generalize valD 10 (es.drop (i + 1)) = E
  rw [Nat.mul_assoc (10 ^ i) 10, ← Nat.mul_add (10 ^ i)]
  congr 1
  simp only [valD]
  omega
theorem plus_end {os : List Nat} {x y : Nat} (hd : ∀ o ∈ os, o < 10) (h : valD 10 os = x + y) : trimN os = toD 10 (x + y) := by rw [trimN_toD (by decide) hd, h]

theorem less_step {ds es os : List Nat} {i b u v x y b' q : Nat} (hl : os.length = i) (hu : digAt ds i = u) (hv : digAt es i = v) (hq : q + b + v = u + 10 * b')
    (h : valD 10 os + y + 10 ^ i * valD 10 (ds.drop i) = x + 10 ^ i * (b + valD 10 (es.drop i))) :
    valD 10 (os ++ [q]) + y + 10 ^ (i + 1) * valD 10 (ds.drop (i + 1)) = x + 10 ^ (i + 1) * (b' + valD 10 (es.drop (i + 1))) := by
  rw [valD_dropAt 10 ds i, valD_dropAt 10 es i, hu, hv] at h
  rw [valD_append, hl, Nat.pow_succ]
  generalize valD 10 (ds.drop (i + 1)) = D at *
  generalize valD 10 (es.drop (i + 1)) = E at *
  generalize valD 10 os = V at *
  have e0 : valD 10 [q] = q := by simp [valD]
  rw [e0]
  generalize 10 ^ i = P at *
  rw [Nat.mul_assoc P 10 D, Nat.mul_assoc P 10]
  have e1 : P * (q + b + v) = P * (u + 10 * b') := by rw [hq]
  simp only [Nat.mul_add] at h e1 ⊢
  omega
theorem less_end {ds es os : List Nat} {b x y : Nat} (hd : ∀ o ∈ os, o < 10) (_hx : x < 10 ^ os.length) (hxy : y ≤ x)
    (hds : valD 10 (ds.drop os.length) = 0) (h : valD 10 os + y + 10 ^ os.length * valD 10 (ds.drop os.length) = x + 10 ^ os.length * (b + valD 10 (es.drop os.length))) : trimN os = toD 10 (x - y) := by
  have hv := valD_lt (b := 10) (by decide) hd
  rw [hds] at h
  have h0 : b + valD 10 (es.drop os.length) = 0 := by
    refine Nat.eq_zero_of_not_pos fun hp => ?_
    have := Nat.mul_le_mul_left (10 ^ os.length) hp
    omega
  rw [h0] at h
  rw [trimN_toD (by decide) hd]
  congr 1
  omega
end Go.Proofs.YtapfolgiafnllaaGreatDoor

namespace Go.Proofs.YtapfolgiafnllaaGreatDoor
open Go.RowKit

/-- What a function of the reference hands back that makes digits. -/
def DigPost (w : World) (n : Nat) (e : Ending) (w' : World) : Prop :=
  ∃ Q q os, e = .returned (.slice Q (List.length os) q) ∧ os.length ≤ q ∧ q ≤ 9223372036854775807 ∧ Rd w' Q (u8s os) ∧ trimN os = toD 10 n ∧ Below w.heap.size w w'
def PlusRel (ds es : List Nat) (S : Nat) (w : World) (dv cv iv : Value) (wr : World) : Prop :=
  ∃ (i c : Nat) (os : List Nat), iv = .int .i64 i ∧ cv = .int .u8 c ∧ c ≤ 1 ∧ os.length = i ∧ (∀ o ∈ os, o < 10) ∧ i ≤ max ds.length es.length + 1 ∧ (max ds.length es.length < i → c = 0) ∧
    wr.ownsRow w.heap.size 5 1 dv os.length (u8s os) ∧ Below w.heap.size w wr ∧ valD 10 os + 10 ^ i * (c + valD 10 (ds.drop i) + valD 10 (es.drop i)) = S
def plusM (ds es : List Nat) (v : Value) : Nat := max ds.length es.length + 1 - natOf v
theorem plus_done {ds es os : List Nat} {i S : Nat} (hi : max ds.length es.length ≤ i) (h : valD 10 os + 10 ^ i * (0 + valD 10 (ds.drop i) + valD 10 (es.drop i)) = S) : valD 10 os = S := by
  rw [List.drop_of_length_le (by omega), List.drop_of_length_le (by omega)] at h
  simpa [valD] using h
set_option maxRecDepth 100000 in
set_option maxHeartbeats 4000000 in
theorem plus_walk (x y : Nat) (A B : Option Addr) (c0 d0 : Nat) (w : World) (_hc : (toD 10 x).length ≤ c0) (_hd : (toD 10 y).length ≤ d0) (_hcm : c0 ≤ 9223372036854775807) (_hdm : d0 ≤ 9223372036854775807)
    (hr : Rd w A (u8s (toD 10 x))) (hs : Rd w B (u8s (toD 10 y))) (hlx : (toD 10 x).length ≤ 1000) (hly : (toD 10 y).length ≤ 1000) :
    Calls Tryz.prog 57 #[.slice A (toD 10 x).length c0, .slice B (toD 10 y).length d0] w (DigPost w (x + y)) := by
  obtain ⟨i0, hi0, hz0, hz1, hz2⟩ := info_parts infoByte
  have hvx := valD_toD (b := 10) (by decide) x
  have hvy := valD_toD (b := 10) (by decide) y
  have hdx := toD_lt (b := 10) (by decide) x
  have hdy := toD_lt (b := 10) (by decide) y
  obtain ⟨ds, hds⟩ : ∃ ds, toD 10 x = ds := ⟨_, rfl⟩
  obtain ⟨es, hes⟩ : ∃ es, toD 10 y = es := ⟨_, rfl⟩
  rw [hds] at hr _hc hlx hvx hdx ⊢
  rw [hes] at hs _hd hly hvy hdy ⊢
  clear hds hes
  have HR := Lib.hid hr
  have HS := Lib.hid hs
  have HVX := Lib.hid hvx
  have HVY := Lib.hid hvy
  have HDX := Lib.hid hdx
  have HDY := Lib.hid hdy
  clear hr hs hvx hvy hdx hdy
  go_enter Tryz.func57, Tryz.ntmps57
  go_wp2_with fail
  go_loopw [5, 6, 7] (fun dv cv iv wr => PlusRel ds es (x + y) w dv cv iv wr) (fun _ _ iv _ => plusM ds es iv)
  case atStart => exact ⟨0, 0, [], rfl, rfl, by decide, rfl, by simp, by omega, fun _ => rfl, World.ownsRow_nil _ _ _ _, Below.refl _ _, by simp [valD, HVX.out, HVY.out]⟩
  case round =>
    obtain ⟨i, c, os, rfl, rfl, hc1, hol, ho9, him, hic, hown, hbw, hval⟩ := hrel
    have HOL := Lib.hid hol
    have HO9 := Lib.hid ho9
    have HV := Lib.hid hval
    have HIC := Lib.hid hic
    clear hol ho9 hval hic
    have hu9 := digAt_small HDX.out i
    have hv9 := digAt_small HDY.out i
    by_cases ha : i < ds.length
    · have ha' : (i : Int) < ds.length := by omega
      obtain ⟨a, rfl, haa⟩ := u8s_cell (HR.out.below hbw) ha
      obtain ⟨u, hu⟩ : ∃ u, ds[i] = u := ⟨_, rfl⟩
      have hdu : digAt ds i = u := by rw [digAt_lt ha, hu]
      rw [hu] at haa
      rw [hdu] at hu9
      have HU := Lib.hid hdu
      clear hu hdu
      by_cases hb : i < es.length
      · have hb' : (i : Int) < es.length := by omega
        obtain ⟨b, rfl, hbb⟩ := u8s_cell (HS.out.below hbw) hb
        obtain ⟨v, hv⟩ : ∃ v, es[i] = v := ⟨_, rfl⟩
        have hdv : digAt es i = v := by rw [digAt_lt hb, hv]
        rw [hv] at hbb
        rw [hdv] at hv9
        have HVV := Lib.hid hdv
        clear hv hdv
        go_wp2_with (at_builtin; refine wpList_append_own _ rfl _ _ 23 rfl w.heap.size 5 i0 (.int .u8 0) 1 1 Tryz.underlying23 hi0 hz0 hz1 hz2 rfl (by decide) _ _ _ rfl (hown.alloc _) ⟨wr.heap.size, 0, none⟩ 1 1 [.int .u8 (((c : Int) + u + v) % 10)] rfl rfl ?a1c1 ?a1c2 ?a1c3 ?a1c4 ?a1c5 ?_)
        try (case a1c1 => exact one_new _ _ _)
        case a1c2 => first | rfl | (intro u hu; simp at hu; subst hu; rfl)
        case a1c3 => unfold maxLen; have := HOL.out; omega
        case a1c4 => have := HOL.out; omega
        case a1c5 => have := hbw.size; simp; omega
        intro v' w2 hown' hgrow _
        have hb2 : Below w.heap.size w w2 := (hbw.alloc hbw.size _).grown hgrow (by have := hbw.size; rw [heap_size_alloc]; omega) (fun k hk => by have := (hown.lt k hk).1; omega)
        have hst := plus_step HOL.out HU.out HVV.out HV.out
        have HST := Lib.hid hst
        clear hst
        go_wp2_with fail
        refine ⟨⟨i + 1, (c + u + v) / 10, os ++ [(c + u + v) % 10], by go_num, by go_num, by omega, by rw [List.length_append, HOL.out]; rfl, ?_, by omega, fun h => by omega, ?_, hb2, HST.out⟩, by simp [plusM, natOf]; omega⟩
        · intro o ho
          rcases List.mem_append.1 ho with h | h
          · exact HO9.out o h
          · simp at h; omega
        · rw [u8s_append, List.length_append]
          exact hown'
      · have hb' : ¬ (i : Int) < es.length := by omega
        have HVV := Lib.hid (digAt_ge (show es.length ≤ i by omega))
        clear hv9
        go_wp2_with (at_builtin; refine wpList_append_own _ rfl _ _ 23 rfl w.heap.size 5 i0 (.int .u8 0) 1 1 Tryz.underlying23 hi0 hz0 hz1 hz2 rfl (by decide) _ _ _ rfl (hown.alloc _) ⟨wr.heap.size, 0, none⟩ 1 1 [.int .u8 (((c : Int) + u) % 10)] rfl rfl ?a2c1 ?a2c2 ?a2c3 ?a2c4 ?a2c5 ?_)
        try (case a2c1 => exact one_new _ _ _)
        case a2c2 => first | rfl | (intro u hu; simp at hu; subst hu; rfl)
        case a2c3 => unfold maxLen; have := HOL.out; omega
        case a2c4 => have := HOL.out; omega
        case a2c5 => have := hbw.size; simp; omega
        intro v' w2 hown' hgrow _
        have hb2 : Below w.heap.size w w2 := (hbw.alloc hbw.size _).grown hgrow (by have := hbw.size; rw [heap_size_alloc]; omega) (fun k hk => by have := (hown.lt k hk).1; omega)
        have hst := plus_step HOL.out HU.out HVV.out HV.out
        have HST := Lib.hid hst
        clear hst
        go_wp2_with fail
        refine ⟨⟨i + 1, (c + u + 0) / 10, os ++ [(c + u + 0) % 10], by go_num, by go_num, by omega, by rw [List.length_append, HOL.out]; rfl, ?_, by omega, fun h => by omega, ?_, hb2, HST.out⟩, by simp [plusM, natOf]; omega⟩
        · intro o ho
          rcases List.mem_append.1 ho with h | h
          · exact HO9.out o h
          · simp at h; omega
        · rw [u8s_append, List.length_append]
          exact hown'
    · have ha' : ¬ (i : Int) < ds.length := by omega
      have HU := Lib.hid (digAt_ge (show ds.length ≤ i by omega))
      clear hu9
      by_cases hb : i < es.length
      · have hb' : (i : Int) < es.length := by omega
        obtain ⟨b, rfl, hbb⟩ := u8s_cell (HS.out.below hbw) hb
        obtain ⟨v, hv⟩ : ∃ v, es[i] = v := ⟨_, rfl⟩
        have hdv : digAt es i = v := by rw [digAt_lt hb, hv]
        rw [hv] at hbb
        rw [hdv] at hv9
        have HVV := Lib.hid hdv
        clear hv hdv
        go_wp2_with (at_builtin; refine wpList_append_own _ rfl _ _ 23 rfl w.heap.size 5 i0 (.int .u8 0) 1 1 Tryz.underlying23 hi0 hz0 hz1 hz2 rfl (by decide) _ _ _ rfl (hown.alloc _) ⟨wr.heap.size, 0, none⟩ 1 1 [.int .u8 (((c : Int) + v) % 10)] rfl rfl ?a3c1 ?a3c2 ?a3c3 ?a3c4 ?a3c5 ?_)
        try (case a3c1 => exact one_new _ _ _)
        case a3c2 => first | rfl | (intro u hu; simp at hu; subst hu; rfl)
        case a3c3 => unfold maxLen; have := HOL.out; omega
        case a3c4 => have := HOL.out; omega
        case a3c5 => have := hbw.size; simp; omega
        intro v' w2 hown' hgrow _
        have hb2 : Below w.heap.size w w2 := (hbw.alloc hbw.size _).grown hgrow (by have := hbw.size; rw [heap_size_alloc]; omega) (fun k hk => by have := (hown.lt k hk).1; omega)
        have hst := plus_step HOL.out HU.out HVV.out HV.out
        have HST := Lib.hid hst
        clear hst
        go_wp2_with fail
        refine ⟨⟨i + 1, (c + 0 + v) / 10, os ++ [(c + 0 + v) % 10], by go_num, by go_num, by omega, by rw [List.length_append, HOL.out]; rfl, ?_, by omega, fun h => by omega, ?_, hb2, HST.out⟩, by simp [plusM, natOf]; omega⟩
        · intro o ho
          rcases List.mem_append.1 ho with h | h
          · exact HO9.out o h
          · simp at h; omega
        · rw [u8s_append, List.length_append]
          exact hown'
      · have hb' : ¬ (i : Int) < es.length := by omega
        have HVV := Lib.hid (digAt_ge (show es.length ≤ i by omega))
        clear hv9
        by_cases hc0 : c = 0
        · subst hc0
          obtain ⟨Q, q, rfl, hq1, hq2, hqr⟩ := own_rd hown (by rw [u8s_length])
          have hve := plus_done (by omega) HV.out
          have HQ := Lib.hid hqr
          have HE := Lib.hid hve
          clear hve hqr
          go_wp2_with fail
          go_ret
          exact ⟨Q, q, os, rfl, hq1, hq2, HQ.out, plus_end HO9.out HE.out, hbw⟩
        · have hc' : (0 : Int) < c := by omega
          have him2 : ¬ max ds.length es.length < i := fun h => hc0 (HIC.out h)
          go_wp2_with (at_builtin; refine wpList_append_own _ rfl _ _ 23 rfl w.heap.size 5 i0 (.int .u8 0) 1 1 Tryz.underlying23 hi0 hz0 hz1 hz2 rfl (by decide) _ _ _ rfl (hown.alloc _) ⟨wr.heap.size, 0, none⟩ 1 1 [.int .u8 (((c : Int)) % 10)] rfl rfl ?a4c1 ?a4c2 ?a4c3 ?a4c4 ?a4c5 ?_)
          try (case a4c1 => exact one_new _ _ _)
          case a4c2 => first | rfl | (intro u hu; simp at hu; subst hu; rfl)
          case a4c3 => unfold maxLen; have := HOL.out; omega
          case a4c4 => have := HOL.out; omega
          case a4c5 => have := hbw.size; simp; omega
          intro v' w2 hown' hgrow _
          have hb2 : Below w.heap.size w w2 := (hbw.alloc hbw.size _).grown hgrow (by have := hbw.size; rw [heap_size_alloc]; omega) (fun k hk => by have := (hown.lt k hk).1; omega)
          have hst := plus_step HOL.out HU.out HVV.out HV.out
          have HST := Lib.hid hst
          clear hst
          go_wp2_with fail
          refine ⟨⟨i + 1, (c + 0 + 0) / 10, os ++ [(c + 0 + 0) % 10], by go_num, by go_num, by omega, by rw [List.length_append, HOL.out]; rfl, ?_, by omega, fun h => by omega, ?_, hb2, HST.out⟩, by simp [plusM, natOf]; omega⟩
          · intro o ho
            rcases List.mem_append.1 ho with h | h
            · exact HO9.out o h
            · simp at h; omega
          · rw [u8s_append, List.length_append]
            exact hown'


/-- A slice of the digits of n, none or in a block from B on. -/
def FreshDig (B : Nat) (w : World) (v : Value) (n : Nat) : Prop :=
  (v = .slice none 0 0 ∧ n = 0) ∨ ∃ a q, v = .slice (some a) (toD 10 n).length q ∧ (toD 10 n).length ≤ q ∧ q ≤ 9223372036854775807 ∧ Rd w (some a) (u8s (toD 10 n)) ∧ B ≤ a.block
theorem own_rd2 {w : World} {base : Nat} {e : TypeId} {v : Value} {xs : List Value} {n : Nat} (h : w.ownsRow base e 1 v n xs) (hx : xs.length = n) :
    ∃ A c, v = .slice A n c ∧ n ≤ c ∧ c ≤ 9223372036854775807 ∧ Rd w A xs ∧ ((A = none ∧ c = 0 ∧ n = 0) ∨ ∃ a, A = some a ∧ base ≤ a.block) := by
  obtain ⟨A, c, e1, h1, h2, h3⟩ := own_rd h hx
  refine ⟨A, c, e1, h1, h2, h3, ?_⟩
  rcases h.2 with ⟨e2, e3⟩ | ⟨g, cap, cur, e2, hb, _⟩
  · rw [e2] at e1
    injection e1 with i1 i2 i3
    exact .inl ⟨i1.symm, i3.symm, e3⟩
  · rw [e2] at e1
    injection e1 with i1 i2 i3
    exact .inr ⟨_, i1.symm, hb⟩
def LessRel (ds es : List Nat) (x y : Nat) (w : World) (dv cv iv : Value) (wr : World) : Prop :=
  ∃ (i b : Nat) (os : List Nat), iv = .int .i64 i ∧ cv = .int .u8 b ∧ b ≤ 1 ∧ os.length = i ∧ (∀ o ∈ os, o < 10) ∧ i ≤ ds.length ∧
    wr.ownsRow w.heap.size 5 1 dv os.length (u8s os) ∧ Below w.heap.size w wr ∧ valD 10 os + y + 10 ^ i * valD 10 (ds.drop i) = x + 10 ^ i * (b + valD 10 (es.drop i))
set_option maxRecDepth 100000 in
set_option maxHeartbeats 4000000 in
theorem less_walkE (x y : Nat) (A B : Option Addr) (c0 d0 : Nat) (w : World) (hxy : y ≤ x) (_hc : (toD 10 x).length ≤ c0) (_hd : (toD 10 y).length ≤ d0) (_hcm : c0 ≤ 9223372036854775807) (_hdm : d0 ≤ 9223372036854775807)
    (hr : Rd w A (u8s (toD 10 x))) (hs : Rd w B (u8s (toD 10 y))) (hlx : (toD 10 x).length ≤ 1000) (_hly : (toD 10 y).length ≤ 1000) :
    Calls Tryz.prog 53 #[.slice A (toD 10 x).length c0, .slice B (toD 10 y).length d0] w fun e w' => ∃ v, e = .returned v ∧ FreshDig w.heap.size w' v (x - y) ∧ Below w.heap.size w w' := by
  obtain ⟨i0, hi0, hz0, hz1, hz2⟩ := info_parts infoByte
  have hvx := valD_toD (b := 10) (by decide) x
  have hvy := valD_toD (b := 10) (by decide) y
  have hdx := toD_lt (b := 10) (by decide) x
  have hdy := toD_lt (b := 10) (by decide) y
  have hpx := toD_lt_pow (b := 10) (by decide) x
  have htx := trimN_self (b := 10) (by decide) (x - y)
  obtain ⟨ds, hds⟩ : ∃ ds, toD 10 x = ds := ⟨_, rfl⟩
  obtain ⟨es, hes⟩ : ∃ es, toD 10 y = es := ⟨_, rfl⟩
  rw [hds] at hr _hc hlx hvx hdx hpx ⊢
  rw [hes] at hs _hd _hly hvy hdy ⊢
  clear hds hes
  have HR := Lib.hid hr
  have HS := Lib.hid hs
  have HVX := Lib.hid hvx
  have HVY := Lib.hid hvy
  have HDX := Lib.hid hdx
  have HDY := Lib.hid hdy
  have HPX := Lib.hid hpx
  have HTX := Lib.hid htx
  clear hr hs hvx hvy hdx hdy hpx htx
  go_enter Tryz.func53, Tryz.ntmps53
  go_wp2_with fail
  go_loopw [5, 6, 7] (fun dv cv iv wr => LessRel ds es x y w dv cv iv wr) (fun _ _ iv _ => idxOf ds.length iv)
  case atStart => exact ⟨0, 0, [], rfl, rfl, by decide, rfl, by simp, by omega, World.ownsRow_nil _ _ _ _, Below.refl _ _, by simp [valD, HVX.out, HVY.out]; omega⟩
  case round =>
    obtain ⟨i, k, os, rfl, rfl, hc1, hol, ho9, him, hown, hbw, hval⟩ := hrel
    have HOL := Lib.hid hol
    have HO9 := Lib.hid ho9
    have HV := Lib.hid hval
    clear hol ho9 hval
    have hu9 := digAt_small HDX.out i
    have hv9 := digAt_small HDY.out i
    by_cases ha : i < ds.length
    · have ha' : (i : Int) < ds.length := by omega
      obtain ⟨a, rfl, haa⟩ := u8s_cell (HR.out.below hbw) ha
      obtain ⟨u, hu⟩ : ∃ u, ds[i] = u := ⟨_, rfl⟩
      have hdu : digAt ds i = u := by rw [digAt_lt ha, hu]
      rw [hu] at haa
      rw [hdu] at hu9
      have HU := Lib.hid hdu
      clear hu hdu
      by_cases hb : i < es.length
      · have hb' : (i : Int) < es.length := by omega
        obtain ⟨b, rfl, hbb⟩ := u8s_cell (HS.out.below hbw) hb
        obtain ⟨v, hv⟩ : ∃ v, es[i] = v := ⟨_, rfl⟩
        have hdv : digAt es i = v := by rw [digAt_lt hb, hv]
        rw [hv] at hbb
        rw [hdv] at hv9
        have HVV := Lib.hid hdv
        clear hv hdv
        have hn0 : (0 : Int) ≤ 10 + (u : Int) - k - v := by omega
        obtain ⟨n, hn⟩ : ∃ n : Nat, 10 + (u : Int) - k - v = (n : Int) := ⟨(10 + (u : Int) - k - v).toNat, by omega⟩
        have hn19 : n ≤ 19 := by omega
        have HN := Lib.hid hn
        clear hn
        go_wp2_with (at_builtin; refine wpList_append_own _ rfl _ _ 23 rfl w.heap.size 5 i0 (.int .u8 0) 1 1 Tryz.underlying23 hi0 hz0 hz1 hz2 rfl (by decide) _ _ _ rfl (hown.alloc _) ⟨wr.heap.size, 0, none⟩ 1 1 [.int .u8 ((10 + (u : Int) - k - v) % 10)] rfl rfl ?a5c1 ?a5c2 ?a5c3 ?a5c4 ?a5c5 ?_)
        try (case a5c1 => exact one_new _ _ _)
        case a5c2 => first | rfl | (intro u hu; simp at hu; subst hu; rfl)
        case a5c3 => unfold maxLen; have := HOL.out; omega
        case a5c4 => have := HOL.out; omega
        case a5c5 => have := hbw.size; simp; omega
        intro v' w2 hown' hgrow _
        have hb2 : Below w.heap.size w w2 := (hbw.alloc hbw.size _).grown hgrow (by have := hbw.size; rw [heap_size_alloc]; omega) (fun k hk => by have := (hown.lt k hk).1; omega)
        have hst := less_step (q := n % 10) (b' := 1 - n / 10) HOL.out HU.out HVV.out (by have := HN.out; omega) HV.out
        have HST := Lib.hid hst
        clear hst
        go_wp2_with fail
        refine ⟨⟨i + 1, 1 - n / 10, os ++ [n % 10], by go_num, by have := HN.out; congr 1; omega, by omega, by rw [List.length_append, HOL.out]; rfl, ?_, by omega, ?_, hb2, HST.out⟩, by simp [idxOf]; omega⟩
        · intro o ho
          rcases List.mem_append.1 ho with h | h
          · exact HO9.out o h
          · simp at h; omega
        · rw [u8s_append, List.length_append]
          have e : u8s [n % 10] = [.int .u8 ((10 + (u : Int) - k - v) % 10)] := by rw [HN.out]; simp [u8s]
          rw [e]
          exact hown'
      · have hb' : ¬ (i : Int) < es.length := by omega
        have HVV := Lib.hid (digAt_ge (show es.length ≤ i by omega))
        clear hv9
        have hn0 : (0 : Int) ≤ 10 + (u : Int) - k := by omega
        obtain ⟨n, hn⟩ : ∃ n : Nat, 10 + (u : Int) - k = (n : Int) := ⟨(10 + (u : Int) - k).toNat, by omega⟩
        have hn19 : n ≤ 19 := by omega
        have HN := Lib.hid hn
        clear hn
        go_wp2_with (at_builtin; refine wpList_append_own _ rfl _ _ 23 rfl w.heap.size 5 i0 (.int .u8 0) 1 1 Tryz.underlying23 hi0 hz0 hz1 hz2 rfl (by decide) _ _ _ rfl (hown.alloc _) ⟨wr.heap.size, 0, none⟩ 1 1 [.int .u8 ((10 + (u : Int) - k) % 10)] rfl rfl ?a6c1 ?a6c2 ?a6c3 ?a6c4 ?a6c5 ?_)
        try (case a6c1 => exact one_new _ _ _)
        case a6c2 => first | rfl | (intro u hu; simp at hu; subst hu; rfl)
        case a6c3 => unfold maxLen; have := HOL.out; omega
        case a6c4 => have := HOL.out; omega
        case a6c5 => have := hbw.size; simp; omega
        intro v' w2 hown' hgrow _
        have hb2 : Below w.heap.size w w2 := (hbw.alloc hbw.size _).grown hgrow (by have := hbw.size; rw [heap_size_alloc]; omega) (fun k hk => by have := (hown.lt k hk).1; omega)
        have hst := less_step (q := n % 10) (b' := 1 - n / 10) HOL.out HU.out HVV.out (by have := HN.out; omega) HV.out
        have HST := Lib.hid hst
        clear hst
        go_wp2_with fail
        refine ⟨⟨i + 1, 1 - n / 10, os ++ [n % 10], by go_num, by have := HN.out; congr 1; omega, by omega, by rw [List.length_append, HOL.out]; rfl, ?_, by omega, ?_, hb2, HST.out⟩, by simp [idxOf]; omega⟩
        · intro o ho
          rcases List.mem_append.1 ho with h | h
          · exact HO9.out o h
          · simp at h; omega
        · rw [u8s_append, List.length_append]
          have e : u8s [n % 10] = [.int .u8 ((10 + (u : Int) - k) % 10)] := by rw [HN.out]; simp [u8s]
          rw [e]
          exact hown'
    · have ha' : ¬ (i : Int) < ds.length := by omega
      have hil : ds.length = os.length := by have := HOL.out; omega
      obtain ⟨Q, q, rfl, hq1, hq2, hqr, hqf⟩ := own_rd2 hown (by rw [u8s_length])
      have HQF := Lib.hid hqf
      have hv := HV.out
      rw [← HOL.out] at hv
      have hve : trimN os = toD 10 (x - y) := less_end HO9.out (by rw [← hil]; exact HPX.out) hxy (by rw [List.drop_of_length_le (by omega)]; rfl) hv
      have HQ := Lib.hid hqr
      have HE := Lib.hid hve
      clear hve hqr hv hil hqf
      go_wp2_with fail
      refine (trim_walk Q q os wr hq1 hq2 HQ.out).mono ?_
      rw [HE.out]
      rintro e w1 ⟨rfl, rfl⟩
      go_wp2_with fail
      go_ret
      have hrt := HQ.out.trimN
      rw [HE.out] at hrt
      have hle := trimN_length os
      rw [HE.out] at hle
      refine ⟨_, rfl, ?_, hbw⟩
      rcases HQF.out with ⟨rfl, rfl, h0⟩ | ⟨a, rfl, ha⟩
      · have h1 : toD 10 (x - y) = [] := by rw [← HE.out, List.eq_nil_of_length_eq_zero h0]; rfl
        exact .inl ⟨by rw [h1]; rfl, (toD_nil_iff (by decide)).1 h1⟩
      · exact .inr ⟨a, q, rfl, by omega, hq2, hrt, ha⟩
theorem less_walk (x y : Nat) (A B : Option Addr) (c0 d0 : Nat) (w : World) (hxy : y ≤ x) (hc : (toD 10 x).length ≤ c0) (hd : (toD 10 y).length ≤ d0) (hcm : c0 ≤ 9223372036854775807) (hdm : d0 ≤ 9223372036854775807)
    (hr : Rd w A (u8s (toD 10 x))) (hs : Rd w B (u8s (toD 10 y))) (hlx : (toD 10 x).length ≤ 1000) (hly : (toD 10 y).length ≤ 1000) :
    Calls Tryz.prog 53 #[.slice A (toD 10 x).length c0, .slice B (toD 10 y).length d0] w (DigPost w (x - y)) := by
  refine (less_walkE x y A B c0 d0 w hxy hc hd hcm hdm hr hs hlx hly).mono ?_
  rintro e w' ⟨v, rfl, h, hb⟩
  rcases h with ⟨rfl, h0⟩ | ⟨a, q, rfl, h1, h2, h3, h4⟩
  · refine ⟨none, 0, [], rfl, Nat.le_refl _, by decide, .inl rfl, by rw [h0, toD_zero]; rfl, hb⟩
  · exact ⟨some a, q, _, rfl, h1, h2, h3, trimN_self (b := 10) (by decide) (x - y), hb⟩

end Go.Proofs.YtapfolgiafnllaaGreatDoor
