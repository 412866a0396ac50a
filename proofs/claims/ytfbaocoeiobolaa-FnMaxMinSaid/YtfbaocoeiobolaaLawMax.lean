/-
  The walk of laws.FnMaxMin.
-/
import Derived.Test.YtfbaocoeiobolaaAwake
import Derived.RegionTactic
import Derived.ChangeAlike
namespace Go.Proofs.Ytfbaocoeiobolaa
open Go.RowKit

def fits1 (n : Nat) (ss : List (List UInt8)) : Bool := decide (n ≤ 2147483647) && ss.all fun s => decide (s.length ≤ 2147483647)

set_option maxRecDepth 100000 in
set_option maxHeartbeats 1000000 in
theorem fits1_walk (A : Option Addr) (c : Nat) (zs : List (List UInt8)) (w : World) (hn : zs.length ≤ 9223372036854775807) (hr : Rd w A (zs.map (fun x => Value.string (S x)))) :
    Calls Try.prog 16 #[.slice A zs.length c] w fun e w' => e = .returned (.bool (fits1 zs.length zs)) ∧ w = w' := by
  obtain ⟨R, hR⟩ : ∃ R, fits1 zs.length zs = R := ⟨_, rfl⟩
  rw [hR]
  have HF := Lib.hid hR
  have HR := Lib.hid hr
  clear hR hr
  by_cases h0 : zs.length ≤ 2147483647
  · have h0' : ¬ (2147483647 : Int) < zs.length := by omega
    have hall : (zs.all fun s => decide (s.length ≤ 2147483647)) = R := by
      have := HF.out
      unfold fits1 at this
      rwa [decide_eq_true h0, Bool.true_and] at this
    have HA := Lib.hid hall
    clear hall
    go_enter Try.func16, Try.ntmps16
    go_wp2_with fail
    go_loop [10] (fun i => ∃ k : Nat, i = .int .i64 k ∧ k ≤ zs.length ∧ ((zs.drop k).all fun s => decide (s.length ≤ 2147483647)) = R) (fun i => zs.length - (intOf i).toNat)
    case atStart => exact ⟨0, rfl, Nat.zero_le _, HA.out⟩
    case round =>
      obtain ⟨k, rfl, hk, hf⟩ := hrel
      have HG := Lib.hid hf
      clear hf
      by_cases hlt : k < zs.length
      · obtain ⟨v, hv⟩ : ∃ v, zs[k]'hlt = v := ⟨_, rfl⟩
        have hcell : ∃ x, A = some x ∧ w.cell? (x.add k) = some (.string (S v)) := by
          rcases HR.out with h | ⟨x, rfl, h⟩
          · have := congrArg List.length h; simp at this; subst this; simp at hlt
          · exact ⟨x, rfl, h k _ (by simp [List.getElem?_eq_getElem hlt, hv])⟩
        obtain ⟨x, rfl, hcell⟩ := hcell
        have hd : zs.drop k = v :: zs.drop (k + 1) := by rw [List.drop_eq_getElem_cons hlt, hv]
        have HD := Lib.hid hd
        clear hd hv HR
        have hlt' : (k : Int) < zs.length := by omega
        by_cases hv : v.length ≤ 2147483647
        · have hv' : ¬ (2147483647 : Int) < v.length := by omega
          go_wp2_with fail
          refine ⟨⟨k + 1, by go_num, by omega, ?_⟩, by simp [intOf]; omega⟩
          have := HG.out
          rw [HD.out] at this
          simpa [hv] using this
        · have hv' : (2147483647 : Int) < v.length := by omega
          have e : R = false := by
            have := HG.out
            rw [HD.out] at this
            simpa [hv] using this.symm
          have HE := Lib.hid e
          clear e
          go_wp2_with fail
          go_ret
          rw [HE.out]
          exact ⟨rfl, rfl⟩
      · have hlt' : ¬ (k : Int) < zs.length := by omega
        have e : R = true := by
          rw [← HG.out, List.drop_of_length_le (by omega)]
          rfl
        have HE := Lib.hid e
        clear e
        go_wp2_with fail
        go_ret
        rw [HE.out]
        exact ⟨rfl, rfl⟩
  · have h0' : (2147483647 : Int) < zs.length := by omega
    have e : R = false := by
      rw [← HF.out]
      unfold fits1
      rw [decide_eq_false h0]
      rfl
    have HE := Lib.hid e
    clear e
    go_enter Try.func16, Try.ntmps16
    go_wp2_with fail
    go_ret
    rw [HE.out]
    exact ⟨rfl, rfl⟩

theorem max_pick (ats : Array TypeId) (ty : TypeId) (k : IntKind) (x y : Int) : Builtin.max_ ats ty #[.int k x, .int k y] = (pure (.int k (pickMaxI x y)) : Sem Value) := by
  simp [Builtin.max_, Builtin.max2, pickMaxI]
theorem min_pick (ats : Array TypeId) (ty : TypeId) (k : IntKind) (x y : Int) : Builtin.min_ ats ty #[.int k x, .int k y] = (pure (.int k (pickMinI x y)) : Sem Value) := by
  simp [Builtin.min_, Builtin.min2, pickMinI]
attribute [local go_sem] max_pick min_pick

theorem less_self : ∀ a : List UInt8, Op.bytesLess a a = false
  | [] => rfl
  | c :: t => by
    unfold Op.bytesLess
    simp [less_self t]
theorem pickMaxS_self (a : List UInt8) : pickMaxS a a = a := by unfold pickMaxS; simp
theorem pickMinS_self (a : List UInt8) : pickMinS a a = a := by unfold pickMinS less; rw [less_self]; rfl
theorem foldH_head {α : Type} {f : α → α → α} {a : α} (h : f a a = a) (b : α) (l : List α) : foldH f a (a :: b :: l) = foldH f (f a b) l := by
  unfold foldH
  rw [List.foldl_cons, h, List.foldl_cons]
theorem pickMaxI_self (a : Int) : pickMaxI a a = a := by unfold pickMaxI; split <;> rfl
theorem pickMinI_self (a : Int) : pickMinI a a = a := by unfold pickMinI; split <;> rfl

theorem get_of_cells {α : Type} {enc : α → Value} {l : List α} {w : World} {x : Addr} (h : ∀ j u, (l.map enc)[j]? = some u → w.cell? (x.add j) = some u) (k : Nat) (hk : k < l.length) : w.cell? (x.add k) = some (enc (l[k]'hk)) :=
  h k _ (by simp [List.getElem?_eq_getElem hk])

theorem kept_cells {α : Type} {enc : α → Value} {l : List α} {w w' : World} {x : Addr} (hb : Below w.heap.size w w') (h : ∀ j u, (l.map enc)[j]? = some u → w.cell? (x.add j) = some u) :
    ∀ j u, (l.map enc)[j]? = some u → w'.cell? (x.add j) = some u := fun j u hu => (hb.cell (World.block_lt_of_cell? w _ (h j u hu))).trans (h j u hu)

def MaxRel1 (l : List Int) (a b : Int) (w : World) (s5 s6 i : Value) (wr : World) : Prop := ∃ (k : Nat) (p q : Int), i = .int .i64 k ∧ k ≤ l.length ∧ s5 = .int .i64 p ∧ s6 = .int .i64 q ∧ foldH pickMaxI p (l.drop k) = a ∧ foldH pickMinI q (l.drop k) = b ∧ Below w.heap.size w wr
def MaxRel2 (l : List (List UInt8)) (a b : List UInt8) (w : World) (s7 s8 i : Value) (wr : World) : Prop := ∃ (k : Nat) (p q : List UInt8), i = .int .i64 k ∧ k ≤ l.length ∧ s7 = .string (S p) ∧ s8 = .string (S q) ∧ foldH pickMaxS p (l.drop k) = a ∧ foldH pickMinS q (l.drop k) = b ∧ Below w.heap.size w wr

set_option maxRecDepth 100000 in
set_option maxHeartbeats 2000000 in
theorem maxMin_full (a b : Int) (zs : List Int) (x : Addr) (c : Nat) (s t : List UInt8) (ss : List (List UInt8)) (y : Addr) (d : Nat) (w : World)
    (hn : zs.length + 2 ≤ 20) (hc : zs.length + 2 ≤ c) (hm : c ≤ 9223372036854775807) (hr : ∀ j u, ((a :: b :: zs).map (fun x => Value.int .i64 x))[j]? = some u → w.cell? (x.add j) = some u)
    (hn2 : ss.length + 2 ≤ 20) (hc2 : ss.length + 2 ≤ d) (hm2 : d ≤ 9223372036854775807) (hr2 : ∀ j u, ((s :: t :: ss).map (fun x => Value.string (S x)))[j]? = some u → w.cell? (y.add j) = some u)
    (hfit : fits1 (ss.length + 2) (s :: t :: ss) = true) :
    Calls Try.prog 6 #[.slice (some x) (zs.length + 2) c, .slice (some y) (ss.length + 2) d] w fun e w' => e = .returned (.bool true) ∧ Below w.heap.size w w' := by
  have h0 : w.cell? x = some (.int .i64 a) := hr 0 _ rfl
  have g0 : w.cell? y = some (.string (S s)) := hr2 0 _ rfl
  have p0 : (0 : Int) < (zs.length : Int) + 2 := by omega
  have p1 : (0 : Int) < (ss.length : Int) + 2 := by omega
  have q1 : decide ((2147483647 : Int) < (zs.length : Int) + 2) = false := decide_eq_false (by omega)
  have q2 : decide ((zs.length : Int) + 2 < 2) = false := decide_eq_false (by omega)
  have q3 : decide ((20 : Int) < (zs.length : Int) + 2) = false := decide_eq_false (by omega)
  have q4 : decide ((ss.length : Int) + 2 < 2) = false := decide_eq_false (by omega)
  have q5 : decide ((20 : Int) < (ss.length : Int) + 2) = false := decide_eq_false (by omega)
  have hrd : Rd w (some y) ((s :: t :: ss).map (fun x => Value.string (S x))) := .inr ⟨y, rfl, hr2⟩
  obtain ⟨A, hA⟩ : ∃ A, foldH pickMaxI a (a :: b :: zs) = A := ⟨_, rfl⟩
  obtain ⟨B, hB⟩ : ∃ B, foldH pickMinI a (a :: b :: zs) = B := ⟨_, rfl⟩
  obtain ⟨C, hC⟩ : ∃ C, foldH pickMaxS s (s :: t :: ss) = C := ⟨_, rfl⟩
  obtain ⟨D, hD⟩ : ∃ D, foldH pickMinS s (s :: t :: ss) = D := ⟨_, rfl⟩
  have HA := Lib.hid hA
  have HB := Lib.hid hB
  have HC := Lib.hid hC
  have HD := Lib.hid hD
  have HR := Lib.hid hr
  have HR2 := Lib.hid hr2
  clear hA hB hC hD hr hr2
  have hfw : Calls Try.prog 16 #[.slice (some y) (ss.length + 2) d] w fun e w' => e = .returned (.bool true) ∧ w = w' := by
    have := fits1_walk (some y) d (s :: t :: ss) w (by simp; omega) hrd
    rw [← hfit]
    exact this
  go_enter Try.func6, Try.ntmps6
  go_wp2_with fail
  refine hfw.mono ?_
  rintro e w1 ⟨rfl, rfl⟩
  go_wp2_with fail
  go_quiet (fail)
  go_wp2_with fail
  go_loopw [5, 6, 9] (fun s5 s6 i wr => MaxRel1 (a :: b :: zs) A B w s5 s6 i wr) (fun _ _ i _ => (a :: b :: zs).length - (intOf i).toNat)
  case atStart => exact ⟨0, a, a, rfl, Nat.zero_le _, rfl, rfl, HA.out, HB.out, below_drewN (Below.refl _ _) _⟩
  case round =>
    obtain ⟨k, p, q, rfl, hk, rfl, rfl, hf, hg, hb⟩ := hrel
    by_cases hlt : k < (a :: b :: zs).length
    · obtain ⟨v, hv⟩ : ∃ v, (a :: b :: zs)[k]'hlt = v := ⟨_, rfl⟩
      have hcw := get_of_cells HR.out k hlt
      rw [hv] at hcw
      have hcell : wr.cell? (x.add k) = some (.int .i64 v) := (hb.cell (World.block_lt_of_cell? w _ hcw)).trans hcw
      have hd : (a :: b :: zs).drop k = v :: (a :: b :: zs).drop (k + 1) := by rw [List.drop_eq_getElem_cons hlt, hv]
      rw [hd] at hf hg
      have HF := Lib.hid hf
      have HG := Lib.hid hg
      have hk2 : k < zs.length + 2 := by simpa using hlt
      have hlt' : (k : Int) < (zs.length : Int) + 2 := by omega
      have hk0 : (0 : Int) ≤ (k : Int) := by omega
      clear hd hf hg hv hcw
      go_wp2_with fail
      go_quiet (fail)
      go_wp2_with fail
      refine ⟨⟨k + 1, pickMaxI p v, pickMinI q v, by go_num, hlt, rfl, rfl, HF.out, HG.out, below_drewN hb _⟩, ?_⟩
      simp [intOf]
      omega
    · have hk2 : ¬ k < zs.length + 2 := by simpa using hlt
      have hlt' : ¬ (k : Int) < (zs.length : Int) + 2 := by omega
      have hA2 : p = A := by rw [← hf, List.drop_of_length_le (by omega)]; rfl
      have hB2 : q = B := by rw [← hg, List.drop_of_length_le (by omega)]; rfl
      have HPA := Lib.hid (show foldH pickMaxI (pickMaxI a b) zs = A from by rw [← foldH_head (pickMaxI_self a)]; exact HA.out)
      have HPB := Lib.hid (show foldH pickMinI (pickMinI a b) zs = B from by rw [← foldH_head (pickMinI_self a)]; exact HB.out)
      clear hf hg HA HB
      subst hA2 hB2
      go_wp2_with fail
      generalize hw0 : wr = w0 at *
      clear hw0
      go_loopw [7, 8, 10] (fun s7 s8 i wr => MaxRel2 (s :: t :: ss) C D w s7 s8 i wr) (fun _ _ i _ => (s :: t :: ss).length - (intOf i).toNat)
      case atStart => exact ⟨0, s, s, rfl, Nat.zero_le _, rfl, rfl, HC.out, HD.out, hb⟩
      case round =>
        obtain ⟨k2, p2, q2, rfl, hk3, rfl, rfl, hf, hg, hb2⟩ := hrel
        by_cases hlt2 : k2 < (s :: t :: ss).length
        · obtain ⟨v, hv⟩ : ∃ v, (s :: t :: ss)[k2]'hlt2 = v := ⟨_, rfl⟩
          have hcw := get_of_cells HR2.out k2 hlt2
          rw [hv] at hcw
          have hcell : wr.cell? (y.add k2) = some (.string (S v)) := (hb2.cell (World.block_lt_of_cell? w _ hcw)).trans hcw
          have hd : (s :: t :: ss).drop k2 = v :: (s :: t :: ss).drop (k2 + 1) := by rw [List.drop_eq_getElem_cons hlt2, hv]
          rw [hd] at hf hg
          have hk4 : k2 < ss.length + 2 := by simpa using hlt2
          have hlt2' : (k2 : Int) < (ss.length : Int) + 2 := by omega
          have hk0 : (0 : Int) ≤ (k2 : Int) := by omega
          have HF := Lib.hid hf
          have HG := Lib.hid hg
          clear hd hf hg hv hcw
          by_cases h50 : v.length ≤ 50
          · have h50' : ¬ (50 : Int) < v.length := by omega
            obtain ⟨P2, hP2⟩ : ∃ P2, pickMaxS p2 v = P2 := ⟨_, rfl⟩
            obtain ⟨Q2, hQ2⟩ : ∃ Q2, pickMinS q2 v = Q2 := ⟨_, rfl⟩
            have HP2 := Lib.hid hP2
            have HQ2 := Lib.hid hQ2
            have hF2 : foldH pickMaxS P2 ((s :: t :: ss).drop (k2 + 1)) = C := by rw [← HP2.out]; exact HF.out
            have hG2 : foldH pickMinS Q2 ((s :: t :: ss).drop (k2 + 1)) = D := by rw [← HQ2.out]; exact HG.out
            have HF2 := Lib.hid hF2
            have HG2 := Lib.hid hG2
            clear hP2 hQ2 hF2 hG2 HF HG
            cases h1 : (Op.bytesLess v p2 || v == p2) with
            | true =>
              have e1 : P2 = p2 := by rw [← HP2.out]; unfold pickMaxS less; rw [h1]; rfl
              cases h2 : Op.bytesLess v q2 with
              | true =>
                have e2 : Q2 = v := by rw [← HQ2.out]; unfold pickMinS less; rw [h2]; rfl
                clear HP2 HQ2
                subst e1 e2
                go_wp2_with fail
                refine ⟨⟨k2 + 1, _, _, by go_num, hlt2, rfl, rfl, HF2.out, HG2.out, hb2⟩, ?_⟩
                simp [intOf]
                omega
              | false =>
                have e2 : Q2 = q2 := by rw [← HQ2.out]; unfold pickMinS less; rw [h2]; rfl
                clear HP2 HQ2
                subst e1 e2
                go_wp2_with fail
                refine ⟨⟨k2 + 1, _, _, by go_num, hlt2, rfl, rfl, HF2.out, HG2.out, hb2⟩, ?_⟩
                simp [intOf]
                omega
            | false =>
              have e1 : P2 = v := by rw [← HP2.out]; unfold pickMaxS less; rw [h1]; rfl
              simp only [Bool.or_eq_false_iff] at h1
              obtain ⟨h1a, h1b⟩ := h1
              cases h2 : Op.bytesLess v q2 with
              | true =>
                have e2 : Q2 = v := by rw [← HQ2.out]; unfold pickMinS less; rw [h2]; rfl
                clear HP2 HQ2
                subst e1 e2
                go_wp2_with fail
                refine ⟨⟨k2 + 1, _, _, by go_num, hlt2, rfl, rfl, HF2.out, HG2.out, hb2⟩, ?_⟩
                simp [intOf]
                omega
              | false =>
                have e2 : Q2 = q2 := by rw [← HQ2.out]; unfold pickMinS less; rw [h2]; rfl
                clear HP2 HQ2
                subst e1 e2
                go_wp2_with fail
                refine ⟨⟨k2 + 1, _, _, by go_num, hlt2, rfl, rfl, HF2.out, HG2.out, hb2⟩, ?_⟩
                simp [intOf]
                omega
          · have h50' : (50 : Int) < v.length := by omega
            go_wp2_with (go_at_call 8; ((with_reducible refine (awake_walk _).mono ?_); rintro e w2 ⟨rfl, hb3⟩))
            go_ret
            exact ⟨rfl, hb2.trans (hb3.mono hb2.size)⟩
        · have hk4 : ¬ k2 < ss.length + 2 := by simpa using hlt2
          have hlt2' : ¬ (k2 : Int) < (ss.length : Int) + 2 := by omega
          have hC2 : p2 = C := by rw [← hf, List.drop_of_length_le (by omega)]; rfl
          have hD2 : q2 = D := by rw [← hg, List.drop_of_length_le (by omega)]; rfl
          clear hf hg
          subst hC2 hD2
          have HPC := Lib.hid (show foldH pickMaxS (pickMaxS s t) ss = p2 from by rw [← foldH_head (pickMaxS_self s)]; exact HC.out)
          have HPD := Lib.hid (show foldH pickMinS (pickMinS s t) ss = q2 from by rw [← foldH_head (pickMinS_self s)]; exact HD.out)
          clear HC HD hfw
          go_wp2_with fail
          refine (awake_walk _).mono ?_
          rintro e w2 ⟨rfl, hb3⟩
          have hb4 : Below w.heap.size w w2 := hb2.trans (hb3.mono hb2.size)
          go_wp2_with fail
          refine (maxInts_walk a b zs x c _ (by omega) hc hm (kept_cells hb4 HR.out)).mono ?_
          rw [HPA.out]
          rintro e w3 ⟨rfl, hb5⟩
          have hb6 : Below w.heap.size w w3 := hb4.trans (hb5.mono hb4.size)
          go_wp2_with fail
          refine (minInts_walk a b zs x c _ (by omega) hc hm (kept_cells hb6 HR.out)).mono ?_
          rw [HPB.out]
          rintro e w4 ⟨rfl, hb7⟩
          have hb8 : Below w.heap.size w w4 := hb6.trans (hb7.mono hb6.size)
          go_wp2_with fail
          refine (maxTexts_walk s t ss y d _ (by omega) hc2 hm2 (kept_cells hb8 HR2.out)).mono ?_
          rw [HPC.out]
          rintro e w5 ⟨rfl, hb9⟩
          have hb10 : Below w.heap.size w w5 := hb8.trans (hb9.mono hb8.size)
          go_wp2_with fail
          refine (minTexts_walk s t ss y d _ (by omega) hc2 hm2 (kept_cells hb10 HR2.out)).mono ?_
          rw [HPD.out]
          rintro e w6 ⟨rfl, hb11⟩
          go_wp2_with fail
          go_ret
          exact ⟨rfl, hb10.trans (hb11.mono hb10.size)⟩

/-- A slice as it comes in. -/
def InRow {α : Type} (enc : α → Value) (w : World) (A : Option Addr) (n c : Nat) (l : List α) : Prop :=
  l.length = n ∧ n ≤ c ∧ c ≤ 9223372036854775807 ∧ Rd w A (l.map enc)

set_option maxRecDepth 100000 in
set_option maxHeartbeats 2000000 in
theorem fnMaxMin_walk (A B : Option Addr) (n m c d : Nat) (l : List Int) (texts : List (List UInt8)) (w : World) (hl : InRow (fun x => Value.int .i64 x) w A n c l) (ht : InRow (fun x => Value.string (S x)) w B m d texts) :
    Calls Try.prog 6 #[.slice A n c, .slice B m d] w fun e w' => e = .returned (.bool true) ∧ Below w.heap.size w w' := by
  obtain ⟨rfl, hc, hm, hr⟩ := hl
  obtain ⟨rfl, hc2, hm2, hr2⟩ := ht
  by_cases h0 : l.length ≤ 2147483647
  · have q1 : decide ((2147483647 : Int) < (l.length : Int)) = false := decide_eq_false (by omega)
    cases hfit : fits1 texts.length texts with
    | false =>
      go_enter Try.func6, Try.ntmps6
      go_wp2_with fail
      refine (fits1_walk B d texts w (by omega) hr2).mono ?_
      rw [hfit]
      rintro e w1 ⟨rfl, rfl⟩
      go_wp2_with fail
      go_ret
      exact ⟨rfl, Below.refl _ _⟩
    | true =>
      by_cases hin : (2 ≤ l.length ∧ l.length ≤ 20) ∧ 2 ≤ texts.length ∧ texts.length ≤ 20
      · obtain ⟨⟨h1, h2⟩, h3, h4⟩ := hin
        match l, texts, h1, h3 with
        | a :: b :: zs, s :: t :: ss, _, _ =>
          rcases hr with h | ⟨x, rfl, hr⟩
          · simp at h
          rcases hr2 with h | ⟨y, rfl, hr2⟩
          · simp at h
          exact maxMin_full a b zs x c s t ss y d w (by simpa using h2) hc hm hr (by simpa using h4) hc2 hm2 hr2 hfit
      · have hout : (l.length < 2 ∨ 20 < l.length ∨ texts.length < 2 ∨ 20 < texts.length) := by omega
        go_enter Try.func6, Try.ntmps6
        go_wp2_with fail
        refine (fits1_walk B d texts w (by omega) hr2).mono ?_
        rw [hfit]
        rintro e w1 ⟨rfl, rfl⟩
        clear hin hr hr2
        cases h1 : decide ((l.length : Int) < 2) with
        | true =>
          go_wp2_with (go_at_call 8; ((with_reducible refine (awake_walk _).mono ?_); rintro e w2 ⟨rfl, hb3⟩))
          all_goals go_ret
          all_goals exact ⟨rfl, hb3⟩
        | false =>
          cases h2 : decide ((20 : Int) < (l.length : Int)) with
          | true =>
            go_wp2_with (go_at_call 8; ((with_reducible refine (awake_walk _).mono ?_); rintro e w2 ⟨rfl, hb3⟩))
            all_goals go_ret
            all_goals exact ⟨rfl, hb3⟩
          | false =>
            cases h3 : decide ((texts.length : Int) < 2) with
            | true =>
              go_wp2_with (go_at_call 8; ((with_reducible refine (awake_walk _).mono ?_); rintro e w2 ⟨rfl, hb3⟩))
              all_goals go_ret
              all_goals exact ⟨rfl, hb3⟩
            | false =>
              have h4 : decide ((20 : Int) < (texts.length : Int)) = true := by
                have := of_decide_eq_false h1
                have := of_decide_eq_false h2
                have := of_decide_eq_false h3
                exact decide_eq_true (by omega)
              go_wp2_with (go_at_call 8; ((with_reducible refine (awake_walk _).mono ?_); rintro e w2 ⟨rfl, hb3⟩))
              all_goals go_ret
              all_goals exact ⟨rfl, hb3⟩
  · have q1 : decide ((2147483647 : Int) < (l.length : Int)) = true := decide_eq_true (by omega)
    go_enter Try.func6, Try.ntmps6
    go_wp2_with fail
    go_ret
    exact ⟨rfl, Below.refl _ _⟩

end Go.Proofs.Ytfbaocoeiobolaa
