/-
  Max and Min of numbers and of texts.
-/
import Derived.Test.YtikacehcjaaamaaDoorImplFmt
namespace Go.Proofs.YtikacehcjaaamaaDoor
open Go.RowKit

/-- A slice's elements stand in memory. -/
def Rd (w : World) (A : Option Addr) (vs : List Value) : Prop := vs = [] ∨ ∃ x, A = some x ∧ ∀ j u, vs[j]? = some u → w.cell? (x.add j) = some u

def pickMaxI (m v : Int) : Int := if m < v then v else m
def pickMinI (m v : Int) : Int := if v < m then v else m
def less (a b : List UInt8) : Bool := Op.bytesLess a b
def pickMaxS (m v : List UInt8) : List UInt8 := if !(less v m || v == m) then v else m
def pickMinS (m v : List UInt8) : List UInt8 := if less v m then v else m
def foldH {α : Type} (f : α → α → α) (m : α) (l : List α) : α := l.foldl f m

set_option maxRecDepth 100000 in
set_option maxHeartbeats 1000000 in
theorem MaxI_walk (a b : Int) (A : Option Addr) (c : Nat) (zs : List (Int)) (w : World) (hn : zs.length ≤ 1000) (hr : Rd w A (zs.map (fun x => Value.int .i64 x))) :
    Calls Tryd.prog 24 #[.int .i64 a, .int .i64 b, .slice A zs.length c] w fun e w' => e = .returned (.int .i64 (foldH pickMaxI (pickMaxI a b) zs)) ∧ w' = w := by
  have HR := Lib.hid hr
  clear hr
  by_cases hc : a < b
  · have hp : pickMaxI a b = b := by unfold pickMaxI; rw [if_pos hc]
    have HP := Lib.hid hp
    clear hp
    rw [HP.out]
    obtain ⟨R, hR⟩ : ∃ R, foldH pickMaxI b zs = R := ⟨_, rfl⟩
    rw [hR]
    have HF := Lib.hid hR
    clear hR
    go_enter Tryd.func24, Tryd.ntmps24
    go_wp2_with fail
    go_loop [7, 17] (fun s7 i => ∃ (k : Nat) (m : Int), i = .int .i64 k ∧ k ≤ zs.length ∧ s7 = .int .i64 m ∧ foldH pickMaxI m (zs.drop k) = R) (fun _ i => zs.length - (intOf i).toNat)
    case atStart => exact ⟨0, _, rfl, Nat.zero_le _, rfl, HF.out⟩
    case round =>
      obtain ⟨k, m, rfl, hk, rfl, hf⟩ := hrel
      have HG := Lib.hid hf
      clear hf
      by_cases hlt : k < zs.length
      · obtain ⟨v, hv⟩ : ∃ v, zs[k]'hlt = v := ⟨_, rfl⟩
        have hcell : ∃ x, A = some x ∧ w.cell? (x.add k) = some (.int .i64 v) := by
          rcases HR.out with h | ⟨x, rfl, h⟩
          · have := congrArg List.length h; simp at this; subst this; simp at hlt
          · exact ⟨x, rfl, h k _ (by simp [List.getElem?_eq_getElem hlt, hv])⟩
        obtain ⟨x, rfl, hcell⟩ := hcell
        have hd : zs.drop k = v :: zs.drop (k + 1) := by rw [List.drop_eq_getElem_cons hlt, hv]
        have HD := Lib.hid hd
        clear hd hv HR
        have hlt' : (k : Int) < zs.length := by omega
        clear hc
        by_cases hc : m < v
        · have hp : pickMaxI m v = v := by unfold pickMaxI; rw [if_pos hc]
          have HQ := Lib.hid hp
          clear hp
          go_wp2_with fail
          refine ⟨⟨k + 1, v, by go_num, by omega, rfl, ?_⟩, by simp [intOf]; omega⟩
          have := HG.out
          rw [HD.out] at this
          rw [← this]
          show _ = foldH pickMaxI (pickMaxI m v) (zs.drop (k + 1))
          rw [HQ.out]
        · have hp : pickMaxI m v = m := by unfold pickMaxI; rw [if_neg hc]
          have HQ := Lib.hid hp
          clear hp
          go_wp2_with fail
          refine ⟨⟨k + 1, m, by go_num, by omega, rfl, ?_⟩, by simp [intOf]; omega⟩
          have := HG.out
          rw [HD.out] at this
          rw [← this]
          show _ = foldH pickMaxI (pickMaxI m v) (zs.drop (k + 1))
          rw [HQ.out]
      · have hlt' : ¬ (k : Int) < zs.length := by omega
        have e : R = m := by
          rw [← HG.out, List.drop_of_length_le (by omega)]
          rfl
        have HE := Lib.hid e
        clear e
        go_wp2_with fail
        go_ret
        rw [HE.out]
        exact ⟨rfl, rfl⟩
  · have hp : pickMaxI a b = a := by unfold pickMaxI; rw [if_neg hc]
    have HP := Lib.hid hp
    clear hp
    rw [HP.out]
    obtain ⟨R, hR⟩ : ∃ R, foldH pickMaxI a zs = R := ⟨_, rfl⟩
    rw [hR]
    have HF := Lib.hid hR
    clear hR
    go_enter Tryd.func24, Tryd.ntmps24
    go_wp2_with fail
    go_loop [7, 17] (fun s7 i => ∃ (k : Nat) (m : Int), i = .int .i64 k ∧ k ≤ zs.length ∧ s7 = .int .i64 m ∧ foldH pickMaxI m (zs.drop k) = R) (fun _ i => zs.length - (intOf i).toNat)
    case atStart => exact ⟨0, _, rfl, Nat.zero_le _, rfl, HF.out⟩
    case round =>
      obtain ⟨k, m, rfl, hk, rfl, hf⟩ := hrel
      have HG := Lib.hid hf
      clear hf
      by_cases hlt : k < zs.length
      · obtain ⟨v, hv⟩ : ∃ v, zs[k]'hlt = v := ⟨_, rfl⟩
        have hcell : ∃ x, A = some x ∧ w.cell? (x.add k) = some (.int .i64 v) := by
          rcases HR.out with h | ⟨x, rfl, h⟩
          · have := congrArg List.length h; simp at this; subst this; simp at hlt
          · exact ⟨x, rfl, h k _ (by simp [List.getElem?_eq_getElem hlt, hv])⟩
        obtain ⟨x, rfl, hcell⟩ := hcell
        have hd : zs.drop k = v :: zs.drop (k + 1) := by rw [List.drop_eq_getElem_cons hlt, hv]
        have HD := Lib.hid hd
        clear hd hv HR
        have hlt' : (k : Int) < zs.length := by omega
        clear hc
        by_cases hc : m < v
        · have hp : pickMaxI m v = v := by unfold pickMaxI; rw [if_pos hc]
          have HQ := Lib.hid hp
          clear hp
          go_wp2_with fail
          refine ⟨⟨k + 1, v, by go_num, by omega, rfl, ?_⟩, by simp [intOf]; omega⟩
          have := HG.out
          rw [HD.out] at this
          rw [← this]
          show _ = foldH pickMaxI (pickMaxI m v) (zs.drop (k + 1))
          rw [HQ.out]
        · have hp : pickMaxI m v = m := by unfold pickMaxI; rw [if_neg hc]
          have HQ := Lib.hid hp
          clear hp
          go_wp2_with fail
          refine ⟨⟨k + 1, m, by go_num, by omega, rfl, ?_⟩, by simp [intOf]; omega⟩
          have := HG.out
          rw [HD.out] at this
          rw [← this]
          show _ = foldH pickMaxI (pickMaxI m v) (zs.drop (k + 1))
          rw [HQ.out]
      · have hlt' : ¬ (k : Int) < zs.length := by omega
        have e : R = m := by
          rw [← HG.out, List.drop_of_length_le (by omega)]
          rfl
        have HE := Lib.hid e
        clear e
        go_wp2_with fail
        go_ret
        rw [HE.out]
        exact ⟨rfl, rfl⟩

set_option maxRecDepth 100000 in
set_option maxHeartbeats 1000000 in
theorem MinI_walk (a b : Int) (A : Option Addr) (c : Nat) (zs : List (Int)) (w : World) (hn : zs.length ≤ 1000) (hr : Rd w A (zs.map (fun x => Value.int .i64 x))) :
    Calls Tryd.prog 25 #[.int .i64 a, .int .i64 b, .slice A zs.length c] w fun e w' => e = .returned (.int .i64 (foldH pickMinI (pickMinI a b) zs)) ∧ w' = w := by
  have HR := Lib.hid hr
  clear hr
  by_cases hc : b < a
  · have hp : pickMinI a b = b := by unfold pickMinI; rw [if_pos hc]
    have HP := Lib.hid hp
    clear hp
    rw [HP.out]
    obtain ⟨R, hR⟩ : ∃ R, foldH pickMinI b zs = R := ⟨_, rfl⟩
    rw [hR]
    have HF := Lib.hid hR
    clear hR
    go_enter Tryd.func25, Tryd.ntmps25
    go_wp2_with fail
    go_loop [7, 17] (fun s7 i => ∃ (k : Nat) (m : Int), i = .int .i64 k ∧ k ≤ zs.length ∧ s7 = .int .i64 m ∧ foldH pickMinI m (zs.drop k) = R) (fun _ i => zs.length - (intOf i).toNat)
    case atStart => exact ⟨0, _, rfl, Nat.zero_le _, rfl, HF.out⟩
    case round =>
      obtain ⟨k, m, rfl, hk, rfl, hf⟩ := hrel
      have HG := Lib.hid hf
      clear hf
      by_cases hlt : k < zs.length
      · obtain ⟨v, hv⟩ : ∃ v, zs[k]'hlt = v := ⟨_, rfl⟩
        have hcell : ∃ x, A = some x ∧ w.cell? (x.add k) = some (.int .i64 v) := by
          rcases HR.out with h | ⟨x, rfl, h⟩
          · have := congrArg List.length h; simp at this; subst this; simp at hlt
          · exact ⟨x, rfl, h k _ (by simp [List.getElem?_eq_getElem hlt, hv])⟩
        obtain ⟨x, rfl, hcell⟩ := hcell
        have hd : zs.drop k = v :: zs.drop (k + 1) := by rw [List.drop_eq_getElem_cons hlt, hv]
        have HD := Lib.hid hd
        clear hd hv HR
        have hlt' : (k : Int) < zs.length := by omega
        clear hc
        by_cases hc : v < m
        · have hp : pickMinI m v = v := by unfold pickMinI; rw [if_pos hc]
          have HQ := Lib.hid hp
          clear hp
          go_wp2_with fail
          refine ⟨⟨k + 1, v, by go_num, by omega, rfl, ?_⟩, by simp [intOf]; omega⟩
          have := HG.out
          rw [HD.out] at this
          rw [← this]
          show _ = foldH pickMinI (pickMinI m v) (zs.drop (k + 1))
          rw [HQ.out]
        · have hp : pickMinI m v = m := by unfold pickMinI; rw [if_neg hc]
          have HQ := Lib.hid hp
          clear hp
          go_wp2_with fail
          refine ⟨⟨k + 1, m, by go_num, by omega, rfl, ?_⟩, by simp [intOf]; omega⟩
          have := HG.out
          rw [HD.out] at this
          rw [← this]
          show _ = foldH pickMinI (pickMinI m v) (zs.drop (k + 1))
          rw [HQ.out]
      · have hlt' : ¬ (k : Int) < zs.length := by omega
        have e : R = m := by
          rw [← HG.out, List.drop_of_length_le (by omega)]
          rfl
        have HE := Lib.hid e
        clear e
        go_wp2_with fail
        go_ret
        rw [HE.out]
        exact ⟨rfl, rfl⟩
  · have hp : pickMinI a b = a := by unfold pickMinI; rw [if_neg hc]
    have HP := Lib.hid hp
    clear hp
    rw [HP.out]
    obtain ⟨R, hR⟩ : ∃ R, foldH pickMinI a zs = R := ⟨_, rfl⟩
    rw [hR]
    have HF := Lib.hid hR
    clear hR
    go_enter Tryd.func25, Tryd.ntmps25
    go_wp2_with fail
    go_loop [7, 17] (fun s7 i => ∃ (k : Nat) (m : Int), i = .int .i64 k ∧ k ≤ zs.length ∧ s7 = .int .i64 m ∧ foldH pickMinI m (zs.drop k) = R) (fun _ i => zs.length - (intOf i).toNat)
    case atStart => exact ⟨0, _, rfl, Nat.zero_le _, rfl, HF.out⟩
    case round =>
      obtain ⟨k, m, rfl, hk, rfl, hf⟩ := hrel
      have HG := Lib.hid hf
      clear hf
      by_cases hlt : k < zs.length
      · obtain ⟨v, hv⟩ : ∃ v, zs[k]'hlt = v := ⟨_, rfl⟩
        have hcell : ∃ x, A = some x ∧ w.cell? (x.add k) = some (.int .i64 v) := by
          rcases HR.out with h | ⟨x, rfl, h⟩
          · have := congrArg List.length h; simp at this; subst this; simp at hlt
          · exact ⟨x, rfl, h k _ (by simp [List.getElem?_eq_getElem hlt, hv])⟩
        obtain ⟨x, rfl, hcell⟩ := hcell
        have hd : zs.drop k = v :: zs.drop (k + 1) := by rw [List.drop_eq_getElem_cons hlt, hv]
        have HD := Lib.hid hd
        clear hd hv HR
        have hlt' : (k : Int) < zs.length := by omega
        clear hc
        by_cases hc : v < m
        · have hp : pickMinI m v = v := by unfold pickMinI; rw [if_pos hc]
          have HQ := Lib.hid hp
          clear hp
          go_wp2_with fail
          refine ⟨⟨k + 1, v, by go_num, by omega, rfl, ?_⟩, by simp [intOf]; omega⟩
          have := HG.out
          rw [HD.out] at this
          rw [← this]
          show _ = foldH pickMinI (pickMinI m v) (zs.drop (k + 1))
          rw [HQ.out]
        · have hp : pickMinI m v = m := by unfold pickMinI; rw [if_neg hc]
          have HQ := Lib.hid hp
          clear hp
          go_wp2_with fail
          refine ⟨⟨k + 1, m, by go_num, by omega, rfl, ?_⟩, by simp [intOf]; omega⟩
          have := HG.out
          rw [HD.out] at this
          rw [← this]
          show _ = foldH pickMinI (pickMinI m v) (zs.drop (k + 1))
          rw [HQ.out]
      · have hlt' : ¬ (k : Int) < zs.length := by omega
        have e : R = m := by
          rw [← HG.out, List.drop_of_length_le (by omega)]
          rfl
        have HE := Lib.hid e
        clear e
        go_wp2_with fail
        go_ret
        rw [HE.out]
        exact ⟨rfl, rfl⟩

end Go.Proofs.YtikacehcjaaamaaDoor
