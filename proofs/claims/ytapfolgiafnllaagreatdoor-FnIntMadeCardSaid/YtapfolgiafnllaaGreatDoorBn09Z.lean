/-
  math/big's addVW, subVW, from other memory.
-/
import Derived.Test.YtapfolgiafnllaaGreatDoorBn15Z
import Derived.Test.YtapfolgiafnllaaGreatDoorCopyZ
import Derived.Test.YtapfolgiafnllaaGreatDoorSetStrZ
import Derived.StillTailTactics
import Derived.RegionTactic
import Derived.LaidEql
import Derived.Lib.SliceRun
import Derived.Test.YtapfolgiafnllaaGreatDoorBn17Z
namespace Go.Proofs.YtapfolgiafnllaaGreatDoor
open Go.RowKit

theorem valD_split {b : Nat} {xs : List Nat} {k : Nat} (h : k < xs.length) : valD b xs = valD b (xs.take k) + b ^ k * (xs[k] + b * valD b (xs.drop (k + 1))) := by
  conv => lhs; rw [← List.take_append_drop k xs, valD_append, List.drop_eq_getElem_cons h]
  have : (xs.take k).length = k := by simp; omega
  rw [this]; rfl
/-- A word that takes the carry. -/
theorem avw_stop {outs xs : List Nat} {k x y : Nat} (hk : outs.length = k) (hl : k < xs.length) (hx : xs[k] = x) (h : valD 18446744073709551616 outs + 18446744073709551616 ^ k = valD 18446744073709551616 (xs.take k) + y) :
    valD 18446744073709551616 (outs ++ [x + 1] ++ xs.drop (k + 1)) = valD 18446744073709551616 xs + y := by
  rw [valD_split hl, valD_append, valD_append, hx, List.length_append, hk]
  generalize valD 18446744073709551616 (xs.drop (k + 1)) = D
  generalize valD 18446744073709551616 (xs.take k) = X at *
  generalize valD 18446744073709551616 outs = V at *
  have e0 : valD 18446744073709551616 [x + 1] = x + 1 := by simp [valD]
  rw [e0]
  show V + _ * (x + 1) + 18446744073709551616 ^ (k + 1) * D = _
  rw [Nat.pow_succ]
  generalize 18446744073709551616 ^ k = P at *
  rw [Nat.mul_assoc P, Nat.mul_add P x, Nat.mul_add P x]
  omega
theorem svw_stop {outs xs : List Nat} {k x y : Nat} (hk : outs.length = k) (hl : k < xs.length) (hx : xs[k] = x + 1) (h : valD 18446744073709551616 outs + y = valD 18446744073709551616 (xs.take k) + 18446744073709551616 ^ k) :
    valD 18446744073709551616 (outs ++ [x] ++ xs.drop (k + 1)) + y = valD 18446744073709551616 xs := by
  rw [valD_split hl, valD_append, valD_append, hx, List.length_append, hk]
  generalize valD 18446744073709551616 (xs.drop (k + 1)) = D
  generalize valD 18446744073709551616 (xs.take k) = X at *
  generalize valD 18446744073709551616 outs = V at *
  have e0 : valD 18446744073709551616 [x] = x := by simp [valD]
  rw [e0]
  show V + _ * x + 18446744073709551616 ^ (k + 1) * D + y = _
  rw [Nat.pow_succ]
  generalize 18446744073709551616 ^ k = P at *
  rw [Nat.mul_assoc P, Nat.mul_add P (x + 1), Nat.mul_add P x]
  omega

theorem avw_go {outs xs : List Nat} {k x y : Nat} (hk : outs.length = k) (hl : k < xs.length) (hx : xs[k] = x) (hm : x = 18446744073709551615) (h : valD 18446744073709551616 outs + 18446744073709551616 ^ k = valD 18446744073709551616 (xs.take k) + y) :
    valD 18446744073709551616 (outs ++ [0]) + 18446744073709551616 ^ (k + 1) = valD 18446744073709551616 (xs.take (k + 1)) + y := by
  rw [valD_take_succ hl, valD_append, hk, hx, hm, Nat.pow_succ]
  generalize 18446744073709551616 ^ k = P at *
  generalize valD 18446744073709551616 outs = V at *
  generalize valD 18446744073709551616 (xs.take k) = X at *
  have e0 : valD 18446744073709551616 [0] = 0 := by simp [valD]
  rw [e0, Nat.mul_zero]
  omega
theorem svw_go {outs xs : List Nat} {k x y : Nat} (hk : outs.length = k) (hl : k < xs.length) (hx : xs[k] = x) (hm : x = 0) (h : valD 18446744073709551616 outs + y = valD 18446744073709551616 (xs.take k) + 18446744073709551616 ^ k) :
    valD 18446744073709551616 (outs ++ [18446744073709551615]) + y = valD 18446744073709551616 (xs.take (k + 1)) + 18446744073709551616 ^ (k + 1) := by
  rw [valD_take_succ hl, valD_append, hk, hx, hm, Nat.pow_succ]
  generalize 18446744073709551616 ^ k = P at *
  generalize valD 18446744073709551616 outs = V at *
  generalize valD 18446744073709551616 (xs.take k) = X at *
  have e0 : valD 18446744073709551616 [18446744073709551615] = 18446744073709551615 := by simp [valD]
  rw [e0, Nat.mul_zero]
  omega
theorem avw_done0 {xs : List Nat} {x0 s y : Nat} (h : 0 < xs.length) (hx : xs[0] = x0) (hs : s + 18446744073709551616 * 0 = x0 + y + 0) : valD 18446744073709551616 ([s] ++ xs.drop 1) = valD 18446744073709551616 xs + y := by
  obtain ⟨a, t, rfl⟩ : ∃ a t, xs = a :: t := by
    cases xs with
    | nil => simp at h
    | cons a t => exact ⟨a, t, rfl⟩
  have e : ∀ d l, valD 18446744073709551616 (d :: l) = d + 18446744073709551616 * valD 18446744073709551616 l := fun _ _ => rfl
  rw [List.getElem_cons_zero] at hx
  rw [List.drop_one, List.tail_cons, List.singleton_append, e, e]
  omega
theorem svw_done0 {xs : List Nat} {x0 s y : Nat} (h : 0 < xs.length) (hx : xs[0] = x0) (hs : s + y + 0 = x0 + 18446744073709551616 * 0) : valD 18446744073709551616 ([s] ++ xs.drop 1) + y = valD 18446744073709551616 xs := by
  obtain ⟨a, t, rfl⟩ : ∃ a t, xs = a :: t := by
    cases xs with
    | nil => simp at h
    | cons a t => exact ⟨a, t, rfl⟩
  have e : ∀ d l, valD 18446744073709551616 (d :: l) = d + 18446744073709551616 * valD 18446744073709551616 l := fun _ _ => rfl
  rw [List.getElem_cons_zero] at hx
  rw [List.drop_one, List.tail_cons, List.singleton_append, e, e]
  omega
/-- What addVW and subVW leave behind. -/
def VwPost (w : World) (g o : Nat) (zs xs : List Nat) (y : Nat) (L : Nat → Nat → Nat → Nat → Prop) (e : Ending) (w' : World) : Prop :=
  ∃ (c : Nat) (outs : List Nat), e = .returned (.int .u64 c) ∧ c ≤ 1 ∧ outs.length = xs.length ∧ (∀ d ∈ outs, d < 18446744073709551616) ∧
    Row w' g .u64 106 (over zs o outs) ∧ Ext (fun b => b = g) w w' ∧ w'.heap.size = w.heap.size ∧
    L (valD 18446744073709551616 outs) (18446744073709551616 ^ xs.length * c) (valD 18446744073709551616 xs) y
/-- The loops of addVW and subVW: k words have been written, the carry is one. -/
def VwRel (w : World) (g o : Nat) (zs xs : List Nat) (y : Nat) (L : Nat → Nat → Nat → Nat → Prop) (iv : Value) (wr : World) : Prop :=
  ∃ (outs : List Nat), iv = .int .i64 (outs.length : Int) ∧ 1 ≤ outs.length ∧ outs.length ≤ xs.length ∧ (∀ d ∈ outs, d < 18446744073709551616) ∧
    Row wr g .u64 106 (over zs o outs) ∧ Ext (fun b => b = g) w wr ∧ wr.heap.size = w.heap.size ∧
    L (valD 18446744073709551616 outs) (18446744073709551616 ^ outs.length) (valD 18446744073709551616 (xs.take outs.length)) y
theorem vw_all {outs xs : List Nat} {k v : Nat} (hk : outs.length = k) (hl : k < xs.length) (ho : ∀ d ∈ outs, d < 18446744073709551616) (hv : v < 18446744073709551616) (hx : ∀ d ∈ xs, d < 18446744073709551616) :
    (outs ++ [v] ++ xs.drop (k + 1)).length = xs.length ∧ ∀ d ∈ outs ++ [v] ++ xs.drop (k + 1), d < 18446744073709551616 := by
  refine ⟨by simp; omega, fun d hd => ?_⟩
  rcases List.mem_append.1 hd with h | h
  · rcases List.mem_append.1 h with h | h
    · exact ho d h
    · simp at h; omega
  · exact hx d (List.mem_of_mem_drop h)
theorem row_cell {w wr : World} {g gx ox : Nat} {xs xz r : List Nat} {T : TypeId} (h : Row w gx .u64 T xz) (hp : xz.drop ox = xs ++ r) (hne : gx ≠ g) (hx : Ext (fun b => b = g) w wr) {j : Nat} (hj : j < xs.length) :
    wr.cell? ⟨gx, ox + j, none⟩ = some (.int .u64 (xs[j] : Int)) := by
  have hr2 : Row wr gx .u64 T xz := (hx.block gx h.lt hne).trans h
  have hl : ox + j < xz.length := by
    have := congrArg List.length hp
    rw [List.length_drop, List.length_append] at this
    omega
  rw [hr2.cell hl]
  congr 3
  have e : xz[ox + j] = (xz.drop ox)[j]'(by simp; omega) := by simp
  rw [e]
  simp only [hp]
  rw [List.getElem_append_left hj]
theorem row_rd {w wr : World} {g gx ox : Nat} {xs xz r : List Nat} {T : TypeId} (h : Row w gx .u64 T xz) (hp : xz.drop ox = xs ++ r) (hne : gx ≠ g) (hx : Ext (fun b => b = g) w wr) (j : Nat) (hj : j ≤ xs.length) :
    Rd wr (some ⟨gx, ox + j, none⟩) (nums .u64 (xs.drop j)) := by
  have hr2 : Row wr gx .u64 T xz := (hx.block gx h.lt hne).trans h
  have h3 := (hr2.rd (ox + j)).take (xs.drop j).length
  rw [← List.drop_drop, hp, List.drop_append_of_le_length hj, List.take_left] at h3
  exact h3
theorem Row.ext2 {D : Nat → Prop} {w w' : World} {g : Nat} {k : IntKind} {T : TypeId} {xs : List Nat} (h : Row w g k T xs) (hx : Ext D w w') (hd : ¬ D g) : Row w' g k T xs := (hx.block g h.lt hd).trans h
theorem infoWord' : ∃ i, Tryz.prog.info? 106 = some i ∧ i.size = 1 := Option.map_eq_some_iff.1 infoWordSize
/-- Two words of two blocks have two addresses. -/
theorem word_neq {w : World} {g o gx ox : Nat} {zs xz : List Nat} (hne : gx ≠ g) (h1 : Row w g .u64 106 zs) (h2 : Row w gx .u64 106 xz) :
    (binOp BinOp.neq 154 (.pointer (some ⟨g, o, none⟩)) (.pointer (some ⟨gx, ox, none⟩))).run Tryz.prog w = .ok (.bool true) w := by
  obtain ⟨i, hi, hs⟩ := infoWord'
  have hn : (⟨g, o, none⟩ : Addr) ≠ ⟨gx, ox, none⟩ := fun e => hne (by cases e; rfl)
  have hr : (sameAddr ⟨g, o, none⟩ ⟨gx, ox, none⟩).run Tryz.prog w = .ok false w := run_sameAddr_other w hn (by exact h1) (by exact h2)
  have h : ∀ d : Nat, (Op.equalIn (d + 1) 154 (.pointer (some ⟨g, o, none⟩)) (.pointer (some ⟨gx, ox, none⟩))).run Tryz.prog w = .ok false w := fun d => by
    simp [Op.equalIn, run_underlying Tryz.underlying154, sizeOf, typeInfo, hi, hs, hr]
  simp only [binOp]
  simp [Op.equal, Op.maxDepth, h 9999]

set_option maxRecDepth 100000 in
set_option maxHeartbeats 4000000 in
theorem addVW_walk (g o : Nat) (zs xs : List Nat) (gx ox : Nat) (xz : List Nat) (cz cx y : Nat) (w : World) (hrow : Row w g .u64 106 zs) (hrx : Row w gx .u64 106 xz) (hpre : ∃ r, xz.drop ox = xs ++ r) (hag : gx ≠ g) (hz : o + xs.length ≤ zs.length)
    (hcz : xs.length ≤ cz) (hcx : xs.length ≤ cx) (hczm : cz ≤ 9223372036854775807) (hcxm : cx ≤ 9223372036854775807) (hx0 : 1 ≤ xs.length) (hy : y < 18446744073709551616) (hxw : ∀ d ∈ xs, d < 18446744073709551616) (hl : xs.length ≤ 1000000) (_ho : o ≤ 1000000) :
    Calls Tryz.prog 138 #[.slice (some ⟨g, o, none⟩) xs.length cz, .slice (some ⟨gx, ox, none⟩) xs.length cx, .int .u64 y] w (VwPost w g o zs xs y AddL) := by
  have HR := Lib.hid hrow
  have HRX := Lib.hid hrx
  have HXW := Lib.hid hxw
  have hl0 : ((xs.length : Int) == 0) = false := beq_eq_false_iff_ne.2 (by omega)
  have hl1 : (0 : Int) < xs.length := by omega
  have hl2 : 0 < xs.length := by omega
  obtain ⟨rr, hpre⟩ := hpre
  have HPRE := Lib.hid hpre
  have hc0 := row_cell hrx hpre hag (Ext.refl _ _) (j := 0) hl2
  obtain ⟨x0, hx0e⟩ : ∃ x0, xs[0]'(by omega) = x0 := ⟨_, rfl⟩
  have hx0w : x0 < 18446744073709551616 := by rw [← hx0e]; exact hxw _ (List.getElem_mem _)
  rw [hx0e, Nat.add_zero] at hc0
  have fR := hrow.free (o + 0)
  have hcR := hrow.cell (j := o + 0) (by omega)
  obtain ⟨old, hold⟩ : ∃ old, zs[o + 0]'(by omega) = old := ⟨_, rfl⟩
  rw [hold] at hcR
  rw [Nat.add_zero] at fR hcR
  have hW := bitsAdd_walk x0 y 0
  obtain ⟨q, hq⟩ : ∃ q, (x0 + y + 0) / 18446744073709551616 = q := ⟨_, rfl⟩
  obtain ⟨s, hs⟩ : ∃ s, (x0 + y + 0) % 18446744073709551616 = s := ⟨_, rfl⟩
  have hqw : q ≤ 1 := by omega
  have hsw : s < 18446744073709551616 := by rw [← hs]; exact Nat.mod_lt _ (by decide)
  have hqs : s + 18446744073709551616 * q = x0 + y + 0 := by omega
  rw [hq, hs] at hW
  have HW := Lib.hid hW
  have HX0 := Lib.hid hx0e
  clear hrow hrx hxw hW hx0e hold hpre
  go_enter Tryz.func138, Tryz.ntmps138
  go_wp2_with fail
  refine (HW.out _ hx0w hy (by decide)).mono ?_
  rintro e w2 ⟨rfl, rfl⟩
  have hset : Row (w.setCell ⟨g, o, none⟩ (.int .u64 (s : Int))) g .u64 106 (over zs o [s]) := by
    have := HR.out.set o s
    have e := over_set (zs := zs) (outs := []) (o := o) (v := s) (by simp; omega)
    rw [over_nil, List.length_nil, Nat.add_zero, List.nil_append] at e
    rw [e] at this
    exact this
  have hxt : Ext (fun b => b = g) w (w.setCell ⟨g, o, none⟩ (.int .u64 (s : Int))) := Ext.setCell (D := fun b => b = g) (p := ⟨g, o, none⟩) (Ext.refl _ _) (fun _ => rfl) _
  have hnq := fun n => word_neq (o := o) (ox := ox) hag (hset.drew n) ((HRX.out.other (.int .u64 (s : Int)) (p := ⟨g, o, none⟩) hag).drew n)
  have HST := Lib.hid hset
  have HXT := Lib.hid hxt
  clear hset hxt
  by_cases hq0 : q = 0
  · subst hq0
    have hc1 : (1 : Int) ≤ cz := by omega
    have hc2 : (1 : Int) ≤ cx := by omega
    have hc3 : (1 : Int) ≤ xs.length := by omega
    go_wp2_with fail
    go_quiet (fail)
    go_wp2_with fail
    go_still_tail 4, (by kernel_rfl)
    change wpList _ _ _ _ _ ((w.setCell ⟨g, o, none⟩ (.int .u64 (s : Int))).drewN nq).drew
    refine wpList_copy_words rfl _ _ 77 77 rfl 106 Tryz.underlying77 infoWordSize _ _ _ _ _ _ rfl rfl g (o + 1) (over zs o [s]) .u64 106 (HST.out.drew nq) (xs.drop 1) (by simp) (fun h => ⟨if_neg (by simp at h; omega), by rw [if_neg (by simp at h; omega)]; exact row_rd HRX.out HPRE.out hag HXT.out 1 hx0⟩) (by rw [over_length (by simp; omega)]; simp; omega) ?_
    intro w3 HG3 hx3 hs3
    go_wp2_with fail
    all_goals
      go_ret
      have hall := vw_all (outs := []) (k := 0) (v := s) rfl hl2 (by simp) hsw HXW.out
      have hov := over_over zs [s] (xs.drop 1) o (by simp; omega)
      have hg := HG3.out
      rw [show o + 1 = o + [s].length from rfl, hov] at hg
      refine ⟨0, [s] ++ xs.drop 1, rfl, by decide, hall.1, hall.2, hg, (HXT.out.drewN _).drew.trans hx3, by simpa [World.setCell, World.drewN] using hs3, ?_⟩
      show _ + _ * 0 = _ + _
      rw [Nat.mul_zero, Nat.add_zero]
      exact avw_done0 hl2 HX0.out hqs
  · obtain rfl : q = 1 := by omega
    clear hnq
    go_wp2_with fail
    go_loopw [9] (fun iv wr => VwRel w g o zs xs y AddL iv wr) (fun iv _ => idxOf xs.length iv)
    case atStart =>
      refine ⟨[s], rfl, by simp, by simpa using hx0, by simpa using hsw, HST.out, HXT.out, by simp [World.setCell], ?_⟩
      have e1 : xs.take [s].length = [x0] := by rw [List.length_singleton, List.take_one, List.head?_eq_getElem?, List.getElem?_eq_getElem hl2, HX0.out]; rfl
      rw [e1]
      show _ + _ = _ + _
      have e3 : ∀ d : Nat, valD 18446744073709551616 [d] = d := fun d => by simp [valD]
      have e4 : 18446744073709551616 ^ [s].length = 18446744073709551616 := rfl
      rw [e3, e3, e4]
      omega
    case round =>
      obtain ⟨outs, rfl, ho1, hol, how, hrow, hx, hsz, hval⟩ := hrel
      have HOW := Lib.hid how
      have HROW := Lib.hid hrow
      have HV := Lib.hid hval
      have HXX := Lib.hid hx
      clear how hval
      by_cases hlt : outs.length < xs.length
      · obtain ⟨k, hk⟩ : ∃ k, outs.length = k := ⟨_, rfl⟩
        have hcx2 := row_cell HRX.out HPRE.out hag hx hlt
        obtain ⟨xk, hxk⟩ : ∃ xk, xs[outs.length] = xk := ⟨_, rfl⟩
        have hxkw : xk < 18446744073709551616 := by rw [← hxk]; exact HXW.out _ (List.getElem_mem _)
        rw [hxk] at hcx2
        have hkl : k < xs.length := by omega
        have hxk2 : xs[k] = xk := by rw [← hxk]; simp only [hk]
        have hkl' : (k : Int) < xs.length := by omega
        have hk0 : (0 : Int) ≤ (k : Int) := by omega
        have fR2 := hrow.free (o + k)
        have hcR2 := hrow.cell (j := o + k) (by rw [over_length (by omega)]; omega)
        obtain ⟨old2, hold2⟩ : ∃ old, (over zs o outs)[o + k]'(by rw [over_length (by omega)]; omega) = old := ⟨_, rfl⟩
        rw [hold2] at hcR2
        have hset : ∀ v : Nat, Row (wr.setCell ⟨g, o + k, none⟩ (.int .u64 (v : Int))) g .u64 106 (over zs o (outs ++ [v])) := by
          intro v
          have e := over_set (zs := zs) (outs := outs) (o := o) (v := v) (by omega)
          rw [hk] at e
          rw [← e]
          exact HROW.out.set _ _
        have HSET := Lib.hid hset
        have HXK := Lib.hid hxk2
        have hxt2 : ∀ v : Value, Ext (fun b => b = g) w (wr.setCell ⟨g, o + k, none⟩ v) := fun v => Ext.setCell (D := fun b => b = g) (p := ⟨g, o + k, none⟩) hx (fun _ => rfl) _
        have HXT2 := Lib.hid hxt2
        rw [hk] at hcx2 ⊢
        have hv := HV.out
        rw [hk] at hv
        have HVV := Lib.hid hv
        have HK := Lib.hid hk
        clear hrow hset hxt2 hxk2 hxk hold2 hv hx
        by_cases hmax : xk = 18446744073709551615
        · have hmb : ((xk : Int) != 18446744073709551615) = false := by rw [hmax]; rfl
          have HMX := Lib.hid hmax
          clear hmax
          go_wp2_with fail
          refine ⟨⟨outs ++ [0], by rw [List.length_append, HK.out]; go_num, by simp, by simp; have := HK.out; omega, ?_, HSET.out 0, HXT2.out _, by simpa [World.setCell] using hsz, ?_⟩, by simp [idxOf]; have := HK.out; omega⟩
          · intro d hd
            rcases List.mem_append.1 hd with h | h
            · exact HOW.out d h
            · simp at h; omega
          · rw [List.length_append, HK.out]
            exact avw_go HK.out hkl HXK.out HMX.out HVV.out
        · have hmb : ((xk : Int) != 18446744073709551615) = true := by rw [bne_iff_ne]; omega
          obtain ⟨v, hvv⟩ : ∃ v : Nat, xk + 1 = v := ⟨_, rfl⟩
          have hvw : v < 18446744073709551616 := by omega
          have hvi : (xk : Int) + 1 = (v : Int) := by omega
          have hvr : IntKind.u64.wrap ((xk : Int) + 1) = (v : Int) := by rw [IntKind.wrap_u64]; omega
          have hb1 : (xk : Int) + 1 ≤ 18446744073709551615 := by omega
          have hnq := fun n => word_neq (o := o) (ox := ox) hag ((HSET.out v).drew n) ((HRX.out.ext2 (HXT2.out (.int .u64 (v : Int))) hag).drew n)
          obtain ⟨p, hp⟩ : ∃ p, k + 1 = p := ⟨_, rfl⟩
          have hp' : (k : Int) + 1 = p := by omega
          have hpw : IntKind.i64.wrap (p : Int) = p := by rw [IntKind.wrap_i64]; omega
          have hp0 : (0 : Int) ≤ (p : Int) := by omega
          have hp1 : (p : Int) ≤ xs.length := by omega
          have hp2 : (p : Int) ≤ cz := by omega
          have hp3 : (p : Int) ≤ cx := by omega
          have HP := Lib.hid hp
          have HVE := Lib.hid hvv
          clear hp hvv hmax
          go_wp2_with fail
          go_quiet (fail)
          go_wp2_with fail
          go_still_tail 8, (by kernel_rfl)
          change wpList _ _ _ _ _ ((wr.setCell ⟨g, o + k, none⟩ (.int .u64 (v : Int))).drewN nq).drew
          refine wpList_copy_words rfl _ _ 77 77 rfl 106 Tryz.underlying77 infoWordSize _ _ _ _ _ _ rfl rfl g (o + p) (over zs o (outs ++ [v])) .u64 106 ((HSET.out v).drew nq) (xs.drop p) (by simp) (fun h => ⟨if_neg (by simp at h; omega), by rw [if_neg (by simp at h; omega)]; exact row_rd HRX.out HPRE.out hag (HXT2.out _) p (by omega)⟩) (by rw [over_length (by simp; have := HK.out; omega)]; simp; omega) ?_
          intro w3 HG3 hx3 hs3
          clear hvi hvr hb1 hmb hnq hcx2
          go_wp2_with fail
          all_goals
            go_ret
            have hall := vw_all HK.out hkl HOW.out hvw HXW.out
            have hpl : p = (outs ++ [v]).length := by simp; have := HK.out; have := HP.out; omega
            have hov := over_over zs (outs ++ [v]) (xs.drop p) o (by rw [← hpl]; omega)
            have hg := HG3.out
            rw [← hpl] at hov
            rw [hov] at hg
            rw [HP.out] at hall
            have hfin := avw_stop (x := xk) HK.out hkl HXK.out HVV.out
            rw [HP.out] at hfin
            refine ⟨0, outs ++ [v] ++ xs.drop p, rfl, by decide, hall.1, hall.2, hg, ((HXT2.out _).drewN _).drew.trans hx3, by rw [hs3]; simpa [World.setCell, World.drewN] using hsz, ?_⟩
            show _ + _ * 0 = _ + _
            rw [Nat.mul_zero, Nat.add_zero, ← HVE.out]; exact hfin
      · have hol2 : outs.length = xs.length := by omega
        have hlt' : ¬ (outs.length : Int) < xs.length := by omega
        have hv := HV.out
        rw [hol2, List.take_of_length_le (Nat.le_refl _)] at hv
        have HV2 := Lib.hid hv
        have HOL := Lib.hid hol2
        clear hv hol2 HV hrow hx
        go_wp2_with fail
        go_ret
        exact ⟨1, outs, rfl, by decide, HOL.out, HOW.out, HROW.out, HXX.out, hsz, by rw [Nat.mul_one]; exact HV2.out⟩

set_option maxRecDepth 100000 in
set_option maxHeartbeats 4000000 in
theorem subVW_walk (g o : Nat) (zs xs : List Nat) (gx ox : Nat) (xz : List Nat) (cz cx y : Nat) (w : World) (hrow : Row w g .u64 106 zs) (hrx : Row w gx .u64 106 xz) (hpre : ∃ r, xz.drop ox = xs ++ r) (hag : gx ≠ g) (hz : o + xs.length ≤ zs.length)
    (hcz : xs.length ≤ cz) (hcx : xs.length ≤ cx) (hczm : cz ≤ 9223372036854775807) (hcxm : cx ≤ 9223372036854775807) (hx0 : 1 ≤ xs.length) (hy : y < 18446744073709551616) (hxw : ∀ d ∈ xs, d < 18446744073709551616) (hl : xs.length ≤ 1000000) (_ho : o ≤ 1000000) :
    Calls Tryz.prog 141 #[.slice (some ⟨g, o, none⟩) xs.length cz, .slice (some ⟨gx, ox, none⟩) xs.length cx, .int .u64 y] w (VwPost w g o zs xs y SubL) := by
  have HR := Lib.hid hrow
  have HRX := Lib.hid hrx
  have HXW := Lib.hid hxw
  have hl0 : ((xs.length : Int) == 0) = false := beq_eq_false_iff_ne.2 (by omega)
  have hl1 : (0 : Int) < xs.length := by omega
  have hl2 : 0 < xs.length := by omega
  obtain ⟨rr, hpre⟩ := hpre
  have HPRE := Lib.hid hpre
  have hc0 := row_cell hrx hpre hag (Ext.refl _ _) (j := 0) hl2
  obtain ⟨x0, hx0e⟩ : ∃ x0, xs[0]'(by omega) = x0 := ⟨_, rfl⟩
  have hx0w : x0 < 18446744073709551616 := by rw [← hx0e]; exact hxw _ (List.getElem_mem _)
  rw [hx0e, Nat.add_zero] at hc0
  have fR := hrow.free (o + 0)
  have hcR := hrow.cell (j := o + 0) (by omega)
  obtain ⟨old, hold⟩ : ∃ old, zs[o + 0]'(by omega) = old := ⟨_, rfl⟩
  rw [hold] at hcR
  rw [Nat.add_zero] at fR hcR
  have hW := bitsSub_walk x0 y 0
  obtain ⟨q, hq⟩ : ∃ q, borrow x0 y 0 = q := ⟨_, rfl⟩
  obtain ⟨s, hs⟩ : ∃ s, (x0 + 18446744073709551616 - y - 0) % 18446744073709551616 = s := ⟨_, rfl⟩
  have hqw : q ≤ 1 := by rw [← hq]; unfold borrow; split <;> omega
  have hsw : s < 18446744073709551616 := by rw [← hs]; exact Nat.mod_lt _ (by decide)
  have hqs : s + y + 0 = x0 + 18446744073709551616 * q := by unfold borrow at hq; split at hq <;> omega
  rw [hq, hs] at hW
  have HW := Lib.hid hW
  have HX0 := Lib.hid hx0e
  clear hrow hrx hxw hW hx0e hold hpre
  go_enter Tryz.func141, Tryz.ntmps141
  go_wp2_with fail
  refine (HW.out _ hx0w hy (by decide)).mono ?_
  rintro e w2 ⟨rfl, rfl⟩
  have hset : Row (w.setCell ⟨g, o, none⟩ (.int .u64 (s : Int))) g .u64 106 (over zs o [s]) := by
    have := HR.out.set o s
    have e := over_set (zs := zs) (outs := []) (o := o) (v := s) (by simp; omega)
    rw [over_nil, List.length_nil, Nat.add_zero, List.nil_append] at e
    rw [e] at this
    exact this
  have hxt : Ext (fun b => b = g) w (w.setCell ⟨g, o, none⟩ (.int .u64 (s : Int))) := Ext.setCell (D := fun b => b = g) (p := ⟨g, o, none⟩) (Ext.refl _ _) (fun _ => rfl) _
  have hnq := fun n => word_neq (o := o) (ox := ox) hag (hset.drew n) ((HRX.out.other (.int .u64 (s : Int)) (p := ⟨g, o, none⟩) hag).drew n)
  have HST := Lib.hid hset
  have HXT := Lib.hid hxt
  clear hset hxt
  by_cases hq0 : q = 0
  · subst hq0
    have hc1 : (1 : Int) ≤ cz := by omega
    have hc2 : (1 : Int) ≤ cx := by omega
    have hc3 : (1 : Int) ≤ xs.length := by omega
    go_wp2_with fail
    go_quiet (fail)
    go_wp2_with fail
    go_still_tail 4, (by kernel_rfl)
    change wpList _ _ _ _ _ ((w.setCell ⟨g, o, none⟩ (.int .u64 (s : Int))).drewN nq).drew
    refine wpList_copy_words rfl _ _ 77 77 rfl 106 Tryz.underlying77 infoWordSize _ _ _ _ _ _ rfl rfl g (o + 1) (over zs o [s]) .u64 106 (HST.out.drew nq) (xs.drop 1) (by simp) (fun h => ⟨if_neg (by simp at h; omega), by rw [if_neg (by simp at h; omega)]; exact row_rd HRX.out HPRE.out hag HXT.out 1 hx0⟩) (by rw [over_length (by simp; omega)]; simp; omega) ?_
    intro w3 HG3 hx3 hs3
    go_wp2_with fail
    all_goals
      go_ret
      have hall := vw_all (outs := []) (k := 0) (v := s) rfl hl2 (by simp) hsw HXW.out
      have hov := over_over zs [s] (xs.drop 1) o (by simp; omega)
      have hg := HG3.out
      rw [show o + 1 = o + [s].length from rfl, hov] at hg
      refine ⟨0, [s] ++ xs.drop 1, rfl, by decide, hall.1, hall.2, hg, (HXT.out.drewN _).drew.trans hx3, by simpa [World.setCell, World.drewN] using hs3, ?_⟩
      show _ + _ = _ + _ * 0
      rw [Nat.mul_zero, Nat.add_zero]
      exact svw_done0 hl2 HX0.out hqs
  · obtain rfl : q = 1 := by omega
    clear hnq
    go_wp2_with fail
    go_loopw [9] (fun iv wr => VwRel w g o zs xs y SubL iv wr) (fun iv _ => idxOf xs.length iv)
    case atStart =>
      refine ⟨[s], rfl, by simp, by simpa using hx0, by simpa using hsw, HST.out, HXT.out, by simp [World.setCell], ?_⟩
      have e1 : xs.take [s].length = [x0] := by rw [List.length_singleton, List.take_one, List.head?_eq_getElem?, List.getElem?_eq_getElem hl2, HX0.out]; rfl
      rw [e1]
      show _ + _ = _ + _
      have e3 : ∀ d : Nat, valD 18446744073709551616 [d] = d := fun d => by simp [valD]
      have e4 : 18446744073709551616 ^ [s].length = 18446744073709551616 := rfl
      rw [e3, e3, e4]
      omega
    case round =>
      obtain ⟨outs, rfl, ho1, hol, how, hrow, hx, hsz, hval⟩ := hrel
      have HOW := Lib.hid how
      have HROW := Lib.hid hrow
      have HV := Lib.hid hval
      have HXX := Lib.hid hx
      clear how hval
      by_cases hlt : outs.length < xs.length
      · obtain ⟨k, hk⟩ : ∃ k, outs.length = k := ⟨_, rfl⟩
        have hcx2 := row_cell HRX.out HPRE.out hag hx hlt
        obtain ⟨xk, hxk⟩ : ∃ xk, xs[outs.length] = xk := ⟨_, rfl⟩
        have hxkw : xk < 18446744073709551616 := by rw [← hxk]; exact HXW.out _ (List.getElem_mem _)
        rw [hxk] at hcx2
        have hkl : k < xs.length := by omega
        have hxk2 : xs[k] = xk := by rw [← hxk]; simp only [hk]
        have hkl' : (k : Int) < xs.length := by omega
        have hk0 : (0 : Int) ≤ (k : Int) := by omega
        have fR2 := hrow.free (o + k)
        have hcR2 := hrow.cell (j := o + k) (by rw [over_length (by omega)]; omega)
        obtain ⟨old2, hold2⟩ : ∃ old, (over zs o outs)[o + k]'(by rw [over_length (by omega)]; omega) = old := ⟨_, rfl⟩
        rw [hold2] at hcR2
        have hset : ∀ v : Nat, Row (wr.setCell ⟨g, o + k, none⟩ (.int .u64 (v : Int))) g .u64 106 (over zs o (outs ++ [v])) := by
          intro v
          have e := over_set (zs := zs) (outs := outs) (o := o) (v := v) (by omega)
          rw [hk] at e
          rw [← e]
          exact HROW.out.set _ _
        have HSET := Lib.hid hset
        have HXK := Lib.hid hxk2
        have hxt2 : ∀ v : Value, Ext (fun b => b = g) w (wr.setCell ⟨g, o + k, none⟩ v) := fun v => Ext.setCell (D := fun b => b = g) (p := ⟨g, o + k, none⟩) hx (fun _ => rfl) _
        have HXT2 := Lib.hid hxt2
        rw [hk] at hcx2 ⊢
        have hv := HV.out
        rw [hk] at hv
        have HVV := Lib.hid hv
        have HK := Lib.hid hk
        clear hrow hset hxt2 hxk2 hxk hold2 hv hx
        by_cases hmax : xk = 0
        · have hmb : ((xk : Int) != 0) = false := by rw [hmax]; rfl
          have HMX := Lib.hid hmax
          clear hmax
          go_wp2_with fail
          refine ⟨⟨outs ++ [18446744073709551615], by rw [List.length_append, HK.out]; go_num, by simp, by simp; have := HK.out; omega, ?_, HSET.out 18446744073709551615, HXT2.out _, by simpa [World.setCell] using hsz, ?_⟩, by simp [idxOf]; have := HK.out; omega⟩
          · intro d hd
            rcases List.mem_append.1 hd with h | h
            · exact HOW.out d h
            · simp at h; omega
          · rw [List.length_append, HK.out]
            exact svw_go HK.out hkl HXK.out HMX.out HVV.out
        · have hmb : ((xk : Int) != 0) = true := by rw [bne_iff_ne]; omega
          obtain ⟨v, hvv⟩ : ∃ v : Nat, xk - 1 = v := ⟨_, rfl⟩
          have hvw : v < 18446744073709551616 := by omega
          have hvi : (xk : Int) - 1 = (v : Int) := by omega
          have hvr : IntKind.u64.wrap ((xk : Int) - 1) = (v : Int) := by rw [IntKind.wrap_u64]; omega
          have hb1 : (0 : Int) ≤ (xk : Int) - 1 := by omega
          have hnq := fun n => word_neq (o := o) (ox := ox) hag ((HSET.out v).drew n) ((HRX.out.ext2 (HXT2.out (.int .u64 (v : Int))) hag).drew n)
          obtain ⟨p, hp⟩ : ∃ p, k + 1 = p := ⟨_, rfl⟩
          have hp' : (k : Int) + 1 = p := by omega
          have hpw : IntKind.i64.wrap (p : Int) = p := by rw [IntKind.wrap_i64]; omega
          have hp0 : (0 : Int) ≤ (p : Int) := by omega
          have hp1 : (p : Int) ≤ xs.length := by omega
          have hp2 : (p : Int) ≤ cz := by omega
          have hp3 : (p : Int) ≤ cx := by omega
          have HP := Lib.hid hp
          have HVE := Lib.hid hvv
          clear hp hvv hmax
          go_wp2_with fail
          go_quiet (fail)
          go_wp2_with fail
          go_still_tail 8, (by kernel_rfl)
          change wpList _ _ _ _ _ ((wr.setCell ⟨g, o + k, none⟩ (.int .u64 (v : Int))).drewN nq).drew
          refine wpList_copy_words rfl _ _ 77 77 rfl 106 Tryz.underlying77 infoWordSize _ _ _ _ _ _ rfl rfl g (o + p) (over zs o (outs ++ [v])) .u64 106 ((HSET.out v).drew nq) (xs.drop p) (by simp) (fun h => ⟨if_neg (by simp at h; omega), by rw [if_neg (by simp at h; omega)]; exact row_rd HRX.out HPRE.out hag (HXT2.out _) p (by omega)⟩) (by rw [over_length (by simp; have := HK.out; omega)]; simp; omega) ?_
          intro w3 HG3 hx3 hs3
          have HB1 := Lib.hid hb1; clear hvi hvr hb1 hmb hnq hcx2
          go_wp2_with fail
          all_goals
            go_ret
            have hall := vw_all HK.out hkl HOW.out hvw HXW.out
            have hpl : p = (outs ++ [v]).length := by simp; have := HK.out; have := HP.out; omega
            have hov := over_over zs (outs ++ [v]) (xs.drop p) o (by rw [← hpl]; omega)
            have hg := HG3.out
            rw [← hpl] at hov
            rw [hov] at hg
            rw [HP.out] at hall
            have hfin := svw_stop (x := v) HK.out hkl (by rw [HXK.out]; have := HVE.out; have := HB1.out; omega) HVV.out
            rw [HP.out] at hfin
            refine ⟨0, outs ++ [v] ++ xs.drop p, rfl, by decide, hall.1, hall.2, hg, ((HXT2.out _).drewN _).drew.trans hx3, by rw [hs3]; simpa [World.setCell, World.drewN] using hsz, ?_⟩
            show _ + _ = _ + _ * 0
            rw [Nat.mul_zero, Nat.add_zero]; exact hfin
      · have hol2 : outs.length = xs.length := by omega
        have hlt' : ¬ (outs.length : Int) < xs.length := by omega
        have hv := HV.out
        rw [hol2, List.take_of_length_le (Nat.le_refl _)] at hv
        have HV2 := Lib.hid hv
        have HOL := Lib.hid hol2
        clear hv hol2 HV hrow hx
        go_wp2_with fail
        go_ret
        exact ⟨1, outs, rfl, by decide, HOL.out, HOW.out, HROW.out, HXX.out, hsz, by rw [Nat.mul_one]; exact HV2.out⟩

end Go.Proofs.YtapfolgiafnllaaGreatDoor

/-
  Products of lists of words, in plain numbers; the builtin clear over words.
-/
namespace Go.Proofs.YtapfolgiafnllaaGreatDoor
open Go.RowKit

theorem over_take {zs outs : List Nat} {o : Nat} (h : o ≤ zs.length) : (over zs o outs).take (o + outs.length) = zs.take o ++ outs := by
  have h1 : (zs.take o ++ outs).length = o + outs.length := by simp; omega
  unfold over
  rw [← h1, List.take_left]
theorem over_zero (zs outs : List Nat) (n : Nat) (h : outs.length = n) : (over zs 0 outs).take n = outs := by
  have := over_take (zs := zs) (outs := outs) (o := 0) (Nat.zero_le _)
  rw [Nat.zero_add, h] at this
  simpa using this
theorem over_high {zs outs : List Nat} {o j : Nat} (h : o + outs.length ≤ zs.length) (hj : o + outs.length ≤ j) : (over zs o outs)[j]? = zs[j]? := by
  have h1 : (zs.take o ++ outs).length = o + outs.length := by simp; omega
  unfold over
  rw [List.getElem?_append_right (by omega), h1, List.getElem?_drop]
  congr 1
  omega
/-- How far basicMul has come: i words of ys. -/
structure MulInv (xs ys T : List Nat) (i : Nat) : Prop where
  val : valD 18446744073709551616 (T.take (i + xs.length)) = valD 18446744073709551616 xs * valD 18446744073709551616 (ys.take i)
  zero : ∀ j, i + xs.length ≤ j → j < xs.length + ys.length → T[j]? = some 0
theorem mulInv_start (xs ys zs : List Nat) : MulInv xs ys (over zs 0 (List.replicate (xs.length + ys.length) 0)) 0 := by
  have h1 : (over zs 0 (List.replicate (xs.length + ys.length) 0)) = List.replicate (xs.length + ys.length) 0 ++ zs.drop (xs.length + ys.length) := by simp [over]
  refine ⟨?_, fun j _ hj2 => ?_⟩
  · rw [h1, Nat.zero_add, List.take_append_of_le_length (by simp), List.take_replicate, valD_replicate]
    simp [valD]
  · rw [h1, List.getElem?_append_left (by simpa using hj2), List.getElem?_replicate, if_pos hj2]
theorem mulInv_skip {xs ys T : List Nat} {i : Nat} (h : MulInv xs ys T i) (hi : i < ys.length) (hd : ys[i] = 0) : MulInv xs ys T (i + 1) := by
  refine ⟨?_, fun j h1 h2 => h.zero j (by omega) h2⟩
  have h0 := h.zero (i + xs.length) (Nat.le_refl _) (by omega)
  obtain ⟨hlt, h0⟩ := List.getElem?_eq_some_iff.1 h0
  rw [show i + 1 + xs.length = (i + xs.length) + 1 by omega, valD_take_succ hlt, h0, h.val, valD_take_succ hi, hd]
  simp
theorem mulInv_step {xs ys T outs : List Nat} {i c d : Nat} (h : MulInv xs ys T i) (hi : i < ys.length) (hd : ys[i] = d) (ho : outs.length = xs.length) (hT : xs.length + ys.length ≤ T.length)
    (hv : valD 18446744073709551616 outs + 18446744073709551616 ^ xs.length * c = valD 18446744073709551616 ((T.drop i).take xs.length) + valD 18446744073709551616 xs * d + 0) :
    MulInv xs ys (over T i (outs ++ [c])) (i + 1) := by
  have hl : (outs ++ [c]).length = xs.length + 1 := by simp [ho]
  refine ⟨?_, fun j h1 h2 => ?_⟩
  · rw [show i + 1 + xs.length = i + (outs ++ [c]).length by rw [hl]; omega, over_take (by omega), valD_append, valD_append, List.length_take, Nat.min_eq_left (by omega), ho]
    have e1 : valD 18446744073709551616 [c] = c := by simp [valD]
    rw [Nat.add_zero] at hv
    rw [e1, hv]
    have h3 := h.val
    rw [List.take_add, valD_append, List.length_take, Nat.min_eq_left (by omega)] at h3
    rw [valD_take_succ hi, hd]
    generalize valD 18446744073709551616 (T.take i) = A at *
    generalize valD 18446744073709551616 ((T.drop i).take xs.length) = S at *
    generalize valD 18446744073709551616 xs = Q at *
    generalize valD 18446744073709551616 (ys.take i) = U at *
    generalize 18446744073709551616 ^ i = P at *
    have e2 : P * (Q * d) = Q * (P * d) := Nat.mul_left_comm _ _ _
    rw [Nat.mul_add Q, ← h3, Nat.mul_add P, e2]
    omega
  · rw [over_high (by rw [hl]; omega) (by rw [hl]; omega)]
    exact h.zero j (by omega) h2
theorem mulInv_end {xs ys T : List Nat} (h : MulInv xs ys T ys.length) : valD 18446744073709551616 (T.take (xs.length + ys.length)) = valD 18446744073709551616 xs * valD 18446744073709551616 ys := by
  have := h.val
  rwa [List.take_of_length_le (Nat.le_refl _), Nat.add_comm] at this

theorem over_one {zs : List Nat} {o v : Nat} (h : o < zs.length) : zs.set o v = over zs o [v] := by
  have := over_set (zs := zs) (outs := []) (o := o) (v := v) (by simpa using h)
  rw [over_nil] at this
  simpa using this
theorem Row.setCells {g : Nat} {k : IntKind} {T : TypeId} : ∀ (vs : List Nat) (w : World) (zs : List Nat) (o : Nat), Row w g k T zs → o + vs.length ≤ zs.length → Row (w.setCells g o (nums k vs)) g k T (over zs o vs)
  | [], w, zs, o, h, _ => by rw [over_nil]; exact h
  | v :: r, w, zs, o, h, hl => by
    have hl2 : o + 1 + r.length ≤ zs.length := by simp at hl; omega
    have h1 := h.set o v
    rw [over_one (by omega)] at h1
    have hol := over_length (zs := zs) (outs := [v]) (o := o) (by simp; omega)
    have ih := Row.setCells r (w.setCell ⟨g, o, none⟩ (.int k (v : Int))) (over zs o [v]) (o + 1) h1 (by rw [hol]; exact hl2)
    have e := over_over zs [v] r o (by simp; omega)
    simp only [List.length_singleton, List.singleton_append] at e
    rw [e] at ih
    exact ih
theorem ext_setCells {g : Nat} {w0 : World} : ∀ (vs : List Value) (o : Nat) (w : World), Ext (fun b => b = g) w0 w → Ext (fun b => b = g) w0 (w.setCells g o vs)
  | [], _, _, h => h
  | v :: r, o, _w, h => ext_setCells r (o + 1) _ (h.setCell (p := ⟨g, o, none⟩) (fun _ => rfl) v)
theorem size_setCells {g : Nat} : ∀ (vs : List Value) (o : Nat) (w : World), (w.setCells g o vs).heap.size = w.heap.size
  | [], _, _ => rfl
  | v :: r, o, w => by
    have := size_setCells (g := g) r (o + 1) (w.setCell ⟨g, o, none⟩ v)
    rw [World.setCells, this]
    simp [World.setCell]
set_option maxRecDepth 100000 in
theorem zeroW (w : World) : (zeroValue 106).run Tryz.prog w = .ok (.int .u64 0) w := by
  obtain ⟨i, hi, hz⟩ := Option.map_eq_some_iff.1 infoWord
  have hz1 : i.zero = some (.int .u64 0) := congrArg (fun p => p.1) hz
  simp [zeroValue, typeInfo, hi, hz1]
set_option maxRecDepth 100000 in
/-- clear(z[0:n]) over a row of words. -/
theorem clear_words {w : World} {g n c : Nat} {zs : List Nat} {t ty : TypeId} (hrow : Row w g .u64 106 zs) (ht : Tryz.prog.underlying t = some (.slice 106)) (hn : 0 < n) (hz : n ≤ zs.length) :
    (Builtin.clear_ #[t] ty #[.slice (some ⟨g, 0, none⟩) n c]).run Tryz.prog w = .ok (.tuple #[]) (w.setCells g 0 (nums .u64 (List.replicate n 0))) := by
  have h := Lib.run_clear_slice (P := Tryz.prog) w t 106 ty (.int .u64 0) ht zeroW rfl rfl g 0 n c hn (fun j hj => by rw [Nat.zero_add, hrow.cell (by omega)]; rfl) (fun j hj => by rw [Nat.zero_add]; exact hrow.free j)
  have e : List.replicate n (Value.int .u64 0) = nums .u64 (List.replicate n 0) := by simp [nums]
  rw [h, e]
end Go.Proofs.YtapfolgiafnllaaGreatDoor

/-
  Long division of lists of words: what a digit's step leaves.
-/
namespace Go.Proofs.YtapfolgiafnllaaGreatDoor

theorem over_getElem? {zs outs : List Nat} {o : Nat} (h : o + outs.length ≤ zs.length) (i : Nat) : (over zs o outs)[i]? = if i < o then zs[i]? else if i < o + outs.length then outs[i - o]? else zs[i]? := by
  have h1 : (zs.take o).length = o := by rw [List.length_take]; omega
  unfold over
  rw [List.append_assoc]
  by_cases hi : i < o
  · rw [if_pos hi, List.getElem?_append_left (by omega), List.getElem?_take, if_pos hi]
  · rw [if_neg hi, List.getElem?_append_right (by omega), h1]
    by_cases hj : i < o + outs.length
    · rw [if_pos hj, List.getElem?_append_left (by omega)]
    · rw [if_neg hj, List.getElem?_append_right (by omega), List.getElem?_drop]
      congr 1
      omega
/-- A part that is written twice, then its last word. -/
theorem over_again {zs outs outs2 : List Nat} {o a v : Nat} (h : o + outs.length ≤ zs.length) (h1 : outs.length = a + 1) (h2 : outs2.length = a) : (over (over zs o outs) o outs2).set (o + a) v = over zs o (outs2 ++ [v]) := by
  have hl : (over zs o outs).length = zs.length := over_length h
  have hl2 : (over (over zs o outs) o outs2).length = zs.length := (over_length (by omega)).trans hl
  apply List.ext_getElem?
  intro i
  rw [List.getElem?_set, over_getElem? (zs := zs) (outs := outs2 ++ [v]) (by simp; omega), over_getElem? (zs := over zs o outs) (by omega), over_getElem? h]
  simp only [List.length_append, List.length_singleton, h1, h2, hl2]
  by_cases hi : i < o
  · rw [if_neg (by omega), if_pos hi, if_pos hi, if_pos hi]
  · by_cases hj : i = o + a
    · subst hj
      rw [if_pos rfl, if_pos (by omega), if_neg hi, if_pos (by omega), show o + a - o = a by omega, List.getElem?_append_right (by omega), h2, Nat.sub_self]
      rfl
    · rw [if_neg (by omega), if_neg hi, if_neg hi, if_neg hi]
      by_cases hk : i < o + a
      · rw [if_pos hk, if_pos (by omega), List.getElem?_append_left (by omega)]
      · rw [if_neg hk, if_neg (by omega), if_neg (by omega)]
/-- A part that is written twice. -/
theorem over_twice {zs outs outs2 : List Nat} {o : Nat} (h : o + outs.length ≤ zs.length) (h2 : outs2.length = outs.length) : over (over zs o outs) o outs2 = over zs o outs2 := by
  have hl : (over zs o outs).length = zs.length := over_length h
  apply List.ext_getElem?
  intro i
  rw [over_getElem? (zs := over zs o outs) (by omega), over_getElem? (zs := zs) (outs := outs2) (by omega), over_getElem? h, h2]
  by_cases hi : i < o
  · rw [if_pos hi, if_pos hi, if_pos hi]
  · rw [if_neg hi, if_neg hi, if_neg hi]
    by_cases hj : i < o + outs.length
    · rw [if_pos hj, if_pos hj]
    · rw [if_neg hj, if_neg hj, if_neg hj]
theorem over_val {zs outs : List Nat} {o : Nat} (h : o + outs.length ≤ zs.length) : valD 18446744073709551616 (over zs o outs) + 18446744073709551616 ^ o * valD 18446744073709551616 ((zs.drop o).take outs.length) = valD 18446744073709551616 zs + 18446744073709551616 ^ o * valD 18446744073709551616 outs := by
  have h1 := valD_take_drop zs o (by omega)
  have h2 := valD_take_drop (zs.drop o) outs.length (by rw [List.length_drop]; omega)
  have h3 : valD 18446744073709551616 (over zs o outs) = valD 18446744073709551616 (zs.take o) + 18446744073709551616 ^ o * (valD 18446744073709551616 outs + 18446744073709551616 ^ outs.length * valD 18446744073709551616 ((zs.drop o).drop outs.length)) := by
    unfold over
    rw [List.append_assoc, valD_append, valD_append, List.length_take, Nat.min_eq_left (by omega), List.drop_drop]
  rw [h3, h1, h2]
  generalize 18446744073709551616 ^ o = P
  rw [Nat.mul_add, Nat.mul_add]
  omega
/-- The guess is right: nothing is borrowed. -/
theorem step_clean {S V q O : Nat} (hV : 0 < V) (h1 : S / V ≤ q) (hv : O + q * V = S) : q = S / V ∧ O = S % V := by
  obtain ⟨e1, e2⟩ := guess_right (U := S) hV h1 (by omega)
  exact ⟨e1, by omega⟩
theorem split_uniq {P R X a b : Nat} (hP : P < X) (hR : R < X) (h : P + X * a = R + X * b) : P = R ∧ a = b := by
  have h1 := congrArg (· % X) h
  simp only [Nat.add_mul_mod_self_left, Nat.mod_eq_of_lt hP, Nat.mod_eq_of_lt hR] at h1
  subst h1
  exact ⟨rfl, Nat.eq_of_mul_eq_mul_left (show 0 < X by omega) (by omega)⟩
/-- The guess is one too great: the divisor is added back. -/
theorem step_back {S V q Ol Oh P c2 X b : Nat} (hV : 0 < V) (hVX : V ≤ X) (h2 : q ≤ S / V + 1) (hv : Ol + X * Oh + q * V = S + X * b) (hOl : Ol < X) (hOh : Oh < b) (hP : P < X) (hpv : P + X * c2 = Ol + V) : q = S / V + 1 ∧ P = S % V ∧ Oh + c2 = b := by
  have hO : Ol + X * Oh < X * b := by
    have := Nat.mul_le_mul_left X (show Oh + 1 ≤ b from hOh)
    rw [Nat.mul_add, Nat.mul_one] at this
    omega
  obtain ⟨e1, e2, e3⟩ := guess_over (U := S) (V := V) h2 (by omega)
  have hR := Nat.mod_lt S hV
  have h4 : P + X * (c2 + Oh) = S % V + X * b := by rw [Nat.mul_add]; omega
  obtain ⟨e5, e6⟩ := split_uniq hP (by omega) h4
  exact ⟨e1, e5, by omega⟩
/-- The step's end, in numbers. -/
theorem db_step {U U' T V Q R S j D : Nat} (hS : U = T + 18446744073709551616 ^ j * S) (hu : U' + 18446744073709551616 ^ j * S = U + 18446744073709551616 ^ j * R) (hQR : S = V * Q + R) (hR : R < V) (hlow : T < 18446744073709551616 ^ j) :
    U' < V * 18446744073709551616 ^ j ∧ U' + V * (18446744073709551616 ^ j * (Q + 18446744073709551616 * D)) = U + V * (18446744073709551616 ^ (j + 1) * D) := by
  rw [Nat.pow_succ]
  generalize 18446744073709551616 ^ j = P at *
  have h1 : P * (R + 1) ≤ P * V := Nat.mul_le_mul_left _ hR
  rw [Nat.mul_add, Nat.mul_one] at h1
  have h2 : P * S = P * (V * Q) + P * R := by rw [hQR, Nat.mul_add]
  have h3 : V * (P * (Q + 18446744073709551616 * D)) = P * (V * Q) + V * (P * 18446744073709551616 * D) := by
    rw [Nat.mul_add P, Nat.mul_add V, Nat.mul_left_comm V P Q, Nat.mul_assoc P]
  rw [h3, Nat.mul_comm V P]
  exact ⟨by omega, by omega⟩
theorem valD_zero_end (us : List Nat) : valD 18446744073709551616 (us ++ [0]) = valD 18446744073709551616 us := by
  rw [valD_append]
  simp [valD]
end Go.Proofs.YtapfolgiafnllaaGreatDoor
