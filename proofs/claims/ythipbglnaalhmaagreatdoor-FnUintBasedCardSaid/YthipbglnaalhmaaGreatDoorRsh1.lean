/-
  slices.Reverse, rshVU, (nat).rsh of one word.
-/
import Derived.Test.YthipbglnaalhmaaGreatDoorSetStr
import Derived.Test.YthipbglnaalhmaaGreatDoorOver
namespace Go.Proofs.YthipbglnaalhmaaGreatDoor
open Go.RowKit

set_option maxRecDepth 100000 in
set_option maxHeartbeats 1000000 in
theorem reverse1_walk (A : Option Addr) (c : Nat) (w : World) :
    Calls Tryz.prog 213 #[.slice A 1 c] w fun e w' => e = .returned (.tuple #[]) ∧ w' = w := by
  go_enter Tryz.func213, Tryz.ntmps213
  go_wp2_with fail
  go_loopw [2, 3] (fun i j wr => i = .int .i64 0 ∧ j = .int .i64 0 ∧ wr = w) (fun _ _ _ => 0)
  case atStart => exact ⟨rfl, rfl, rfl⟩
  case round =>
    obtain ⟨rfl, rfl, rfl⟩ := hrel
    go_wp2_with fail
    go_end0
    exact ⟨rfl, rfl⟩

theorem mask63 (n : Nat) (h : n < 64) : bits BinOp.and IntKind.u64 (n : Int) 63 = (n : Int) := by
  have h1 := bits_mask .u64 63 (by decide) (fun n h0 h1 => by rw [IntKind.wrap_u64]; omega) 6 (by decide) (n : Int) (by omega) (by omega)
  have e : ((2 : Int) ^ 6 - 1) = 63 := by decide
  have e2 : ((2 : Int) ^ 6) = 64 := by decide
  rw [e, e2] at h1
  rw [h1]
  omega
set_option maxRecDepth 100000 in
set_option maxHeartbeats 1000000 in
theorem rshVU1_walk (g c W s : Nat) (zs : List Nat) (w : World) (hrow : Row w g .u64 150 zs) (hz : zs[0]? = some W) (hs : 1 ≤ s) (hs2 : s < 64) (_hW : W < 18446744073709551616) :
    Calls Tryz.prog 260 #[.slice (some ⟨g, 0, none⟩) 1 c, .slice (some ⟨g, 0, none⟩) 1 c, .int .u64 s] w fun e w' => ∃ cc, e = .returned (.int .u64 cc) ∧ w' = w.setCell ⟨g, 0, none⟩ (.int .u64 ((W / 2 ^ s : Nat) : Int)) := by
  have hlen : 0 < zs.length := by
    rcases Nat.eq_zero_or_pos zs.length with h | h
    · rw [List.eq_nil_of_length_eq_zero h] at hz; simp at hz
    · exact h
  have hW0 : zs[0] = W := by rw [List.getElem?_eq_getElem hlen] at hz; exact Option.some.inj hz
  have c0 : w.cell? ⟨g, 0, none⟩ = some (.int .u64 W) := by rw [hrow.cell hlen, hW0]
  have f0 := hrow.free 0
  have hsb : ((s : Int) == 0) = false := beq_eq_false_iff_ne.2 (by omega)
  have hs1 : (1 : Int) ≤ s := by omega
  have hs3 : (s : Int) < 64 := by omega
  have hm1 := mask63 s hs2
  obtain ⟨t, ht⟩ : ∃ t, 64 - s = t := ⟨_, rfl⟩
  have hm2 := mask63 t (by omega)
  have hts : (64 : Int) - s = (t : Int) := by omega
  have ht0 : (0 : Int) ≤ t := by omega
  have ht1 : (t : Int) < 64 := by omega
  have hdv : (W : Int) / 2 ^ s = ((W / 2 ^ s : Nat) : Int) := by simp
  have HDV := Lib.hid hdv
  clear hrow hz hdv
  go_enter Tryz.func260, Tryz.ntmps260
  go_wp2_with fail
  go_loopw [8] (fun i wr => i = .int .i64 1 ∧ wr = w) (fun _ _ => 0)
  case atStart => exact ⟨rfl, rfl⟩
  case round =>
    obtain ⟨rfl, rfl⟩ := hrel
    go_wp2_with fail
    go_ret
    exact ⟨_, rfl, by rw [← HDV.out]⟩
set_option maxRecDepth 100000 in
set_option maxHeartbeats 1000000 in
theorem rshVU_walk (g c W s : Nat) (zs : List Nat) (w : World) (hrow : Row w g .u64 150 zs) (hz : zs[0]? = some W) (hs : 1 ≤ s) (hs2 : s < 64) (hW : W < 18446744073709551616) :
    Calls Tryz.prog 240 #[.slice (some ⟨g, 0, none⟩) 1 c, .slice (some ⟨g, 0, none⟩) 1 c, .int .u64 s] w fun e w' => ∃ cc, e = .returned (.int .u64 cc) ∧ w' = w.setCell ⟨g, 0, none⟩ (.int .u64 ((W / 2 ^ s : Nat) : Int)) := by
  have HR := Lib.hid (rshVU1_walk g c W s zs w hrow hz hs hs2 hW)
  clear hrow hz
  go_enter Tryz.func240, Tryz.ntmps240
  go_wp2_with fail
  refine HR.out.mono ?_
  rintro e w1 ⟨cc, rfl, rfl⟩
  go_wp2_with fail
  go_ret
  exact ⟨_, rfl, rfl⟩
theorem wds_row1 {W : Nat} (h : W < 18446744073709551616) (r : List Nat) : ∃ r2, [W] ++ r = wds W ++ r2 := by
  by_cases h0 : W = 0
  · exact ⟨[W] ++ r, by rw [h0, wds_zero]; rfl⟩
  · exact ⟨r, by rw [wds_one h0 h]⟩
theorem trim_row1 {W : Nat} (h : W < 18446744073709551616) : trimN [W] = wds W := by
  by_cases hq : W = 0
  · rw [hq, wds_zero]; rfl
  · rw [wds_one hq h]; simp [trimN, hq]
theorem row1_rd {w : World} {g W : Nat} {r : List Nat} (h : Row w g .u64 150 ([W] ++ r)) : Rd w (some ⟨g, 0, none⟩) (nums .u64 [W]) := by
  have := (h.rd 0).take 1
  simpa [nums] using this
set_option maxRecDepth 100000 in
set_option maxHeartbeats 1000000 in
theorem rshB_walk (B g c W s : Nat) (r : List Nat) (w : World) (hrow : Row w g .u64 150 ([W] ++ r)) (hc : 1 ≤ c) (hc2 : c ≤ 9223372036854775807) (hB : B ≤ g) (hW : W < 18446744073709551616) (hs : 1 ≤ s) (hs2 : s < 64) :
    Calls Tryz.prog 214 #[.slice (some ⟨g, 0, none⟩) (wds W).length c, .slice (some ⟨g, 0, none⟩) (wds W).length c, .int .u64 s] w fun e w' => e = .returned (.slice (some ⟨g, 0, none⟩) (wds (W / 2 ^ s)).length c) ∧ Row w' g .u64 150 ([W / 2 ^ s] ++ r) ∧ Below B w w' := by
  have hsb : ((s : Int) == 0) = false := beq_eq_false_iff_ne.2 (by omega)
  have hs1 : (1 : Int) ≤ s := by omega
  have hs3 : (s : Int) < 64 := by omega
  have hd : (s : Int) / 64 = 0 := by omega
  have hm : (s : Int) % 64 = s := by omega
  have hzc : (1 : Int) ≤ c := by omega
  have hzc2 : (c : Int) ≤ 9223372036854775807 := by omega
  by_cases h0 : W = 0
  · subst h0
    have hz : 0 / 2 ^ s = 0 := Nat.zero_div _
    have H := Lib.hid hrow
    rw [wds_zero, hz, wds_zero]
    clear hrow hz
    go_enter Tryz.func214, Tryz.ntmps214
    go_wp2_with fail
    go_ret
    exact ⟨rfl, H.out, Below.refl _ _⟩
  · have e := wds_one h0 hW
    rw [e]
    have HM := Lib.hid (make_room_walk (some ⟨g, 0, none⟩) 1 c 1 w hc hc2 hc)
    have HS := Lib.hid (rshVU_walk g c W s ([W] ++ r) w hrow rfl hs hs2 hW)
    have hrow2 := hrow.set 0 (W / 2 ^ s)
    have hlt : W / 2 ^ s < 18446744073709551616 := Nat.lt_of_le_of_lt (Nat.div_le_self _ _) hW
    have hn := norm_walk (some ⟨g, 0, none⟩) c [W / 2 ^ s] _ (by simpa using hc) hc2 (row1_rd hrow2)
    rw [trim_row1 hlt] at hn
    have HN := Lib.hid hn
    have HO := Lib.hid hrow2
    obtain ⟨q, hq⟩ : ∃ q, W / 2 ^ s = q := ⟨_, rfl⟩
    rw [hq] at HS HN HO ⊢
    clear hrow hrow2 hn e hq hlt
    go_enter Tryz.func214, Tryz.ntmps214
    go_wp2_with fail
    refine HM.out.mono ?_
    rintro e w1 ⟨rfl, rfl⟩
    go_wp2_with fail
    refine HS.out.mono ?_
    rintro e w2 ⟨cc, rfl, rfl⟩
    go_wp2_with fail
    refine HN.out.mono ?_
    rintro e w3 ⟨rfl, rfl⟩
    go_wp2_with fail
    go_ret
    exact ⟨rfl, HO.out, (Below.refl _ _).setCell (p := ⟨g, 0, none⟩) hB _⟩
theorem word_cells (W n : Nat) : (#[Value.int .u64 (W : Int)] ++ Builtin.zeroCells (Value.int .u64 0).cells n) = (nums .u64 ([W] ++ List.replicate n 0)).toArray := by
  apply Array.ext'
  simp [Builtin.zeroCells, nums, Value.cells]
  apply List.ext_getElem (by simp)
  intro i h1 h2
  simp [Nat.mod_one]
/-- A word is put behind none: what append makes. -/
theorem wpList_append_word {ops : Array Oper} {rest : List Oper} {o : Oper} {a : Act} {Q : Exit → Act → World → Prop} (hgd : o.guard = none) (s x : Operand) (t : TypeId) (ho : o.op = .call { callee := .builtin .append, args := #[s, x], argTypes := #[t, t] })
    (w : World) (ht : Tryz.prog.underlying t = some (.slice 150)) (hs : a.eval s = .slice none 0 0) (ad : Addr) (c W : Nat) (hx : a.eval x = .slice (some ad) 1 c) (hc : w.cell? (ad.add 0) = some (.int .u64 (W : Int)))
    (h : ∀ (w' : World) (cap : Nat) (r : List Nat), 1 ≤ cap → cap ≤ 9223372036854775807 → Row w' w.heap.size .u64 150 ([W] ++ r) → Below w.heap.size w w' → wpList Tryz.prog ops Q rest (a.put o.dst (.slice (some ⟨w.heap.size, 0, none⟩) 1 cap)) w') : wpList Tryz.prog ops Q (o :: rest) a w := by
  obtain ⟨i, hi, hz0, hz1, hz2⟩ := info_parts infoWord
  refine wpList_plain hgd fun K hK => ?_
  have hr := run_append_nil (P := Tryz.prog) w t o.type 150 i (.int .u64 0) ht hi hz0 ad 1 c [.int .u64 (W : Int)] (by rw [hz1]; rfl) (fun j u hu => by
    match j, hu with
    | 0, hu => simp at hu; subst hu; exact hc
    | j + 1, hu => simp at hu) (by decide) (by decide) (by rw [hz2]; decide)
  unfold Oper.wp execOp
  simp only [ho, resolve, invoke, builtin, Sem.run_bind, Sem.run_pure, Result.andThen_ok, List.map_toArray, List.map_cons, List.map_nil, hs, hx, hr]
  refine hK _ _ (h _ (grownCap w 1 0 150) (List.replicate (grownCap w 1 0 150 - 1) 0) (grownCap_ge w 1 0 _) (by have := grownCap_le_maxLen w 1 0 150 (by decide); unfold maxLen at this; omega) ?_ ?_)
  · unfold Row
    rw [← word_cells]
    exact heap_here w.drew _
  · exact (Below.refl w.heap.size w).drew.alloc (Nat.le_refl _) _
end Go.Proofs.YthipbglnaalhmaaGreatDoor
