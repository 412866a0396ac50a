/-
  Slices of bytes that a call owns; (*big.Int).Append, AppendText, MarshalText; zzMarshal.
-/
import Derived.Test.YtiohlcfdoleooaaGreatDoorIntStr
import Derived.Deep.RegionWith
import Derived.Deep.RegionLaw
namespace Go.Proofs.YtiohlcfdoleooaaGreatDoor
open Go.RowKit

/-- v is a slice of the bytes l. -/
def Byt (w : World) (v : Value) (l : List UInt8) : Prop := ∃ b o c, v = .slice (some ⟨b, o, none⟩) l.length c ∧ l.length ≤ c ∧ c ≤ 9223372036854775807 ∧ b < w.heap.size ∧ ∀ j (h : j < l.length), w.cell? ⟨b, o + j, none⟩ = some (.int .u8 (l[j].toNat : Int))
theorem Byt.below {w w' : World} {v : Value} {l : List UInt8} (h : Byt w v l) (hb : Below w.heap.size w w') : Byt w' v l := by
  obtain ⟨b, o, c, h1, h2, h3, h4, h5⟩ := h
  exact ⟨b, o, c, h1, h2, h3, Nat.lt_of_lt_of_le h4 hb.size, fun j hj => (hb.cell (by exact h4)).trans (h5 j hj)⟩
/-- v is a slice of the bytes l, in a block from B on. -/
def OwnB (B : Nat) (w : World) (v : Value) (l : List UInt8) : Prop := w.ownsRow B 5 1 v l.length (Lib.byteCells l)
theorem OwnB.byt {B : Nat} {w : World} {v : Value} {l : List UInt8} (h : OwnB B w v l) (hl : l ≠ []) : Byt w v l := by
  have hc := fun g (hg : v.ownBlock = some g) => World.ownsRow.cells h hg
  rcases h.2 with ⟨_, h0⟩ | ⟨g, cap, cur, rfl, _, hg, h1, h2, _⟩
  · exact absurd (List.length_eq_zero_iff.1 h0) hl
  · refine ⟨g, 0, cap, rfl, h1, h2, iter_lt hg, fun j hj => ?_⟩
    have := hc g rfl j (.int .u8 (l[j].toNat : Int)) (by simp [Lib.byteCells, hj])
    rwa [add_off] at this
theorem OwnB.nil (B : Nat) (w : World) : OwnB B w (.slice none 0 0) [] := World.ownsRow_nil _ _ _ _
theorem OwnB.below {B : Nat} {w w' : World} {v : Value} {l : List UInt8} (h : OwnB B w v l) (hb : Below w.heap.size w w') : OwnB B w' v l := by
  refine ⟨h.1, ?_⟩
  rcases h.2 with h0 | ⟨g, cap, cur, h1, h2, h3, h4⟩
  · exact .inl h0
  · exact .inr ⟨g, cap, cur, h1, h2, (hb.block g (iter_lt h3)).trans h3, h4⟩
theorem OwnB.weak {B C : Nat} {w : World} {v : Value} {l : List UInt8} (h : OwnB C w v l) (hB : B ≤ C) : OwnB B w v l := by
  refine ⟨h.1, ?_⟩
  rcases h.2 with h0 | ⟨g, cap, cur, h1, h2, h3⟩
  · exact .inl h0
  · exact .inr ⟨g, cap, cur, h1, Nat.le_trans hB h2, h3⟩
theorem OwnB.lit {B : Nat} (w : World) (l : List UInt8) (cs : Array Value) (n : Nat) (hB : B ≤ w.heap.size) (hcs : cs = (Lib.byteCells l).toArray) (hn : n = l.length) (hm : n ≤ 1000) : OwnB B (w.alloc (.cells cs 5)) (.slice (some ⟨w.heap.size, 0, none⟩) n n) l := by
  subst hcs hn
  refine ⟨by simp [Lib.byteCells], .inr ⟨w.heap.size, l.length, _, rfl, hB, heap_here _ _, Nat.le_refl _, by unfold maxLen; omega, by simp [Lib.byteCells], List.take_of_length_le (by simp [Lib.byteCells])⟩⟩
/-- append(s, x...), s a slice that the call owns, x bytes. -/
theorem wpList_append_bytes {w : World} {ops : Array Oper} {rest : List Oper} {o : Oper} {a : Act} {Q : Exit → Act → World → Prop} (hgd : o.guard = none) (s x : Operand)
    (ho : o.op = .call { callee := .builtin .append, args := #[s, x], argTypes := #[22, 22] }) (v : Value) (xs : List UInt8) (hs : a.eval s = v) (B : Nat) (hown : OwnB B w v xs) (hB : B ≤ w.heap.size)
    (l : List UInt8) (u : Value) (hx : a.eval x = u) (hbyt : Byt w u l) (hlen : xs.length + l.length ≤ 1000000)
    (h : ∀ v' w', Hid (OwnB B w' v' (xs ++ l)) → Hid (Below B w w') → wpList Tryz.prog ops Q rest (a.put o.dst v') w') : wpList Tryz.prog ops Q (o :: rest) a w := by
  obtain ⟨i0, hi, hz0, hz1, hz2⟩ := info_parts infoByte
  obtain ⟨b, off, c, rfl, hc1, hc2, hb, hcell⟩ := hbyt
  refine wpList_append_own _ hgd s x 22 ho B 5 i0 (.int .u8 0) 1 1 Tryz.underlying22 hi hz0 hz1 hz2 rfl (by decide) v xs.length (Lib.byteCells xs) hs hown ⟨b, off, none⟩ l.length c (Lib.byteCells l) hx (by simp [Lib.byteCells]) ?_ ?_ (by unfold maxLen; omega) (by omega) hB ?_
  · intro j k hk
    simp only [Lib.byteCells, List.getElem?_map, Option.map_eq_some_iff] at hk
    obtain ⟨d, hd, rfl⟩ := hk
    obtain ⟨hlt, rfl⟩ := List.getElem?_eq_some_iff.1 hd
    rw [add_off]
    exact hcell j hlt
  · intro k hk
    simp only [Lib.byteCells, List.mem_map] at hk
    obtain ⟨d, _, rfl⟩ := hk
    rfl
  · intro v' w' hown' hgrow _
    refine h v' w' (Lib.hid ?_) (Lib.hid ((Below.refl B w).grown hgrow hB (fun k hk => (World.ownsRow.lt hown k hk).1)))
    unfold OwnB
    rw [List.length_append]
    simpa [Lib.byteCells] using hown'
/-- The same at a step of a region that draws its order. -/
theorem step_append_bytes {w : World} {ops : Array Oper} {o : Oper} {a : Act} {K : Act → World → Prop} {Q : Exit → Act → World → Prop} {E : Prop} (hgd : o.guard = none) (s x : Operand)
    (ho : o.op = .call { callee := .builtin .append, args := #[s, x], argTypes := #[22, 22] }) (v : Value) (xs : List UInt8) (hs : a.eval s = v) (B : Nat) (hown : OwnB B w v xs) (hB : B ≤ w.heap.size)
    (l : List UInt8) (u : Value) (hx : a.eval x = u) (hbyt : Byt w u l) (hlen : xs.length + l.length ≤ 1000000)
    (h : ∀ v' w', Hid (OwnB B w' v' (xs ++ l)) → Hid (Below B w w') → K (a.put o.dst v') w') : if Region.wanted o (yielded ops a.tmps) = true then Oper.wp Tryz.prog o a w K Q else E := by
  have hw : Region.wanted o (yielded ops a.tmps) = true := by simp [Region.wanted, hgd]
  rw [if_pos hw]
  obtain ⟨i0, hi, hz0, hz1, hz2⟩ := info_parts infoByte
  obtain ⟨b, off, c, rfl, hc1, hc2, hb, hcell⟩ := hbyt
  refine wp_append_own _ s x 22 ho B 5 i0 (.int .u8 0) 1 1 Tryz.underlying22 hi hz0 hz1 hz2 rfl (by decide) v xs.length (Lib.byteCells xs) hs hown ⟨b, off, none⟩ l.length c (Lib.byteCells l) hx (by simp [Lib.byteCells]) ?_ ?_ (by unfold maxLen; omega) (by omega) hB ?_
  · intro j k hk
    simp only [Lib.byteCells, List.getElem?_map, Option.map_eq_some_iff] at hk
    obtain ⟨d, hd, rfl⟩ := hk
    obtain ⟨hlt, rfl⟩ := List.getElem?_eq_some_iff.1 hd
    rw [add_off]
    exact hcell j hlt
  · intro k hk
    simp only [Lib.byteCells, List.mem_map] at hk
    obtain ⟨d, _, rfl⟩ := hk
    rfl
  · intro v' w' hown' hgrow _
    refine h v' w' (Lib.hid ?_) (Lib.hid ((Below.refl B w).grown hgrow hB (fun k hk => (World.ownsRow.lt hown k hk).1)))
    unfold OwnB
    rw [List.length_append]
    simpa [Lib.byteCells] using hown'
/-- append(s, x...), s a slice that the call owns, x a text. -/
theorem wpList_append_text {w : World} {ops : Array Oper} {rest : List Oper} {o : Oper} {a : Act} {Q : Exit → Act → World → Prop} (hgd : o.guard = none) (s x : Operand)
    (ho : o.op = .call { callee := .builtin .append, args := #[s, x], argTypes := #[22, 9] }) (v : Value) (xs : List UInt8) (hs : a.eval s = v) (B : Nat) (hown : OwnB B w v xs) (hB : B ≤ w.heap.size)
    (l : List UInt8) (hx : a.eval x = .string (S l)) (hlen : xs.length + l.length ≤ 1000000)
    (h : ∀ v' w', Hid (OwnB B w' v' (xs ++ l)) → Hid (Below B w w') → wpList Tryz.prog ops Q rest (a.put o.dst v') w') : wpList Tryz.prog ops Q (o :: rest) a w := by
  obtain ⟨i0, hi, hz0, hz1, hz2⟩ := info_parts infoByte
  have hsz : (S l).size = l.length := by simp [S, ByteArray.size]
  refine Lib.wpList_append_own_string _ hgd s x 22 9 ho B 5 i0 Tryz.underlying22 Tryz.underlying9 hi hz0 hz1 hz2 v xs.length (Lib.byteCells xs) hs hown (S l) hx (by unfold maxLen; rw [hsz]; omega) (by rw [hsz]; omega) hB ?_
  intro v' w' hown' hgrow _
  refine h v' w' (Lib.hid ?_) (Lib.hid ((Below.refl B w).grown hgrow hB (fun k hk => (World.ownsRow.lt hown k hk).1)))
  unfold OwnB
  rw [List.length_append]
  rw [hsz, Lib.strCells_eq] at hown'
  simpa [Lib.byteCells, S] using hown'

theorem zText_ne (z : Int) : zText z ≠ [] := by
  unfold zText numText
  split
  · simp
  · rename_i h
    intro e
    have := congrArg List.length e
    simp at this
    exact h this.2
set_option exponentiation.threshold 400 in
theorem zText_len {z : Int} (h : natLen z.natAbs ≤ 320) : (zText z).length ≤ 900 := by
  have h1 := (natLen_lt_iff z.natAbs 320).1 h
  have h2 : (toD 10 z.natAbs).length ≤ 100 := toD_length_le (by decide) 100 _ (Nat.lt_of_lt_of_le h1 (by decide))
  unfold zText numText signText
  split
  · simp
  · rw [List.length_append, List.length_map, List.length_reverse]
    split <;> simp <;> omega
theorem rd_byt {w : World} {g o c : Nat} {l : List UInt8} (h : Rd w (some ⟨g, o, none⟩) (Lib.byteCells l)) (hl : l ≠ []) (h1 : l.length ≤ c) (h2 : c ≤ 1000) : Byt w (.slice (some ⟨g, o, none⟩) l.length c) l := by
  rcases h with h | ⟨a, ha, h⟩
  · exact absurd (by simpa [Lib.byteCells] using h) hl
  · cases ha
    have h3 : ∀ j (hj : j < l.length), w.cell? ⟨g, o + j, none⟩ = some (.int .u8 (l[j].toNat : Int)) := fun j hj => by
      have := h j (.int .u8 (l[j].toNat : Int)) (by simp [Lib.byteCells, hj])
      rwa [add_off] at this
    have h0 : 0 < l.length := List.length_pos_iff.2 hl
    exact ⟨g, o, c, rfl, h1, by omega, World.block_lt_of_cell? w _ (h3 0 h0), h3⟩

set_option maxRecDepth 100000 in
set_option maxHeartbeats 1000000 in
theorem intAppend_walk (g : Nat) (z : Int) (w : World) (hz : IntAt w g z) (hl : natLen z.natAbs ≤ 320) (hleaf : LeafIs w) :
    Calls Tryz.prog 196 #[.pointer (some ⟨g, 0, none⟩), .slice none 0 0, .int .i64 10] w fun e w' => ∃ v, e = .returned v ∧ OwnB w.heap.size w' v (zText z) ∧ Below w.heap.size w w' := by
  obtain ⟨A, c, hk, h2, h3, h4⟩ := hz
  have c0 := num_cell0 hk
  have c1 := num_cell1 hk
  have HI := Lib.hid (itoa_walk z A c w.drew h2 h3 hl h4.rd hleaf)
  have hne := zText_ne z
  obtain ⟨l, hzl⟩ : ∃ l, zText z = l := ⟨_, rfl⟩
  rw [hzl] at HI hne ⊢
  have HNE := Lib.hid hne
  clear h4 hk hzl hne
  go_enter Tryz.func196, Tryz.ntmps196
  go_upto_region 3 with fail
  go_region_law (first
    | (refine step_append_bytes rfl _ _ rfl _ [] rfl w.heap.size (OwnB.nil _ _) (by have := hb0.size; exact this) l _ rfl (rd_byt hrd HNE.out hc1 hc2) (by simp; omega) ?_; intro v2 w2 ho2 hb2)
    | (go_simp; go_at_call 205; (refine HI.out.mono ?_); rintro e w1 ⟨g1, o1, c1', rfl, hc1, hc2, hrd, hb0⟩))
  all_goals
    go_wp2_with fail
    go_ret
    exact ⟨_, rfl, ho2.out, (((Below.refl _ w).drew).trans hb0).trans hb2.out⟩
set_option maxRecDepth 100000 in
set_option maxHeartbeats 1000000 in
theorem appendText_walk (g : Nat) (z : Int) (w : World) (hz : IntAt w g z) (hl : natLen z.natAbs ≤ 320) (hleaf : LeafIs w) :
    Calls Tryz.prog 173 #[.pointer (some ⟨g, 0, none⟩), .slice none 0 0] w fun e w' => ∃ v, e = .returned (.tuple #[v, .nilIface]) ∧ OwnB w.heap.size w' v (zText z) ∧ Below w.heap.size w w' := by
  have HA := Lib.hid (intAppend_walk g z w hz hl hleaf)
  clear hz
  go_enter Tryz.func173, Tryz.ntmps173
  go_wp2_with fail
  refine HA.out.mono ?_
  rintro e w1 ⟨v, rfl, hp⟩
  have HP := Lib.hid hp
  clear hp
  go_wp2_with fail
  go_ret2
  exact ⟨_, rfl, HP.out⟩
set_option maxRecDepth 100000 in
set_option maxHeartbeats 1000000 in
theorem marshalText_walk (g : Nat) (z : Int) (w : World) (hz : IntAt w g z) (hl : natLen z.natAbs ≤ 320) (hleaf : LeafIs w) :
    Calls Tryz.prog 128 #[.pointer (some ⟨g, 0, none⟩)] w fun e w' => ∃ v, e = .returned (.tuple #[v, .nilIface]) ∧ OwnB w.heap.size w' v (zText z) ∧ Below w.heap.size w w' := by
  have HA := Lib.hid (appendText_walk g z w hz hl hleaf)
  clear hz
  go_enter Tryz.func128, Tryz.ntmps128
  go_wp2_with fail
  refine HA.out.mono ?_
  rintro e w1 ⟨v, rfl, hp⟩
  have HP := Lib.hid hp
  clear hp
  go_wp2_with fail
  go_ret2
  exact ⟨_, rfl, HP.out⟩

set_option maxRecDepth 100000 in
set_option maxHeartbeats 1000000 in
theorem zzMarshal_walk (l : List UInt8) (w : World) (hl : l.length ≤ 1000) :
    Calls Tryz.prog 177 #[.string (S l)] w fun e w' => ∃ v, e = .returned (.tuple #[v, .nilIface]) ∧ OwnB w.heap.size w' v (34 :: (l ++ [34])) ∧ Below w.heap.size w w' := by
  go_enter Tryz.func177, Tryz.ntmps177
  go_wp2_with (first
    | (at_builtin; refine wpList_append_text rfl _ _ rfl _ [34] rfl w.heap.size (OwnB.lit w [34] _ 1 (Nat.le_refl _) rfl rfl (by decide)) (by rw [heap_size_alloc]; omega) l rfl (by simp; omega) ?_; intro v2 w2 ho2 hb2)
    | (at_builtin; refine wpList_append_bytes rfl _ _ rfl _ ([34] ++ l) rfl w.heap.size (ho2.out.below (below_a1 _ _)) (by rw [heap_size_alloc]; have := hb2.out.size; rw [heap_size_alloc] at this; omega) [34] _ rfl ((OwnB.lit (B := 0) _ [34] _ 1 (Nat.zero_le _) rfl rfl (by decide)).byt (by decide)) (by simp; omega) ?_; intro v3 w3 ho3 hb3))
  go_wp2_with fail
  go_ret2
  refine ⟨_, rfl, by have := ho3.out; simpa using this, ?_⟩
  have h1 := hb2.out
  have h2 : Below w.heap.size w2 w3 := ((Below.refl w.heap.size w2).alloc (by have := h1.size; rw [heap_size_alloc] at this; omega) _).trans hb3.out
  exact ((below_a1 _ _).trans h1).trans h2
end Go.Proofs.YtiohlcfdoleooaaGreatDoor
