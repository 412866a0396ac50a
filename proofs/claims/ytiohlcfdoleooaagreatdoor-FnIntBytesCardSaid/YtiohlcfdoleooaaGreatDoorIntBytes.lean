/-
  Int.Marshal, Size, MarshalJSON, UnmarshalJSON, Unmarshal.
-/
import Derived.Test.YtiohlcfdoleooaaGreatDoorByteJson
import Derived.Test.YtiohlcfdoleooaaGreatDoorIntNew
import Derived.BigRegion
namespace Go.Proofs.YtiohlcfdoleooaaGreatDoor
open Go.RowKit

theorem OwnB.other {B : Nat} {w : World} {v : Value} {l : List UInt8} (h : OwnB B w v l) {p : Addr} (u : Value) (hp : p.block < B) : OwnB B (w.setCell p u) v l := by
  refine ⟨h.1, ?_⟩
  rcases h.2 with h0 | ⟨g, cap, cur, h1, h2, h3, h4⟩
  · exact .inl h0
  · exact .inr ⟨g, cap, cur, h1, h2, (one_other (by omega)).trans h3, h4⟩

set_option maxRecDepth 100000 in
set_option maxHeartbeats 1000000 in
theorem iMarshal_walk (g : Nat) (z : Int) (w : World) (hz : IntAt w g z) (hl : natLen z.natAbs ≤ 320) (hleaf : LeafIs w) :
    Calls Tryz.prog 80 #[.agg #[.pointer (some ⟨g, 0, none⟩)]] w fun e w' => ∃ v, e = .returned (.tuple #[v, .nilIface]) ∧ OwnB w.heap.size w' v (zText z) ∧ Below w.heap.size w w' := by
  have HA := Lib.hid (marshalText_walk g z (w.alloc (.cells #[.pointer (some ⟨g, 0, none⟩)] 80)) (hz.below (below_a1 _ _)) hl (hleaf.below (below_a1 _ _)))
  clear hz
  go_enter Tryz.func80, Tryz.ntmps80
  go_wp2_with fail
  refine HA.out.mono ?_
  rintro e w1 ⟨v, rfl, ho, hb⟩
  have HO := Lib.hid (ho.weak (B := w.heap.size) (by rw [heap_size_alloc]; omega))
  have HB := Lib.hid (bt (below_a1 w _) hb)
  clear ho hb
  go_wp2_with fail
  go_ret2
  exact ⟨_, rfl, HO.out, HB.out⟩
set_option maxRecDepth 100000 in
set_option maxHeartbeats 1000000 in
theorem iSize_walk (bx g : Nat) (z : Int) (w : World) (hb : w.heap[bx]? = some (.cells #[.pointer (some ⟨g, 0, none⟩)] 80 (0, 0))) (hz : IntAt w g z) (hl : natLen z.natAbs ≤ 320) (hleaf : LeafIs w) :
    Calls Tryz.prog 81 #[.pointer (some ⟨bx, 0, none⟩)] w fun e w' => e = .returned (.int .i64 ((zText z).length : Int)) ∧ Below w.heap.size w w' := by
  have c0 := one_cell hb
  have HA := Lib.hid (iMarshal_walk g z w hz hl hleaf)
  have hne := zText_ne z
  obtain ⟨l, hzl⟩ : ∃ l, zText z = l := ⟨_, rfl⟩
  rw [hzl] at HA hne ⊢
  clear hz hzl hb
  go_enter Tryz.func81, Tryz.ntmps81
  go_wp2_with fail
  refine HA.out.mono ?_
  rintro e w1 ⟨v, rfl, ho, hb⟩
  obtain ⟨b, o, c, rfl, _⟩ := ho.byt hne
  have HB := Lib.hid hb
  clear ho hb
  go_wp2_with fail
  go_ret
  exact ⟨rfl, HB.out⟩

set_option maxRecDepth 100000 in
set_option maxHeartbeats 1000000 in
theorem iMarshalJSON_walk (g : Nat) (z : Int) (w : World) (hz : IntAt w g z) (hl : natLen z.natAbs ≤ 320) (hleaf : LeafIs w) :
    Calls Tryz.prog 86 #[.agg #[.pointer (some ⟨g, 0, none⟩)]] w (JsonPost w (zText z)) := by
  have HA := Lib.hid (marshalJSON_walk g z (w.alloc (.cells #[.pointer (some ⟨g, 0, none⟩)] 80)) (hz.below (below_a1 _ _)) hl (hleaf.below (below_a1 _ _)))
  clear hz hleaf
  go_enter Tryz.func86, Tryz.ntmps86
  go_wp2_with fail
  refine HA.out.mono ?_
  rintro e w1 ⟨v, rfl, ho, hb⟩
  have HO := Lib.hid (ho.weak (B := w.heap.size) (by rw [heap_size_alloc]; omega))
  have HB := Lib.hid (bt (below_a1 w _) hb)
  clear ho hb
  go_wp2_with fail
  go_ret2
  exact ⟨_, rfl, HO.out, HB.out⟩
/-- What reading into a Uint leaves. -/
def UnmToI (w : World) (bx : Nat) (z : Int) (e : Ending) (w' : World) : Prop := e = .returned .nilIface ∧ ∃ gz, w'.heap[bx]? = some (.cells #[.pointer (some ⟨gz, 0, none⟩)] 80 (0, 0)) ∧ IntAt w' gz z ∧ Ext (fun b => b = bx) w w' ∧ w.heap.size ≤ gz
/-- A Uint that gets a new number. -/
theorem unm_startI (w : World) (bx : Nat) (p : Addr) (hbx : w.heap[bx]? = some (.cells #[.pointer none] 80 (0, 0))) (hp : EofIs w p) :
    ∃ w1, (w.setCell ⟨bx, 0, none⟩ (.pointer (some ⟨w.heap.size, 0, none⟩))).alloc (.cells #[.bool false, .slice none 0 0] 101) = w1 ∧ w1.heap[bx]? = some (.cells #[.pointer (some ⟨w.heap.size, 0, none⟩)] 80 (0, 0)) ∧ IntNew w1 w.heap.size ∧ EofIs w1 p ∧ Ext (fun b => b = bx) w w1 ∧ w1.heap.size = w.heap.size + 1 := by
  have hne : 2 ≠ bx := by
    intro e
    have h := hp
    unfold EofIs at h
    rw [e] at h
    rw [one_cell hbx] at h
    cases h
  have hx : Ext (fun b => b = bx) w ((w.setCell ⟨bx, 0, none⟩ (.pointer (some ⟨w.heap.size, 0, none⟩))).alloc (.cells #[.bool false, .slice none 0 0] 101)) := (Ext.setCell (D := fun b => b = bx) (p := ⟨bx, 0, none⟩) (Ext.refl _ w) (fun _ => rfl) _).alloc _
  exact ⟨_, rfl, heap_old (one_set hbx), heap_at _ _ (World.size_setCell _ _ _), hp.ext hx hne, hx, by rw [heap_size_alloc, World.size_setCell]⟩
set_option maxRecDepth 100000 in
set_option maxHeartbeats 2000000 in
theorem iUnmarshalJSON_walk (bx : Nat) (l : List UInt8) (v : Value) (p : Addr) (w : World) (hok : readOk l = true) (hl : l.length ≤ 1000) (hbx : w.heap[bx]? = some (.cells #[.pointer none] 80 (0, 0))) (hp : EofIs w p) (ho : overI (readZ l) = false) (hw : (wds (readZ l).natAbs).length ≤ 1000000) (hv : Byt w v (34 :: (l ++ [34]))) (hpl : Plain l) :
    Calls Tryz.prog 88 #[.pointer (some ⟨bx, 0, none⟩), v] w (UnmToI w bx (readZ l)) := by
  have c0 := one_cell hbx
  have f0 := one_free hbx 0
  obtain ⟨w1, hw1, hk1, hn1, hp1, hx1, hs1⟩ := unm_startI w bx p hbx hp
  have hlt := iter_lt hbx
  have hplt := hp.lt
  have hv1 : Byt w1 v (34 :: (l ++ [34])) := by
    obtain ⟨b, o, c, h1, h2, h3, h4, h5⟩ := hv
    have hbne : b ≠ bx := by
      intro e
      have h6 := h5 0 (by simp)
      subst e
      unfold World.cell? at h6
      rw [hbx] at h6
      simp at h6
      have h7 := List.mem_of_getElem? h6
      simp at h7
    exact ⟨b, o, c, h1, h2, h3, by omega, fun j hj => (World.cell?_of_block (hx1.block b h4 hbne)).trans (h5 j hj)⟩
  have HU := Lib.hid (unmarshalJSON_walk w.heap.size l v p w1 hok hl hn1 hp1 (by omega) ho hw hv1 hpl)
  have d0 := one_cell hk1
  have HK1 := Lib.hid hk1
  have HX1 := Lib.hid hx1
  have HW1 := Lib.hid hw1
  clear hbx hp hv hk1 hn1 hp1 hx1 hv1 hpl ho hw hok hw1
  go_enter Tryz.func88, Tryz.ntmps88
  go_wp2_with fail
  rw [HW1.out]
  refine HU.out.mono ?_
  rintro e w2 ⟨rfl, hi, hx⟩
  have hk2 := (hx.block bx (iter_lt HK1.out) (by exact Nat.ne_of_lt hlt)).trans HK1.out
  have HI := Lib.hid hi
  have HK2 := Lib.hid hk2
  have HX := Lib.hid (HX1.out.trans' hx (fun i hi h => by omega))
  clear hi hx hk2
  go_wp2_with fail
  go_ret
  exact ⟨rfl, w.heap.size, HK2.out, HI.out, HX.out, Nat.le_refl _⟩
theorem byt_otherI {w w1 : World} {bx : Nat} {v : Value} {l : List UInt8} (hv : Byt w v l) (hl : l ≠ []) (hbx : w.heap[bx]? = some (.cells #[.pointer none] 80 (0, 0))) (hx1 : Ext (fun b => b = bx) w w1) : Byt w1 v l := by
  obtain ⟨b, o, c, h1, h2, h3, h4, h5⟩ := hv
  have hbne : b ≠ bx := by
    intro e
    have h6 := h5 0 (List.length_pos_iff.2 hl)
    subst e
    unfold World.cell? at h6
    rw [hbx] at h6
    simp at h6
    have h7 := List.mem_of_getElem? h6
    simp at h7
  exact ⟨b, o, c, h1, h2, h3, Nat.lt_of_lt_of_le h4 hx1.size, fun j hj => (World.cell?_of_block (hx1.block b h4 hbne)).trans (h5 j hj)⟩
set_option maxRecDepth 100000 in
set_option maxHeartbeats 2000000 in
theorem iUnmarshal_walk (bx : Nat) (l : List UInt8) (v : Value) (p : Addr) (w : World) (hok : readOk l = true) (hl : l.length ≤ 1000) (hl0 : l ≠ []) (hbx : w.heap[bx]? = some (.cells #[.pointer none] 80 (0, 0))) (hp : EofIs w p) (ho : overI (readZ l) = false) (hw : (wds (readZ l).natAbs).length ≤ 1000000) (hv : Byt w v l) :
    Calls Tryz.prog 83 #[.pointer (some ⟨bx, 0, none⟩), v] w (UnmToI w bx (readZ l)) := by
  have c0 := one_cell hbx
  have f0 := one_free hbx 0
  obtain ⟨w1, hw1, hk1, hn1, hp1, hx1, hs1⟩ := unm_startI w bx p hbx hp
  have hlt := iter_lt hbx
  have hplt := hp.lt
  have hv1 := byt_otherI hv hl0 hbx hx1
  obtain ⟨b, o, c, rfl, hc1, hc2, _, _⟩ := hv
  have hlen : ((l.length : Int) == 0) = false := beq_eq_false_iff_ne.2 (by have := List.length_pos_iff.2 hl0; omega)
  have HU := Lib.hid (unmText_walk w.heap.size l _ p w1 hok hl hn1 hp1 (by omega) hv1)
  have HO := Lib.hid (fun (g : Nat) (w2 : World) (h : IntAt w2 g (readZ l)) => bigOver_walk g (readZ l) w2 h hw)
  rw [ho] at HO
  have d0 := one_cell hk1
  have HK1 := Lib.hid hk1
  have HX1 := Lib.hid hx1
  have HW1 := Lib.hid hw1
  clear hbx hp hk1 hn1 hp1 hx1 hv1 ho hw hok hw1
  go_enter Tryz.func83, Tryz.ntmps83
  go_wp2_with fail
  rw [HW1.out]
  refine HU.out.mono ?_
  rintro e w2 ⟨rfl, hi, hx⟩
  have hk2 := (hx.block bx (iter_lt HK1.out) (by exact Nat.ne_of_lt hlt)).trans HK1.out
  have e0 := one_cell hk2
  have HI := Lib.hid hi
  have HK2 := Lib.hid hk2
  have HX := Lib.hid (HX1.out.trans' hx (fun i hi h => by omega))
  clear hi hx hk2
  go_wp2_with fail
  refine (HO.out _ w2 HI.out).mono ?_
  rintro e w3 ⟨rfl, rfl⟩
  go_wp2_with fail
  go_ret
  exact ⟨rfl, w.heap.size, HK2.out, HI.out, HX.out, Nat.le_refl _⟩
set_option maxRecDepth 100000 in
set_option maxHeartbeats 1000000 in
theorem iIsNil_walk (g : Nat) (w : World) :
    Calls Tryz.prog 155 #[.agg #[.pointer (some ⟨g, 0, none⟩)]] w fun e w' => e = .returned (.bool false) ∧ Below w.heap.size w w' := by
  go_enter Tryz.func155, Tryz.ntmps155
  go_wp2_with fail
  go_ret
  exact ⟨rfl, below_a1 _ _⟩
set_option maxRecDepth 100000 in
set_option maxHeartbeats 1000000 in
theorem itext_walk (g : Nat) (z : Int) (w : World) (hz : IntAt w g z) (hl : natLen z.natAbs ≤ 320) (hleaf : LeafIs w) :
    Calls Tryz.prog 84 #[.agg #[.pointer (some ⟨g, 0, none⟩)]] w fun e w' => e = .returned (.string (S (zText z))) ∧ Below w.heap.size w w' := by
  have hk := heap_here w (.cells #[.pointer (some ⟨g, 0, none⟩)] 80)
  have HZ := Lib.hid (hz.below (below_a1 w (.cells #[.pointer (some ⟨g, 0, none⟩)] 80)))
  have HL := Lib.hid (hleaf.below (below_a1 w (.cells #[.pointer (some ⟨g, 0, none⟩)] 80)))
  have HB := Lib.hid (below_a1 w (.cells #[.pointer (some ⟨g, 0, none⟩)] 80))
  have HK := Lib.hid hk
  have hsz := heap_size_alloc w (.cells #[.pointer (some ⟨g, 0, none⟩)] 80)
  obtain ⟨w0, hw0⟩ : ∃ w0, w.alloc (.cells #[.pointer (some ⟨g, 0, none⟩)] 80) = w0 := ⟨_, rfl⟩
  rw [hw0] at HZ HL HB HK hsz
  have HW0 := Lib.hid hw0
  have HSZ := Lib.hid hsz
  clear hz hleaf hk hw0 hsz
  go_enter Tryz.func84, Tryz.ntmps84
  go_wp2_with fail
  rw [HW0.out]
  refine (iIsNil_walk g w0).mono ?_
  rintro e w1 ⟨rfl, hb1⟩
  have hk1 := (hb1.block w.heap.size (by have := HSZ.out; omega)).trans HK.out
  have c1 := one_cell hk1
  have HB1 := Lib.hid hb1
  clear hb1 hk1
  go_wp2_with fail
  refine (intStringI_walk g z w1 (HZ.out.below HB1.out) hl (HL.out.below HB1.out)).mono ?_
  rintro e w2 ⟨rfl, hb2⟩
  have HB2 := Lib.hid hb2
  clear hb2
  go_wp2_with fail
  go_ret
  exact ⟨rfl, bt HB.out (bt HB1.out HB2.out)⟩
end Go.Proofs.YtiohlcfdoleooaaGreatDoor
