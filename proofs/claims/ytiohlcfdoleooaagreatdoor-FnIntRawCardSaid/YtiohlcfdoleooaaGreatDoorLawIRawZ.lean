/-
  The walk of laws.FnIntRaw.
-/
import Derived.Test.YtiohlcfdoleooaaGreatDoorIntRawZ
import Derived.Test.YtiohlcfdoleooaaGreatDoorLawIDoZ
import Derived.Test.YtiohlcfdoleooaaGreatDoorBn17Z
import Derived.Deep.RegionHeld3
namespace Go.Proofs.YtiohlcfdoleooaaGreatDoor
open Go.RowKit

/-- A variable that holds the reference's number z. -/
def NumVar (w : World) (z : Int) (zv : Value) (wx : World) : Prop :=
  ∃ g b A n c, zv = .pointer (some ⟨g, 0, none⟩) ∧ w.heap.size ≤ g ∧ wx.heap[g]? = some (.cells #[.bool b, .slice A n c] 24 (0, 0)) ∧ IsNum wx (.agg #[.bool b, .slice A n c]) z ∧ Below w.heap.size w wx
theorem numVar_set {w W : World} {z : Int} {g : Nat} {x b : Bool} {C A : Option Addr} {p q n c : Nat} (h : W.heap[g]? = some (.cells #[.bool x, .slice C p q] 24 (0, 0))) (hz : IsNum W (.agg #[.bool b, .slice A n c]) z) (hb : Below w.heap.size w W) (hg : w.heap.size ≤ g) :
    NumVar w z (.pointer (some ⟨g, 0, none⟩)) ((W.setCell ⟨g, 0, none⟩ (.bool b)).setCell ⟨g, 1, none⟩ (.slice A n c)) := by
  obtain ⟨B, d, h1, h2, h3, h4⟩ := hz
  exact ⟨g, b, A, n, c, rfl, hg, cells_set (cells_set h 0 _) 1 _, ⟨B, d, h1, h2, h3, rd_set2 h h4⟩, (hb.setCell (p := ⟨g, 0, none⟩) hg _).setCell (p := ⟨g, 1, none⟩) hg _⟩
theorem numVar_new {w W : World} {z : Int} {b : Bool} {A : Option Addr} {n c : Nat} (hz : IsNum W (.agg #[.bool b, .slice A n c]) z) (hb : Below w.heap.size w W) :
    NumVar w z (.pointer (some ⟨W.heap.size, 0, none⟩)) (W.alloc (.cells #[.bool b, .slice A n c] 24)) :=
  ⟨W.heap.size, b, A, n, c, rfl, hb.size, heap_here _ _, hz.below (below_a1 _ _), bt hb (below_a1 _ _)⟩
theorem num_early {w1 w2 : World} (hb : Below (w1.alloc (.cells #[.bool false, .slice none 0 0] 24)).heap.size (w1.alloc (.cells #[.bool false, .slice none 0 0] 24)) w2) : w1.heap.size < w2.heap.size ∧ w2.heap[w1.heap.size]? = some (.cells #[.bool false, .slice none 0 0] 24 (0, 0)) := by
  have h1 := hb.size
  rw [heap_size_alloc] at h1
  exact ⟨h1, (hb.block _ (by rw [heap_size_alloc]; omega)).trans (heap_here _ _)⟩
theorem num_earlyD {w1 w2 : World} (hb : Below (w1.alloc (.cells #[.bool false, .slice none 0 0] 24)).drew.heap.size (w1.alloc (.cells #[.bool false, .slice none 0 0] 24)).drew w2) : w1.heap.size < w2.heap.size ∧ w2.heap[w1.heap.size]? = some (.cells #[.bool false, .slice none 0 0] 24 (0, 0)) := by
  have h1 : (w1.alloc (.cells #[.bool false, .slice none 0 0] 24)).heap.size ≤ w2.heap.size := hb.size
  rw [heap_size_alloc] at h1
  exact ⟨h1, (hb.block _ (by show _ < (w1.alloc (.cells #[.bool false, .slice none 0 0] 24)).heap.size; rw [heap_size_alloc]; omega)).trans (heap_here _ _)⟩
/-- A number's variable through draws, calls, new variables, stores into later ones. -/
def RawS (w : World) (g : Nat) (u v : Value) (w' : World) : Prop := w'.cell? ⟨g, 0, none⟩ = some u ∧ w'.cell? ⟨g, 1, none⟩ = some v ∧ Below w.heap.size w w'
theorem raws_drew {w w1 : World} {g : Nat} {u v : Value} (h : w1.cell? ⟨g, 0, none⟩ = some u ∧ w1.cell? ⟨g, 1, none⟩ = some v ∧ Below w.heap.size w w1) : w1.drew.cell? ⟨g, 0, none⟩ = some u ∧ w1.drew.cell? ⟨g, 1, none⟩ = some v ∧ Below w.heap.size w w1.drew := ⟨h.1, h.2.1, h.2.2.drew⟩
theorem raws_grow {w w1 w2 : World} {g : Nat} {u v : Value} (h : w1.cell? ⟨g, 0, none⟩ = some u ∧ w1.cell? ⟨g, 1, none⟩ = some v ∧ Below w.heap.size w w1) (k : Below w1.heap.size w1 w2) : w2.cell? ⟨g, 0, none⟩ = some u ∧ w2.cell? ⟨g, 1, none⟩ = some v ∧ Below w.heap.size w w2 :=
  ⟨(k.cell (by exact World.block_lt_of_cell? w1 _ h.1)).trans h.1, (k.cell (by exact World.block_lt_of_cell? w1 _ h.2.1)).trans h.2.1, bt h.2.2 k⟩
theorem raws_set2 {w w1 : World} {g k : Nat} {u v a b : Value} (h : w1.cell? ⟨g, 0, none⟩ = some u ∧ w1.cell? ⟨g, 1, none⟩ = some v ∧ Below w.heap.size w w1) (hg : g ≠ k) (hk : w.heap.size ≤ k) :
    ((w1.setCell ⟨k, 0, none⟩ a).setCell ⟨k, 1, none⟩ b).cell? ⟨g, 0, none⟩ = some u ∧ ((w1.setCell ⟨k, 0, none⟩ a).setCell ⟨k, 1, none⟩ b).cell? ⟨g, 1, none⟩ = some v ∧ Below w.heap.size w ((w1.setCell ⟨k, 0, none⟩ a).setCell ⟨k, 1, none⟩ b) :=
  ⟨((cell_other (by exact hg)).trans (cell_other (by exact hg))).trans h.1, ((cell_other (by exact hg)).trans (cell_other (by exact hg))).trans h.2.1, (h.2.2.setCell (p := ⟨k, 0, none⟩) hk _).setCell (p := ⟨k, 1, none⟩) hk _⟩

set_option maxRecDepth 100000 in
set_option maxHeartbeats 4000000 in
theorem fnIntRaw_walk (op : Nat) (l : List UInt8) (n : Int) (p e1 e2 : Addr) (w : World) (hop : op < 256) (hl : l.length ≤ 140737488355328) (hn : -9223372036854775808 ≤ n ∧ n < 9223372036854775808) (hp : EofIs w p) (hleaf : LeafIs w) (hkara : KaraIs w) (hdiv : DivIs w) (herr : ErrsAre w e1 e2) :
    Calls Tryz.prog 12 #[.int .u8 (op : Int), .string (S l), .int .i64 n] w fun e w' => e = .returned (.bool true) ∧ Below w.heap.size w w' := by
  have HAW := Lib.hid (fun (w' : World) (h1 : EofIs w' p) (h2 : LeafIs w') => intAwake_walk p w' h1 h2)
  have HP := Lib.hid hp
  have HLF := Lib.hid hleaf
  have HKA := Lib.hid hkara
  have HDI := Lib.hid hdiv
  have HER := Lib.hid herr
  have hs := specInt_walk l w hl
  by_cases h1 : l.length ≤ 2147483647
  · have h1' : ¬ (2147483647 : Int) < l.length := by omega
    cases hok : intOk l with
    | false =>
      rw [hok] at hs
      have HS := Lib.hid hs
      clear hs hp hleaf hkara hdiv herr
      go_enter Tryz.func12, Tryz.ntmps12
      go_wp2_with fail
      refine HS.out.mono ?_
      rintro e w1 ⟨b, A, m, c, rfl, _, hb⟩
      have HB := Lib.hid (bt hb (below_a1 w1 (.cells #[.bool b, .slice A m c] 24)))
      clear hb
      go_wp2_with fail
      refine (HAW.out _ (HP.out.below HB.out) (HLF.out.below HB.out)).mono ?_
      rintro e w2 ⟨rfl, hb2⟩
      go_wp2_with fail
      go_ret
      exact ⟨rfl, bt HB.out hb2⟩
    | true =>
      obtain ⟨r1, q1, v1, d1⟩ := intOk_isD hok
      obtain ⟨o, ho⟩ : ∃ o, op % 5 = o := ⟨_, rfl⟩
      have ho3 : o ≤ 4 := by omega
      have hoi : (op : Int) % 5 = (o : Int) := by omega
      have hop0 : (0 : Int) ≤ (op : Int) := by omega
      have hop1 : (op : Int) < 256 := by omega
      have HDO := Lib.hid (fun (w' : World) (hp : EofIs w' p) (hleaf : LeafIs w') (hk : KaraIs w') (hd : DivIs w') (he : ErrsAre w' e1 e2) => intRaw_walk o n l p e1 e2 w' r1 q1 hn hp hleaf hk hd he ho3 v1)
      rw [hok] at hs
      obtain ⟨z1, hz1⟩ : ∃ z1, readZ l = z1 := ⟨_, rfl⟩
      rw [hz1] at hs HDO v1 d1
      have HSD := Lib.hid (fun (w' : World) (v u : Value) (h1 : IsNum w' v z1) (h2 : IsNum w' u n) => specDoAll_walk o v u z1 n w' (by omega) h1 h2 (Nat.le_trans (toD_length_le (by decide) 100 _ (Nat.lt_of_lt_of_le d1 (by decide))) (by decide)) (Nat.le_trans (toD_length_le (by decide) 20 _ (Nat.lt_of_le_of_lt (show n.natAbs ≤ 9223372036854775808 by omega) (by decide))) (by decide)))
      have HASK := Lib.hid (fun (w' : World) (v : Value) (h : IsNum w' v ((refZ o z1 n).getD 0)) => toldRes_walk o z1 n v w' d1 (Nat.lt_of_le_of_lt (show n.natAbs ≤ 9223372036854775808 by omega) (by decide)) h)
      have HOF := Lib.hid (fun (w' : World) => of_walk n w' (by omega))
      obtain ⟨R, hR⟩ : ∃ R, iRes o z1 n = R := ⟨_, rfl⟩
      obtain ⟨Z, hZ⟩ : ∃ Z, refZ o z1 n = Z := ⟨_, rfl⟩
      rw [hR] at HDO HASK
      rw [hZ] at HSD HASK
      unfold DoNum at HSD
      obtain ⟨T, hT⟩ : ∃ T, outT R = T := ⟨_, rfl⟩
      obtain ⟨rb, hrb⟩ : ∃ rb, R.isSome = rb := ⟨_, rfl⟩
      obtain ⟨zb, hzb⟩ : ∃ zb, Z.isSome = zb := ⟨_, rfl⟩
      obtain ⟨zv, hzv⟩ : ∃ zv, Z.getD 0 = zv := ⟨_, rfl⟩
      rw [hT, hrb] at HDO
      rw [hzb, hzv] at HSD
      rw [hT, hrb, hzb, hzv] at HASK
      have HS := Lib.hid hs
      clear hs hp hleaf hkara hdiv herr hz1 hok r1 q1 v1 hl d1 hR hZ hT hrb hzb hzv ho hn
      go_enter Tryz.func12, Tryz.ntmps12
      go_wp2_with fail
      refine HS.out.mono ?_
      rintro e w1 ⟨b1, A1, n1, c1, rfl, hn1, hb1⟩
      have hn1 := hn1 rfl
      obtain ⟨wB, hwB⟩ : ∃ wB, w1.alloc (.cells #[.bool b1, .slice A1 n1 c1] 24) = wB := ⟨_, rfl⟩
      have k7B : wB.heap[w1.heap.size]? = some (.cells #[.bool b1, .slice A1 n1 c1] 24 (0, 0)) := by rw [← hwB]; exact heap_here _ _
      have hbB : Below w.heap.size w wB := by rw [← hwB]; exact bt hb1 (below_a1 _ _)
      have hN1B : IsNum wB (.agg #[.bool b1, .slice A1 n1 c1]) z1 := by rw [← hwB]; exact hn1.below (below_a1 _ _)
      have HN1 := Lib.hid hN1B
      have c70 := num_cell0 k7B
      have c71 := num_cell1 k7B
      have hlt7 := iter_lt k7B
      have HWB := Lib.hid hwB
      have HBB := Lib.hid hbB
      clear hn1 hb1 hwB k7B hbB hN1B
      go_upto_region 7 with fail
      rw [HWB.out]
      try rw [hoi]
      clear hoi
      go_cut [10, 11] (fun zv' fv wx => NumVar wB zv zv' wx ∧ fv = .bool zb)
      case first =>
        have hkept : wB.cell? ⟨w1.heap.size, 0, none⟩ = some (.bool b1) ∧ wB.cell? ⟨w1.heap.size, 1, none⟩ = some (.slice A1 n1 c1) ∧ Below wB.heap.size wB wB := ⟨c70, c71, Below.refl _ _⟩
        go_region_held3 (fun w' => w'.cell? ⟨w1.heap.size, 0, none⟩ = some (.bool b1) ∧ w'.cell? ⟨w1.heap.size, 1, none⟩ = some (.slice A1 n1 c1) ∧ Below wB.heap.size wB w')
          (first | (with_reducible assumption) | (with_reducible exact raws_grow (by assumption) hgr) | (with_reducible exact raws_drew hkept) | (with_reducible exact raws_drew (raws_grow hkept (below_a1 _ _))) | (with_reducible exact raws_grow (by assumption) (below_a1 _ _)) | (with_reducible exact raws_grow SW8.out (below_a1 _ _)) | (with_reducible exact raws_set2 (by assumption) (by omega) (by omega)))
          (first
            | (go_at_call 40; (with_reducible refine (HOF.out _).mono ?_); rintro e w7 ⟨v7, rfl, hv7, hgr⟩; have HV7 := Lib.hid hv7; have hs7 : wB.heap.size ≤ w7.heap.size := (by first | exact hgr.size | exact Nat.le_of_lt (num_earlyD (w1 := wB) hgr).1 | exact Nat.le_of_lt (num_early (w1 := wB.drew) hgr).1); (try (have E1 := Lib.hid (num_earlyD (w1 := wB) hgr))); clear hv7)
            | (go_at_call 23; (with_reducible refine (HSD.out _ _ _ (HN1.out.below ?hb1) ?hb2).mono ?_); (case hb1 => (go_split_ands; assumption)); (case hb2 => (first | exact HV7.out | exact HV7.out.below (below_a1 _ _))); rintro e w8 ⟨v8, rfl, hv8, hgr⟩; obtain ⟨A8, c8, rfl, l8, m8, r8⟩ := hv8.open; have HV8 := Lib.hid hv8; have SW8 := Lib.hid (raws_grow (by assumption) hgr); have hs8 : w7.heap.size ≤ w8.heap.size := (by first | exact hgr.size | exact Nat.le_of_lt (num_early (w1 := w7) hgr).1); (first | (have e1 := E1.out; have r3 := (hgr.block _ (iter_lt e1.2)).trans e1.2; have s1 := num_cell0 r3; have s2 := num_cell1 r3; have s3 := one_free r3 0; have s4 := one_free r3 1; have F3 := Lib.hid r3; clear r3 e1) | (have r3 := (num_early (w1 := w7) hgr).2; have s1 := num_cell0 r3; have s2 := num_cell1 r3; have s3 := one_free r3 0; have s4 := one_free r3 1; have F3 := Lib.hid r3; clear r3) | skip); clear hv8 r8))
        all_goals (go_wp2_with fail)
        all_goals go_meet
        all_goals refine ⟨?_, rfl⟩
        all_goals with_reducible first
          | exact numVar_new HV8.out SW8.out.2.2
          | exact numVar_set F3.out HV8.out SW8.out.2.2 (by omega)
      case rest =>
        obtain ⟨⟨gz, b3, A3, n3, c3, rfl, hg3, kz, hz3, hbz⟩, rfl⟩ := hcut
        have HKZ := Lib.hid kz
        have HZ3 := Lib.hid hz3
        have HBZ := Lib.hid (bt HBB.out hbz)
        clear kz hz3 hbz c70 c71
        go_wp2_with fail
        refine (HDO.out _ (HP.out.below HBZ.out) (HLF.out.below HBZ.out) (HKA.out.below HBZ.out) (HDI.out.below HBZ.out HDI.out.lt) (HER.out.below HBZ.out)).mono ?_
        rintro e w5 ⟨rfl, hb5⟩
        have HB5 := Lib.hid hb5
        clear hb5
        go_wp2_with fail
        refine (HAW.out _ (HP.out.below (bt HBZ.out HB5.out)) (HLF.out.below (bt HBZ.out HB5.out))).mono ?_
        rintro e w6 ⟨rfl, hb6⟩
        have hb56 := bt HB5.out hb6
        have kz := (hb56.block _ (iter_lt HKZ.out)).trans HKZ.out
        have d0 := num_cell0 kz
        have d1 := num_cell1 kz
        have HB6 := Lib.hid hb56
        clear hb6 hb56 kz
        go_wp2_with fail
        refine (HASK.out _ _ (HZ3.out.below HB6.out)).mono ?_
        rintro e w7 ⟨rfl, hb7⟩
        have HB7 := Lib.hid (bt (bt HBZ.out HB6.out) hb7)
        clear hb7
        go_wp2_with fail
        go_ret
        exact ⟨rfl, HB7.out⟩
  · have h1' : (2147483647 : Int) < l.length := by omega
    go_enter Tryz.func12, Tryz.ntmps12
    go_wp2_with fail
    go_ret
    exact ⟨rfl, Below.refl _ _⟩
end Go.Proofs.YtiohlcfdoleooaaGreatDoor
