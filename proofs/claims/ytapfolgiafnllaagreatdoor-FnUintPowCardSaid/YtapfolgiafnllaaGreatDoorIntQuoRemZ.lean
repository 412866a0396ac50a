/-
  Int.QuoRem of two numbers into two new ones.
-/
import Derived.Test.YtapfolgiafnllaaGreatDoorBn12Z
import Derived.Test.YtapfolgiafnllaaGreatDoorSpecQuoZ
import Derived.Deep.RegionHeld3
namespace Go.Proofs.YtapfolgiafnllaaGreatDoor
open Go.RowKit

/-- A big.Int whose words lie in a block from B on. -/
def IntOwn (B : Nat) (w : World) (g : Nat) (z : Int) : Prop :=
  ∃ A c, w.heap[g]? = some (.cells #[.bool (decide (z < 0)), .slice A (wds z.natAbs).length c] 80 (0, 0)) ∧ OwnNat B w A c z.natAbs
theorem IntOwn.at {B : Nat} {w : World} {g : Nat} {z : Int} (h : IntOwn B w g z) : IntAt w g z := by
  obtain ⟨A, c, h1, h2⟩ := h
  exact ⟨A, c, h1, h2.room.1, by have := h2.room; omega, h2.wd⟩
/-- The words of the quotient and of the rest have been laid down; their signs not yet. -/
def QrMid (w : World) (gz gr Q R : Nat) (wx : World) : Prop :=
  ∃ A c B d, wx.heap[gz]? = some (.cells #[.bool false, .slice A (wds Q).length c] 80 (0, 0)) ∧ wx.heap[gr]? = some (.cells #[.bool false, .slice B (wds R).length d] 80 (0, 0)) ∧ (wds Q).length ≤ c ∧ c ≤ 9223372036854775807 ∧ (wds R).length ≤ d ∧ d ≤ 9223372036854775807 ∧
    Wd wx A (wds Q) ∧ OwnNat w.heap.size wx B d R ∧ (∀ a, A = some a → a.block ≠ gz ∧ a.block ≠ gr) ∧ (∀ a, B = some a → a.block ≠ gz ∧ a.block ≠ gr) ∧ Ext (fun b => b = gz ∨ b = gr) w wx
def DivRes (w : World) (x y : Int) (A1 : Option Addr) (c1 : Nat) (B1 : Option Addr) (d1 : Nat) (w1 : World) : Prop :=
  OwnNat w.drew.heap.size w1 A1 c1 (x.natAbs / y.natAbs) ∧ OwnNat w.drew.heap.size w1 B1 d1 (x.natAbs % y.natAbs) ∧ Below w.drew.heap.size w.drew w1 ∧ w.drew.heap.size ≤ w1.heap.size
theorem rem_sign {x y : Int} (h : x.natAbs % y.natAbs ≠ 0) : decide (x < 0) = decide (x.tmod y < 0) := by
  have h2 := tmod_sgn (x := x) (y := y)
  rw [toD_isEmpty (by decide), decide_eq_false h] at h2
  simpa using h2
theorem iqr_set {w1 : World} {gx gy gz gr : Nat} {a b c d u : Value} (h : w1.cell? ⟨gx, 0, none⟩ = some a ∧ w1.cell? ⟨gy, 0, none⟩ = some b ∧ w1.cell? ⟨gz, 1, none⟩ = some c ∧ w1.cell? ⟨gr, 1, none⟩ = some d) (h1 : gx ≠ gz) (h2 : gy ≠ gz) (h3 : gr ≠ gz) :
    (w1.setCell ⟨gz, 0, none⟩ u).cell? ⟨gx, 0, none⟩ = some a ∧ (w1.setCell ⟨gz, 0, none⟩ u).cell? ⟨gy, 0, none⟩ = some b ∧ (w1.setCell ⟨gz, 0, none⟩ u).cell? ⟨gz, 1, none⟩ = some c ∧ (w1.setCell ⟨gz, 0, none⟩ u).cell? ⟨gr, 1, none⟩ = some d :=
  ⟨(cell_other (by exact h1)).trans h.1, (cell_other (by exact h2)).trans h.2.1, (World.cell?_setCell_other w1 ⟨gz, 0, none⟩ ⟨gz, 1, none⟩ u (by intro e; injection e with _ e; cases e)).trans h.2.2.1, (cell_other (by exact h3)).trans h.2.2.2⟩
theorem iqr_drew {w1 : World} {gx gy gz gr : Nat} {a b c d : Value} (h1 : w1.cell? ⟨gx, 0, none⟩ = some a) (h2 : w1.cell? ⟨gy, 0, none⟩ = some b) (h3 : w1.cell? ⟨gz, 1, none⟩ = some c) (h4 : w1.cell? ⟨gr, 1, none⟩ = some d) :
    w1.drew.cell? ⟨gx, 0, none⟩ = some a ∧ w1.drew.cell? ⟨gy, 0, none⟩ = some b ∧ w1.drew.cell? ⟨gz, 1, none⟩ = some c ∧ w1.drew.cell? ⟨gr, 1, none⟩ = some d := ⟨h1, h2, h3, h4⟩
theorem iqr_drew' {w1 : World} {gx gy gz gr : Nat} {a b c d : Value} (h : w1.cell? ⟨gx, 0, none⟩ = some a ∧ w1.cell? ⟨gy, 0, none⟩ = some b ∧ w1.cell? ⟨gz, 1, none⟩ = some c ∧ w1.cell? ⟨gr, 1, none⟩ = some d) :
    w1.drew.cell? ⟨gx, 0, none⟩ = some a ∧ w1.drew.cell? ⟨gy, 0, none⟩ = some b ∧ w1.drew.cell? ⟨gz, 1, none⟩ = some c ∧ w1.drew.cell? ⟨gr, 1, none⟩ = some d := h
theorem iqr_set2 {w1 : World} {gx gy gz gr : Nat} {a b c d u : Value} (h : w1.cell? ⟨gx, 0, none⟩ = some a ∧ w1.cell? ⟨gy, 0, none⟩ = some b ∧ w1.cell? ⟨gz, 1, none⟩ = some c ∧ w1.cell? ⟨gr, 1, none⟩ = some d) (h1 : gx ≠ gr) (h2 : gy ≠ gr) (h3 : gr ≠ gz) :
    (w1.setCell ⟨gr, 0, none⟩ u).cell? ⟨gx, 0, none⟩ = some a ∧ (w1.setCell ⟨gr, 0, none⟩ u).cell? ⟨gy, 0, none⟩ = some b ∧ (w1.setCell ⟨gr, 0, none⟩ u).cell? ⟨gz, 1, none⟩ = some c ∧ (w1.setCell ⟨gr, 0, none⟩ u).cell? ⟨gr, 1, none⟩ = some d :=
  ⟨(cell_other (by exact h1)).trans h.1, (cell_other (by exact h2)).trans h.2.1, (cell_other (by exact h3.symm)).trans h.2.2.1, (World.cell?_setCell_other w1 ⟨gr, 0, none⟩ ⟨gr, 1, none⟩ u (by intro e; injection e with _ e; cases e)).trans h.2.2.2⟩

set_option maxRecDepth 100000 in
set_option maxHeartbeats 8000000 in
theorem intQuoRemOwn_walk (gz gr gx gy : Nat) (x y : Int) (w : World) (hz : IntNew w gz) (hr : IntNew w gr) (hx : IntAt w gx x) (hy : IntAt w gy y) (hzr : gr ≠ gz) (hgx : gx ≠ gz) (hgy : gy ≠ gz) (hgx2 : gx ≠ gr) (hgy2 : gy ≠ gr) (hk : DivIs w) (hlx : (wds x.natAbs).length ≤ 900) (hly : (wds y.natAbs).length ≤ 4) (hy0 : y ≠ 0) :
    Calls Tryz.prog 143 #[.pointer (some ⟨gz, 0, none⟩), .pointer (some ⟨gx, 0, none⟩), .pointer (some ⟨gy, 0, none⟩), .pointer (some ⟨gr, 0, none⟩)] w fun e w' => e = .returned (.tuple #[.pointer (some ⟨gz, 0, none⟩), .pointer (some ⟨gr, 0, none⟩)]) ∧ IntAt w' gz (x.tdiv y) ∧ IntOwn w.heap.size w' gr (x.tmod y) ∧ Ext (fun b => b = gz ∨ b = gr) w w' := by
  obtain ⟨A, c, hkx, h2, h3, h4⟩ := hx
  obtain ⟨B, d, hky, i2, i3, i4⟩ := hy
  have c0 := num_cell0 hz
  have c1 := num_cell1 hz
  have r0 := num_cell0 hr
  have r1 := num_cell1 hr
  have d0 := num_cell0 hkx
  have d1 := num_cell1 hkx
  have e0 := num_cell0 hky
  have e1 := num_cell1 hky
  have HM := Lib.hid (fun (w2 : World) (hh : w2.heap = w.heap) => natDiv_walk x.natAbs y.natAbs A B c d w2 h2 h3 i2 i3 (rd_heap h4.rd hh) (rd_heap i4.rd hh) hlx hly (by omega) ((cell_heap hh _ _).trans hk))
  have HZ := Lib.hid hz
  have HR := Lib.hid hr
  have HLT := Lib.hid (iter_lt hz)
  have HLR := Lib.hid (iter_lt hr)
  obtain ⟨nx, hnx2⟩ : ∃ nx, decide (x < 0) = nx := ⟨_, rfl⟩
  obtain ⟨ny, hny2⟩ : ∃ ny, decide (y < 0) = ny := ⟨_, rfl⟩
  rw [hnx2] at d0 hkx
  rw [hny2] at e0 hky
  have HKX := Lib.hid hkx
  have HKY := Lib.hid hky
  have hsg := fun h => quo_sign (x := x) (y := y) h
  have hsr := fun h => rem_sign (x := x) (y := y) h
  rw [hnx2, hny2] at hsg
  rw [hnx2] at hsr
  have HSG := Lib.hid hsg
  have HSR := Lib.hid hsr
  have HQA := Lib.hid (natAbs_quo x y)
  have HRA := Lib.hid (tmodAbs x y)
  clear h4 i4 hz hr hkx hky hk hnx2 hny2 hsg hsr
  go_enter Tryz.func143, Tryz.ntmps143
  go_upto_region 1 with fail
  go_cut [29] from 10 to 72 (fun _ wx => QrMid w gz gr (x.natAbs / y.natAbs) (x.natAbs % y.natAbs) wx)
  case first =>
    focus
      refine' (fun {Goal : Prop} (G : Option Addr → Nat → Option Addr → Nat → World → Prop) (h : ∀ A1 c1 B1 d1 w1, DivRes w x y A1 c1 B1 d1 w1 → G A1 c1 B1 d1 w1) (f : (∀ A1 c1 B1 d1 w1, DivRes w x y A1 c1 B1 d1 w1 → G A1 c1 B1 d1 w1) → Goal) => f h) _ ?k ?p
      case p =>
        intro key
        have KEY := Lib.hid key
        clear key
        go_region_with (go_at_call 142; refine (HM.out _ (by first | exact heap_drew' _ | exact heap_drewN' _ _)).mono ?_; rintro e w1 ⟨A1, c1', B1, d1', rfl, hown, hownr, hb, hs1⟩; suffices hq : wpAny Tryz.prog .any #[] (fun _ _ _ => True) 0 #[] ⟨#[], []⟩ w1 by (go_wp2_with fail; exact KEY.out A1 c1' B1 d1' w1 ⟨hown, hownr, hb, hs1⟩))
        all_goals trivial
      case k =>
        intro A1 c1' B1 d1' w1 hres
        obtain ⟨hown, hownr, hb, hs1⟩ := hres
        have hk1 : w1.heap[gz]? = some (.cells #[.bool false, .slice none 0 0] 80 (0, 0)) := (hb.block gz HLT.out).trans HZ.out
        have hk2 : w1.heap[gr]? = some (.cells #[.bool false, .slice none 0 0] 80 (0, 0)) := (hb.block gr HLR.out).trans HR.out
        have g1 := num_cell1 hk1
        have f1 := one_free hk1 1
        have g2 : ∀ v, (w1.setCell ⟨gz, 1, none⟩ v).cell? ⟨gr, 1, none⟩ = some (.slice none 0 0) := fun v => num_cell1 ((one_other (by exact hzr)).trans hk2)
        have f2 : ∀ v, (w1.setCell ⟨gz, 1, none⟩ v).frozen? ⟨gr, 1, none⟩ = false := fun v => one_free ((one_other (by exact hzr)).trans hk2) 1
        have HK1 := Lib.hid hk1
        have HK2 := Lib.hid hk2
        have HO := Lib.hid hown
        have HO2 := Lib.hid hownr
        have HB := Lib.hid hb
        clear hk1 hk2 hown hownr hb c0 c1 r0 r1 d0 d1 e0 e1
        refine wpAny_take (i := 19) (v := ?_) rfl (by kernel_rfl) (by kernel_rfl) (by kernel_rfl) (fun _ _ _ h => h) (Or.inl ⟨by rfl, ?_⟩) ?_
        rotate_left
        (intro w; go_simp; try with_reducible rfl)
        refine wpAny_take (i := 20) (v := ?_) rfl (by kernel_rfl) (by kernel_rfl) (by kernel_rfl) (fun _ _ _ h => h) (Or.inl ⟨by rfl, ?_⟩) ?_
        rotate_left
        (intro w; go_simp; try with_reducible rfl)
        refine wpAny_take (i := 21) (v := ?_) rfl (by kernel_rfl) (by kernel_rfl) (by kernel_rfl) (fun _ _ _ h => h) (Or.inl ⟨by rfl, ?_⟩) ?_
        rotate_left
        (intro w; go_simp; try with_reducible rfl)
        refine wpAny_take (i := 22) (v := ?_) rfl (by kernel_rfl) (by kernel_rfl) (by kernel_rfl) (fun _ _ _ h => h) (Or.inl ⟨by rfl, ?_⟩) ?_
        rotate_left
        (intro w; go_simp; try with_reducible rfl)
        refine wpAny_take (i := 23) (v := ?_) rfl (by kernel_rfl) (by kernel_rfl) (by kernel_rfl) (fun _ _ _ h => h) (Or.inl ⟨by rfl, ?_⟩) ?_
        rotate_left
        (intro w; go_simp; try with_reducible rfl)
        refine wpAny_ready (rs := [24]) (by kernel_rfl) (by simp) ?_
        refine AllReady.cons rfl (fun K hK => ?_) AllReady.nil
        go_simp
        refine hK _ _ ?_
        clear hK K
        refine wpAny_take (i := 25) (v := ?_) rfl (by kernel_rfl) (by kernel_rfl) (by kernel_rfl) (fun _ _ _ h => h) (Or.inl ⟨by rfl, ?_⟩) ?_
        rotate_left
        (intro w; go_simp; try with_reducible rfl)
        refine wpAny_take (i := 26) (v := ?_) rfl (by kernel_rfl) (by kernel_rfl) (by kernel_rfl) (fun _ _ _ h => h) (Or.inl ⟨by rfl, ?_⟩) ?_
        rotate_left
        (intro w; go_simp; try with_reducible rfl)
        refine wpAny_ready (rs := [27]) (by kernel_rfl) (by simp) ?_
        refine AllReady.cons rfl (fun K hK => ?_) AllReady.nil
        go_simp
        refine hK _ _ ?_
        clear hK K
        refine wpAny_done (by kernel_rfl) ?_ _
        go_wp2_with fail
        go_meet
        have ho1 : OwnNat (w.heap.size) w1 A1 c1' (x.natAbs / y.natAbs) := HO.out
        have ho2 : OwnNat (w.heap.size) w1 B1 d1' (x.natAbs % y.natAbs) := HO2.out
        have hz := HLT.out
        have hr := HLR.out
        have hge1 := ho1.ge
        have hge2 := ho2.ge
        have kz := cells_set HK1.out 1 (.slice A1 (wds (x.natAbs / y.natAbs)).length c1')
        have kr := (one_other (u := .slice A1 (wds (x.natAbs / y.natAbs)).length c1') (a := ⟨gz, 1, none⟩) (by exact hzr)).trans HK2.out
        have hx2 : Ext (fun b => b = gz ∨ b = gr) w w1 := ext_any (heap_drew' _) rfl rfl rfl HB.out
        exact ⟨A1, c1', B1, d1', (one_other (by exact hzr.symm)).trans kz, cells_set kr 1 _, ho1.room.1, by have := ho1.room; omega, ho2.room.1, by have := ho2.room; omega,
          (ho1.wd.other _ (fun a ha => by have := hge1 a ha; show a.block ≠ gz; omega)).other _ (fun a ha => by have := hge1 a ha; show a.block ≠ gr; omega),
          ho2.ext (Ext.setCell (D := fun b => b = gz ∨ b = gr) (p := ⟨gr, 1, none⟩) (Ext.setCell (D := fun b => b = gz ∨ b = gr) (p := ⟨gz, 1, none⟩) (Ext.refl _ w1) (fun _ => .inl rfl) _) (fun _ => .inr rfl) _) (fun g hg => by omega),
          fun a ha => by have := hge1 a ha; omega, fun a ha => by have := hge2 a ha; omega,
          Ext.setCell (D := fun b => b = gz ∨ b = gr) (p := ⟨gr, 1, none⟩) (Ext.setCell (D := fun b => b = gz ∨ b = gr) (p := ⟨gz, 1, none⟩) hx2 (fun _ => .inl rfl) _) (fun _ => .inr rfl) _⟩
  case rest =>
    clear HM d1 e1 c0 c1 r0 r1
    obtain ⟨A1, c1', B1, d1', hkz, hkr, hl1, hm1, hl2, hm2, hwd, hwr, hfar, hfar2, hx⟩ := hcut
    have p0 := num_cell0 ((hx.block gx (iter_lt HKX.out) (by omega)).trans HKX.out)
    have p1 := num_cell0 ((hx.block gy (iter_lt HKY.out) (by omega)).trans HKY.out)
    have p2 := num_cell1 hkz
    have p3 := one_free hkz 0
    have p4 := num_cell0 hkz
    have q2 := num_cell1 hkr
    have q3 := one_free hkr 0
    have q4 := num_cell0 hkr
    have hne2 := hzr
    have s3 : ∀ u, (wc.drew.setCell ⟨gz, 0, none⟩ u).frozen? ⟨gr, 0, none⟩ = false := fun u => one_free ((one_other (w := wc.drew) (by exact hzr)).trans hkr) 0
    have s4 : ∀ u, (wc.drew.setCell ⟨gz, 0, none⟩ u).cell? ⟨gr, 0, none⟩ = some (.bool false) := fun u => num_cell0 ((one_other (w := wc.drew) (by exact hzr)).trans hkr)
    have fin : ∀ (b1 b2 : Bool), b1 = decide (x.tdiv y < 0) → b2 = decide (x.tmod y < 0) → IntAt ((wc.drew.setCell ⟨gz, 0, none⟩ (.bool b1)).setCell ⟨gr, 0, none⟩ (.bool b2)) gz (x.tdiv y) ∧ IntOwn w.heap.size ((wc.drew.setCell ⟨gz, 0, none⟩ (.bool b1)).setCell ⟨gr, 0, none⟩ (.bool b2)) gr (x.tmod y) ∧ Ext (fun b => b = gz ∨ b = gr) w ((wc.drew.setCell ⟨gz, 0, none⟩ (.bool b1)).setCell ⟨gr, 0, none⟩ (.bool b2)) := by
      intro b1 b2 hb1 hb2
      have kz : (wc.drew.setCell ⟨gz, 0, none⟩ (.bool b1)).heap[gz]? = some (.cells #[.bool b1, .slice A1 (wds (x.natAbs / y.natAbs)).length c1'] 80 (0, 0)) := cells_set (w := wc.drew) hkz 0 (.bool b1)
      have kz2 : ((wc.drew.setCell ⟨gz, 0, none⟩ (.bool b1)).setCell ⟨gr, 0, none⟩ (.bool b2)).heap[gz]? = some (.cells #[.bool b1, .slice A1 (wds (x.natAbs / y.natAbs)).length c1'] 80 (0, 0)) := (one_other (by exact hzr.symm)).trans kz
      have kr : (wc.drew.setCell ⟨gz, 0, none⟩ (.bool b1)).heap[gr]? = some (.cells #[.bool false, .slice B1 (wds (x.natAbs % y.natAbs)).length d1'] 80 (0, 0)) := (one_other (w := wc.drew) (by exact hzr)).trans hkr
      have kr2 := cells_set kr 0 (.bool b2)
      refine ⟨⟨A1, c1', ?_, ?_, hm1, ?_⟩, ⟨B1, d1', ?_, ?_⟩, ?_⟩
      · rw [natAbs_quo, ← hb1]; exact kz2
      · rw [natAbs_quo]; exact hl1
      · rw [natAbs_quo]
        exact ((hwd.of_heap (heap_drew' wc)).other _ (fun a ha => (hfar a ha).1)).other _ (fun a ha => (hfar a ha).2)
      · rw [tmodAbs, ← hb2]; exact kr2
      · rw [tmodAbs]
        have hz := HLT.out
        have hr := HLR.out
        exact hwr.ext (Ext.setCell (D := fun b => b = gz ∨ b = gr) (p := ⟨gr, 0, none⟩) (Ext.setCell (D := fun b => b = gz ∨ b = gr) (p := ⟨gz, 0, none⟩) (Ext.refl _ wc).drew (fun _ => .inl rfl) _) (fun _ => .inr rfl) _) (fun g hg => by omega)
      · exact Ext.setCell (D := fun b => b = gz ∨ b = gr) (p := ⟨gr, 0, none⟩) (Ext.setCell (D := fun b => b = gz ∨ b = gr) (p := ⟨gz, 0, none⟩) hx.drew (fun _ => .inl rfl) _) (fun _ => .inr rfl) _
    have FIN := Lib.hid fin
    clear hkz hkr hwd hwr hfar hfar2 hx fin d0 e0
    by_cases h1 : x.natAbs / y.natAbs = 0
    · by_cases h2' : x.natAbs % y.natAbs = 0
      · as_aux_lemma =>
          have hlen1 : (wds (x.natAbs / y.natAbs)).length = 0 := by rw [h1, wds_zero]; rfl
          have hn1 : false = decide (x.tdiv y < 0) := by
            have := natAbs_quo x y
            rw [h1] at this
            rw [Int.natAbs_eq_zero.1 this]
            rfl
          have HN1 := Lib.hid hn1
          rw [hlen1] at p2
          clear hn1 hlen1
          have hlen2 : (wds (x.natAbs % y.natAbs)).length = 0 := by rw [h2', wds_zero]; rfl
          have hn2 : false = decide (x.tmod y < 0) := by
            have := tmodAbs x y
            rw [h2'] at this
            rw [Int.natAbs_eq_zero.1 this]
            rfl
          have HN2 := Lib.hid hn2
          rw [hlen2] at q2
          clear hn2 hlen2
          clear h1 h2' hl1 hl2
          go_wp2_with fail
          go_region
          all_goals
            go_wp2_with fail
            go_ret2
            exact ⟨rfl, FIN.out _ _ HN1.out HN2.out⟩
      · as_aux_lemma =>
          have hlen1 : (wds (x.natAbs / y.natAbs)).length = 0 := by rw [h1, wds_zero]; rfl
          have hn1 : false = decide (x.tdiv y < 0) := by
            have := natAbs_quo x y
            rw [h1] at this
            rw [Int.natAbs_eq_zero.1 this]
            rfl
          have HN1 := Lib.hid hn1
          rw [hlen1] at p2
          clear hn1 hlen1
          have hn2 := wds_pos.2 h2'
          have HN2 := Lib.hid (HSR.out h2')
          obtain ⟨n2, hn2e⟩ : ∃ n2, (wds (x.natAbs % y.natAbs)).length = n2 := ⟨_, rfl⟩
          rw [hn2e] at q2 hn2
          have hd2 : decide (0 < n2) = true := decide_eq_true hn2
          clear hn2e
          clear h1 h2' hl1 hl2
          go_wp2_with fail
          go_region
          all_goals
            go_wp2_with fail
            go_ret2
            exact ⟨rfl, FIN.out _ _ HN1.out HN2.out⟩
    · by_cases h2' : x.natAbs % y.natAbs = 0
      · as_aux_lemma =>
          have hn1 := wds_pos.2 h1
          have HN1 := Lib.hid (HSG.out h1)
          obtain ⟨n1, hn1e⟩ : ∃ n1, (wds (x.natAbs / y.natAbs)).length = n1 := ⟨_, rfl⟩
          rw [hn1e] at p2 hn1
          have hd1 : decide (0 < n1) = true := decide_eq_true hn1
          clear hn1e
          have hlen2 : (wds (x.natAbs % y.natAbs)).length = 0 := by rw [h2', wds_zero]; rfl
          have hn2 : false = decide (x.tmod y < 0) := by
            have := tmodAbs x y
            rw [h2'] at this
            rw [Int.natAbs_eq_zero.1 this]
            rfl
          have HN2 := Lib.hid hn2
          rw [hlen2] at q2
          clear hn2 hlen2
          clear h1 h2' hl1 hl2
          go_wp2_with fail
          go_region
          all_goals
            go_wp2_with fail
            go_ret2
            exact ⟨rfl, FIN.out _ _ HN1.out HN2.out⟩
      · as_aux_lemma =>
          have hn1 := wds_pos.2 h1
          have HN1 := Lib.hid (HSG.out h1)
          obtain ⟨n1, hn1e⟩ : ∃ n1, (wds (x.natAbs / y.natAbs)).length = n1 := ⟨_, rfl⟩
          rw [hn1e] at p2 hn1
          have hd1 : decide (0 < n1) = true := decide_eq_true hn1
          clear hn1e
          have hn2 := wds_pos.2 h2'
          have HN2 := Lib.hid (HSR.out h2')
          obtain ⟨n2, hn2e⟩ : ∃ n2, (wds (x.natAbs % y.natAbs)).length = n2 := ⟨_, rfl⟩
          rw [hn2e] at q2 hn2
          have hd2 : decide (0 < n2) = true := decide_eq_true hn2
          clear hn2e
          clear h1 h2' hl1 hl2
          go_wp2_with fail
          go_region_held3 (fun w' => w'.cell? ⟨gx, 0, none⟩ = some (.bool nx) ∧ w'.cell? ⟨gy, 0, none⟩ = some (.bool ny) ∧ w'.cell? ⟨gz, 1, none⟩ = some (.slice A1 n1 c1') ∧ w'.cell? ⟨gr, 1, none⟩ = some (.slice B1 n2 d1'))
            (first | (with_reducible assumption) | (with_reducible exact iqr_drew p0 p1 p2 q2) | (with_reducible exact iqr_drew' (iqr_set ⟨p0, p1, p2, q2⟩ hgx hgy hzr)) | (with_reducible exact iqr_drew' (iqr_set2 (iqr_set ⟨p0, p1, p2, q2⟩ hgx hgy hzr) hgx2 hgy2 hzr)) | (with_reducible exact iqr_set (by assumption) hgx hgy hzr) | (with_reducible exact iqr_set2 (by assumption) hgx2 hgy2 hzr))
            (fail)
          all_goals
            go_wp2_with fail
            go_ret2
            exact ⟨rfl, FIN.out _ _ HN1.out HN2.out⟩
theorem intQuoRem_walk (gz gr gx gy : Nat) (x y : Int) (w : World) (hz : IntNew w gz) (hr : IntNew w gr) (hx : IntAt w gx x) (hy : IntAt w gy y) (hzr : gr ≠ gz) (hgx : gx ≠ gz) (hgy : gy ≠ gz) (hgx2 : gx ≠ gr) (hgy2 : gy ≠ gr) (hk : DivIs w) (hlx : (wds x.natAbs).length ≤ 900) (hly : (wds y.natAbs).length ≤ 4) (hy0 : y ≠ 0) :
    Calls Tryz.prog 143 #[.pointer (some ⟨gz, 0, none⟩), .pointer (some ⟨gx, 0, none⟩), .pointer (some ⟨gy, 0, none⟩), .pointer (some ⟨gr, 0, none⟩)] w fun e w' => e = .returned (.tuple #[.pointer (some ⟨gz, 0, none⟩), .pointer (some ⟨gr, 0, none⟩)]) ∧ IntAt w' gz (x.tdiv y) ∧ IntAt w' gr (x.tmod y) ∧ Ext (fun b => b = gz ∨ b = gr) w w' := by
  refine (intQuoRemOwn_walk gz gr gx gy x y w hz hr hx hy hzr hgx hgy hgx2 hgy2 hk hlx hly hy0).mono ?_
  rintro e w' ⟨h1, h2, h3, h4⟩
  exact ⟨h1, h2, h3.at, h4⟩
end Go.Proofs.YtapfolgiafnllaaGreatDoor
