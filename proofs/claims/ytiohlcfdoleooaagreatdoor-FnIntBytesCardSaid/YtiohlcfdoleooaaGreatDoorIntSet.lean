/-
  (*big.Int).Set into a new number.
-/
import Derived.Test.YtiohlcfdoleooaaGreatDoorNatAdd
import Derived.Test.YtiohlcfdoleooaaGreatDoorOver
import Derived.Deep.RegionWith
import Derived.Deep.RegionHeld3
namespace Go.Proofs.YtiohlcfdoleooaaGreatDoor
open Go.RowKit

theorem infoInt' : (Tryz.prog.info? 101).map (·.size) = some 2 := by kernel_rfl
/-- Two numbers of two blocks have two addresses. -/
theorem int_neq {w : World} {g gx : Nat} {a b c d : Value} (hne : gx ≠ g) (h1 : w.heap[g]? = some (.cells #[a, b] 101 (0, 0))) (h2 : w.heap[gx]? = some (.cells #[c, d] 101 (0, 0))) :
    (binOp BinOp.neq 62 (.pointer (some ⟨g, 0, none⟩)) (.pointer (some ⟨gx, 0, none⟩))).run Tryz.prog w = .ok (.bool true) w ∧ (binOp BinOp.eql 62 (.pointer (some ⟨g, 0, none⟩)) (.pointer (some ⟨gx, 0, none⟩))).run Tryz.prog w = .ok (.bool false) w := by
  obtain ⟨i, hi, hs⟩ := Option.map_eq_some_iff.1 infoInt'
  have hn : (⟨g, 0, none⟩ : Addr) ≠ ⟨gx, 0, none⟩ := fun e => hne (by cases e; rfl)
  have hr : (sameAddr ⟨g, 0, none⟩ ⟨gx, 0, none⟩).run Tryz.prog w = .ok false w := run_sameAddr_other w hn h1 h2
  have h : ∀ d : Nat, (Op.equalIn (d + 1) 62 (.pointer (some ⟨g, 0, none⟩)) (.pointer (some ⟨gx, 0, none⟩))).run Tryz.prog w = .ok false w := fun d => by
    simp [Op.equalIn, run_underlying Tryz.underlying62, sizeOf, typeInfo, hi, hs, hr]
  constructor
  · simp only [binOp]
    simp [Op.equal, Op.maxDepth, h 9999]
  · simp only [binOp]
    simp [Op.equal, Op.maxDepth, h 9999]

set_option maxRecDepth 100000 in
set_option maxHeartbeats 2000000 in
theorem intSet_walk (gz gx : Nat) (z : Int) (w : World) (hz : IntNew w gz) (hx : IntAt w gx z) (hne : gx ≠ gz) (hl : (wds z.natAbs).length ≤ 80000) :
    Calls Tryz.prog 127 #[.pointer (some ⟨gz, 0, none⟩), .pointer (some ⟨gx, 0, none⟩)] w fun e w' => e = .returned (.pointer (some ⟨gz, 0, none⟩)) ∧ IntAt w' gz z ∧ Ext (fun b => b = gz) w w' := by
  obtain ⟨A, c, hk, h2, h3, h4⟩ := hx
  have hnq := (int_neq hne hz hk).1
  have c0 := num_cell0 hz
  have c1 := num_cell1 hz
  have d0 := num_cell0 hk
  have d1 := num_cell1 hk
  have HS := Lib.hid (setNew_walk A c z.natAbs w.drew h2 h3 (by omega) h4.rd)
  have HZ := Lib.hid hz
  have HK := Lib.hid hk
  clear h4 hz hk
  go_enter Tryz.func127, Tryz.ntmps127
  go_wp2_with fail
  go_region_with ((go_at_call 172; (with_reducible refine HS.out.mono ?_); rintro e w1 ⟨A1, c1', rfl, hown, hb, hs⟩; have hz1 := (hb.block gz (iter_lt HZ.out)).trans HZ.out; have e0 := num_cell0 hz1; have e1 := num_cell1 hz1; have f0 := one_free hz1 0; have f1 := one_free hz1 1; have hk1 := (hb.block gx (iter_lt HK.out)).trans HK.out; have e2 := num_cell0 hk1; have HZ1 := Lib.hid hz1; have HO := Lib.hid hown; have HB := Lib.hid hb; clear hz1 hk1 hown hb))
  all_goals
    have hr := HO.out.room
    have hlt := iter_lt HZ.out
    go_wp2_with fail
    go_ret
    exact ⟨rfl, IntAt.put HZ1.out rfl rfl hr.1 (by omega) HO.out.wd (fun a ha => by have := HO.out.ge a ha; exact Nat.ne_of_gt (Nat.lt_of_lt_of_le hlt this)),
      Ext.setCell (D := fun b => b = gz) (p := ⟨gz, 0, none⟩) (Ext.setCell (D := fun b => b = gz) (p := ⟨gz, 1, none⟩) (((Ext.refl _ w).drewN 1).trans (Ext.of_below HB.out)) (fun _ => rfl) _) (fun _ => rfl) _⟩
end Go.Proofs.YtiohlcfdoleooaaGreatDoor
