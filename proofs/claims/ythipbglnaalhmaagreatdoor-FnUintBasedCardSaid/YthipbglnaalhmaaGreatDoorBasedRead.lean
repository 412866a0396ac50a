/-
  SetString in base 0, ParseUint, impl.UintRead of texts that tell the base.
-/
import Derived.Test.YthipbglnaalhmaaGreatDoorScanB0
import Derived.Test.YthipbglnaalhmaaGreatDoorUintRead
import Derived.Test.YthipbglnaalhmaaGreatDoorNewUint
namespace Go.Proofs.YthipbglnaalhmaaGreatDoor
open Go.RowKit

/-- scan reads the text as V in the base b. -/
def ScanFits (l : List UInt8) (p : Addr) (b : Int) (V : Nat) : Prop := ∀ (g : Nat) (w : World), ReaderAt w g l 0 → EofIs w p → g ≠ 0 → g < w.heap.size →
  Calls Tryz.prog 190 #[.slice none 0 0, .iface 111 (.pointer (some ⟨g, 0, none⟩)), .int .i64 0, .bool false] w
    fun e w' => ∃ A c n, e = .returned (.tuple #[.slice A (wds V).length c, .int .i64 b, .int .i64 n, .nilIface]) ∧ ScanOut w.heap.size w' A c V ∧ ReaderAt w' g l l.length ∧ EofIs w' p ∧ Ext (fun b => b = g) w w'
set_option maxRecDepth 100000 in
set_option maxHeartbeats 1000000 in
theorem intScanB_walk (g gz : Nat) (l : List UInt8) (p : Addr) (w : World) (b : Int) (V : Nat) (t : List UInt8) (hl0 : Hid (l = 48 :: t)) (hsf : ScanFits l p b V) (hl : l.length ≤ 1000) (hr : ReaderAt w g l 0) (hz : IntNew w gz) (hp : EofIs w p) (hg : g ≠ 0) (hgz : gz ≠ 0) (hne : g ≠ gz) :
    Calls Tryz.prog 171 #[.pointer (some ⟨gz, 0, none⟩), .iface 111 (.pointer (some ⟨g, 0, none⟩)), .int .i64 0] w
      fun e w' => e = .returned (.tuple #[.pointer (some ⟨gz, 0, none⟩), .int .i64 b, .nilIface]) ∧ IntAt w' gz (V : Int) ∧ ReaderAt w' g l l.length ∧ EofIs w' p ∧ Ext (Fld g gz) w w' := by
  have c0 := num_cell0 hz
  have c1 := num_cell1 hz
  have HZ := Lib.hid hz
  have HS : Hid (Calls Tryz.prog 189 #[.iface 111 (.pointer (some ⟨g, 0, none⟩))] w (ReadPost w g l 0 (.tuple #[.bool false, .nilIface]))) := by
    apply Lib.hid
    have hl0 := hl0.out
    subst hl0
    exact scanSign_walk g 48 t p w hr (by omega) hp hg (by decide)
  have HSF := Lib.hid hsf
  clear hsf hl0
  go_enter Tryz.func171, Tryz.ntmps171
  go_wp2_with fail
  refine HS.out.mono ?_
  rintro e w1 ⟨rfl, hr1, hx1, hs1⟩
  have hz1 : IntNew w1 gz := (hx1.block gz (iter_lt hz) (fun e => hne e.symm)).trans hz
  have c01 := num_cell0 hz1
  have c11 := num_cell1 hz1
  have hp1 := hp.ext hx1 (fun h => hg h.symm)
  clear c0 c1
  go_wp2_with fail
  refine (HSF.out g w1 hr1 hp1 hg (by rw [hs1]; exact hr.lt)).mono ?_
  rintro e w2 ⟨A, c2, n, rfl, ⟨ho1, ho2, ho3, ho4⟩, hr2, hp2, hx2⟩
  have hz2 : IntNew w2 gz := (hx2.block gz (iter_lt hz1) (fun e => hne e.symm)).trans hz1
  have HZ2 := Lib.hid hz2
  have c02 := num_cell0 hz2
  have c12 := num_cell1 hz2
  have f02 := one_free hz2 0
  have f12 := one_free hz2 1
  have hgw : gz < w1.heap.size := by rw [hs1]; exact iter_lt hz
  have key : IntAt ((w2.setCell ⟨gz, 1, none⟩ (.slice A (wds V).length c2)).setCell ⟨gz, 0, none⟩ (.bool false)) gz (V : Int) ∧
      ReaderAt ((w2.setCell ⟨gz, 1, none⟩ (.slice A (wds V).length c2)).setCell ⟨gz, 0, none⟩ (.bool false)) g l l.length ∧
      EofIs ((w2.setCell ⟨gz, 1, none⟩ (.slice A (wds V).length c2)).setCell ⟨gz, 0, none⟩ (.bool false)) p ∧
      Ext (Fld g gz) w ((w2.setCell ⟨gz, 1, none⟩ (.slice A (wds V).length c2)).setCell ⟨gz, 0, none⟩ (.bool false)) :=
    ⟨IntAt.put hz2 (Int.natAbs_natCast V) (decide_eq_false (by omega)) ho1 ho2 ho3 (fun a ha => by have := ho4 a ha; omega), (hr2.other _ (by exact hne)).other _ (by exact hne), (hp2.other _ (by exact Ne.symm hgz)).other _ (by exact Ne.symm hgz),
      ((show Ext (Fld g gz) w w2 from (hx1.mono (fun _ _ h => Or.inl h)).trans (hx2.mono (fun _ _ h => Or.inl h))).setCell (p := ⟨gz, 1, none⟩) (fun _ => Or.inr rfl) _).setCell (p := ⟨gz, 0, none⟩) (fun _ => Or.inr rfl) _⟩
  have KEY := Lib.hid key
  clear key hr2 hz1 hz2 hx1 hx2 ho1 ho2 ho3 ho4
  by_cases h0 : 0 < (wds V).length
  · go_wp2_with fail
    exact bodyPost_ret (v := .tuple #[.pointer (some ⟨gz, 0, none⟩), .int .i64 b, .nilIface]) (by simp [results, Tryz.results171, go_sem]) rfl ⟨rfl, KEY.out⟩
  · go_wp2_with fail
    exact bodyPost_ret (v := .tuple #[.pointer (some ⟨gz, 0, none⟩), .int .i64 b, .nilIface]) (by simp [results, Tryz.results171, go_sem]) rfl ⟨rfl, KEY.out⟩
set_option maxRecDepth 100000 in
set_option maxHeartbeats 1000000 in
theorem setFromB_walk (g gz : Nat) (l : List UInt8) (p : Addr) (w : World) (b : Int) (V : Nat) (t : List UInt8) (hl0 : Hid (l = 48 :: t)) (hsf : ScanFits l p b V) (hl : l.length ≤ 1000) (hr : ReaderAt w g l 0) (hz : IntNew w gz) (hp : EofIs w p) (hg : g ≠ 0) (hgz : gz ≠ 0) (hne : g ≠ gz) :
    Calls Tryz.prog 137 #[.pointer (some ⟨gz, 0, none⟩), .iface 111 (.pointer (some ⟨g, 0, none⟩)), .int .i64 0] w
      fun e w' => e = .returned (.tuple #[.pointer (some ⟨gz, 0, none⟩), .bool true]) ∧ IntAt w' gz ((V : Int)) ∧ Ext (Fld g gz) w w' := by
  have m1 := met_read g
  have hnq := eof_neq p
  go_enter Tryz.func137, Tryz.ntmps137
  go_wp2_with fail
  refine (intScanB_walk g gz l p w b V t hl0 hsf hl hr hz hp hg hgz hne).mono ?_
  rintro e w1 ⟨rfl, hi1, hr1, hp1, hx1⟩
  have he1 : w1.cell? ⟨0, 0, none⟩ = some (.iface 113 (.pointer (some p))) := hp1
  have HI := Lib.hid hi1
  have HX := Lib.hid hx1
  go_wp2_with fail
  have hnx : nextErr l l.length p = .iface 113 (.pointer (some p)) := if_neg (Nat.lt_irrefl _)
  have hR := readByte_walk g l l.length p w1 hr1 (by omega) hp1 hg (Nat.le_refl _)
  rw [hnx] at hR
  have HRB := Lib.hid hR
  have HR1 := Lib.hid hr1
  clear hR hnx hr1 hi1 hx1
  refine HRB.out.mono ?_
  rintro e w2 ⟨rfl, hr2, hx2, hs2⟩
  have he2 : w2.cell? ⟨0, 0, none⟩ = some (.iface 113 (.pointer (some p))) := hp1.ext hx2 (fun h => hg h.symm)
  have HX2 := Lib.hid hx2
  clear hr2 hx2
  go_wp2_with fail
  exact bodyPost_ret (v := .tuple #[.pointer (some ⟨gz, 0, none⟩), .bool true]) (by simp [results, Tryz.results137, go_sem]) rfl
    ⟨rfl, HI.out.ext HX2.out (fun h => hne h.symm) (fun A hA hn a ha => reader_words HR1.out hA hn a ha), HX.out.trans (HX2.out.mono fun _ _ h => Or.inl h)⟩

set_option maxRecDepth 100000 in
set_option maxHeartbeats 1000000 in
theorem setStringB_walk (gz : Nat) (l : List UInt8) (p : Addr) (w : World) (b : Int) (V : Nat) (t : List UInt8) (hl0 : Hid (l = 48 :: t)) (hsf : ScanFits l p b V) (hl : l.length ≤ 1000) (hz : IntNew w gz) (hp : EofIs w p) (hgz : gz ≠ 0) :
    Calls Tryz.prog 92 #[.pointer (some ⟨gz, 0, none⟩), .string (S l), .int .i64 0] w
      fun e w' => e = .returned (.tuple #[.pointer (some ⟨gz, 0, none⟩), .bool true]) ∧ IntAt w' gz ((V : Int)) ∧ Ext (fun b => b = gz) w w' := by
  go_enter Tryz.func92, Tryz.ntmps92
  go_wp2_with fail
  refine (newReader_walk l w).mono ?_
  rintro e w1 ⟨rfl, hr1, hb1⟩
  have hz1 : IntNew w1 gz := (hb1.block gz (iter_lt hz)).trans hz
  have hlt := iter_lt hz
  have hp1 := hp.below hb1
  have hplt := hp.lt
  obtain ⟨g, hg⟩ : ∃ g, w.heap.size = g := ⟨_, rfl⟩
  rw [hg] at hr1 ⊢
  have HG := Lib.hid hg
  clear hg
  go_wp2_with fail
  refine (setFromB_walk g gz l p w1 b V t hl0 hsf hl hr1 hz1 hp1 (by have := HG.out; omega) hgz (by have := HG.out; omega)).mono ?_
  rintro e w2 ⟨rfl, hi2, hx2⟩
  go_wp2_with fail
  go_ret2
  refine ⟨rfl, hi2, (Ext.of_below hb1).trans' hx2 (fun i hi h => ?_)⟩
  rcases h with h | h
  · have := HG.out; omega
  · exact h


set_option maxRecDepth 100000 in
set_option maxHeartbeats 2000000 in
theorem parseUintB_walk (l : List UInt8) (p : Addr) (w : World) (b : Int) (V : Nat) (t : List UInt8) (hl0 : Hid (l = 48 :: t)) (hsf : ScanFits l p b V) (hl : l.length ≤ 1000) (hp : EofIs w p) (hV : V < 18446744073709551616) :
    Calls Tryz.prog 43 #[.string (S l)] w (CheckPost w ((V : Int))) := by
  obtain ⟨ho, _, hwl⟩ := over_u64 hV
  have hpl := hp.lt
  go_enter Tryz.func43, Tryz.ntmps43
  go_wp2_with fail
  refine (setStringB_walk (w.heap.size + 1) l p _ b V t hl0 hsf hl (heap_at _ _ (heap_size_alloc _ _)) ((hp.below (below_a1 _ _)).below (below_a1 _ _)) (by omega)).mono ?_
  rintro e w2 ⟨rfl, hi2, hx2⟩
  have hk2 := (hx2.block w.heap.size (by rw [heap_size_alloc, heap_size_alloc]; omega) (by omega)).trans (heap_old (o := .cells #[.bool false, .slice none 0 0] 89) (heap_here w (.cells #[.pointer none] 62)))
  have hb2 : Below w.heap.size w w2 := (below_a2 _ _ _).trans (hx2.below (by rw [heap_size_alloc, heap_size_alloc]; omega) (fun k hk => by omega))
  have HK2 := Lib.hid hk2
  have HI2 := Lib.hid hi2
  have HB2 := Lib.hid hb2
  clear hk2 hi2 hx2 hb2
  go_wp2_with fail
  refine (checkNewUint_walk (w.heap.size + 1) ((V : Int)) w2 HI2.out (by omega) ho).mono ?_
  rintro e w5 ⟨g5, rfl, hi5, hb5, hfr⟩
  have hk5 := (hb5.block w.heap.size (iter_lt HK2.out)).trans HK2.out
  have c0 := one_cell hk5
  have f0 := one_free hk5 0
  have HK5 := Lib.hid hk5
  have HI5 := Lib.hid hi5
  have HB5 := Lib.hid hb5
  clear hk5 hi5 hb5
  go_wp2_with fail
  have k0 := one_set (u := .pointer (some ⟨g5, 0, none⟩)) HK5.out
  have d0 := one_cell k0
  exact bodyPost_ret (v := .tuple #[.agg #[.pointer (some ⟨g5, 0, none⟩)], .nilIface]) (by simp [results, Tryz.results43, go_sem, d0]) rfl
    ⟨g5, rfl, HI5.out.store HK5.out (by decide) (by decide) _, (bt HB2.out HB5.out).setCell (p := ⟨w.heap.size, 0, none⟩) (Nat.le_refl _) _, Nat.le_trans HB2.out.size hfr⟩

set_option maxRecDepth 100000 in
set_option maxHeartbeats 2000000 in
theorem uintReadCB_walk (l : List UInt8) (p : Addr) (b1 b2 b3 : Nat) (w : World) (b : Int) (V : Nat) (t : List UInt8) (hl0 : Hid (l = 48 :: t)) (hsf : ScanFits l p b V) (hl : l.length ≤ 1000) (hV : V < 18446744073709551616) (hp : EofIs w p) (hleaf : LeafIs w) (h1 : w.heap[b1]? = some (.cells #[.string (S l)] 9 (0, 0)))
    (h2 : w.heap[b2]? = some (.cells #[.string ⟨#[]⟩] 9 (0, 0))) (h3 : w.heap[b3]? = some (.cells #[.bool false] 4 (0, 0))) (hne : b2 ≠ b3) :
    Calls Tryz.prog 42 #[.pointer (some ⟨b1, 0, none⟩), .pointer (some ⟨b2, 0, none⟩), .pointer (some ⟨b3, 0, none⟩)] w fun e w' => e = .returned (.tuple #[]) ∧ Ext (fun k => k = b2 ∨ k = b3) w w' ∧
      w'.heap[b2]? = some (.cells #[.string (S (zText (V : Int)))] 9 (0, 0)) ∧ w'.heap[b3]? = some (.cells #[.bool true] 4 (0, 0)) := by
  have c1 := one_cell h1
  have hl2 := iter_lt h2
  have hl3 := iter_lt h3
  have H2 := Lib.hid h2
  have H3 := Lib.hid h3
  clear h1 h2 h3
  obtain ⟨_, hnl, _⟩ := over_u64 hV
  go_enter Tryz.func42, Tryz.ntmps42
  go_wp2_with fail
  refine (parseUintB_walk l p w b V t hl0 hsf hl hp hV).mono ?_
  rintro e w1 ⟨g, rfl, hi1, hb1, _⟩
  have HB := Lib.hid hb1
  have HI := Lib.hid hi1
  clear hb1 hi1
  go_wp2_with fail
  refine (uintString_walk g ((V : Int)) _ (HI.out.below (below_a1 _ _)) hnl ((hleaf.below HB.out).below (below_a1 _ _))).mono ?_
  rintro e w2 ⟨rfl, hb2⟩
  have hbb := bt (bt HB.out (below_a1 w1 (.cells #[.pointer (some ⟨g, 0, none⟩)] 62))) hb2
  have k2 := (hbb.block b2 hl2).trans H2.out
  have k3 := (hbb.block b3 hl3).trans H3.out
  have c2 := one_cell k2
  have c3 := one_cell k3
  have f2 := one_free k2 0
  have f3 := one_free k3 0
  have K2 := Lib.hid k2
  have K3 := Lib.hid k3
  have HBB := Lib.hid hbb
  clear k2 k3 hbb hb2
  go_wp2_with fail
  go_end0
  refine ⟨rfl, (((Ext.of_below HBB.out).setCell (p := ⟨b2, 0, none⟩) (fun _ => .inl rfl) _).setCell (p := ⟨b3, 0, none⟩) (fun _ => .inr rfl) _), ?_, ?_⟩
  · rw [one_other hne]
    exact one_set K2.out
  · exact one_set ((one_other (a := ⟨b2, 0, none⟩) hne.symm).trans K3.out)

set_option maxRecDepth 100000 in
set_option maxHeartbeats 2000000 in
theorem uintReadB_walk (l : List UInt8) (p : Addr) (w : World) (b : Int) (V : Nat) (t : List UInt8) (hl0 : Hid (l = 48 :: t)) (hsf : ScanFits l p b V) (hl : l.length ≤ 1000) (hV : V < 18446744073709551616) (hp : EofIs w p) (hleaf : LeafIs w) :
    Calls Tryz.prog 12 #[.string (S l)] w fun e w' => e = .returned (.tuple #[.string (S (zText (V : Int))), .bool true]) ∧ Below w.heap.size w w' := by
  have hmf : ∀ (fn : Fn) (first cap : Array Value) (w : World), (Instr.makeFunc fn first cap).run Tryz.prog w = .ok (.func fn first cap) w := fun _ _ _ _ => rfl
  go_enter Tryz.func12, Tryz.ntmps12
  go_wp2_with fail
  refine (safe_ret 42 _ _ (fun w' => Below w.heap.size w w' ∧ w'.heap[w.heap.size + 1]? = some (.cells #[.string (S (zText (V : Int)))] 9 (0, 0)) ∧ w'.heap[w.heap.size + 1 + 1]? = some (.cells #[.bool true] 4 (0, 0))) (callCUintRead _) ?_).mono ?_
  · refine (uintReadCB_walk l p _ _ _ _ b V t hl0 hsf hl hV ((((hp.below (below_a1 _ _)).below (below_a1 _ _)).below (below_a1 _ _)).below (below_a1 _ _)) ((((hleaf.below (below_a1 _ _)).below (below_a1 _ _)).below (below_a1 _ _)).below (below_a1 _ _)) ?_ ?_ ?_ ?_).mono ?_
    · simp only [heap_get, heap_size_alloc]
      rw [if_neg (by omega), if_neg (by omega), if_neg (by omega), if_pos trivial]
    · simp only [heap_get, heap_size_alloc]
      rw [if_neg (by omega), if_neg (by omega), if_pos trivial]
    · simp only [heap_get, heap_size_alloc]
      rw [if_neg (by omega), if_pos trivial]
    · omega
    · rintro e w1 ⟨rfl, he, k2, k3⟩
      have hz := he.size
      simp only [heap_size_alloc] at hz
      refine ⟨rfl, ?_, ?_, ?_, ?_⟩
      · rw [he.block _ (by simp only [heap_size_alloc]; omega) (by simp only [heap_size_alloc]; omega)]
        simp only [heap_get, heap_size_alloc]
        rw [if_pos trivial]
      · refine Below.setCell (Below.setCell ?_ (by simp only [heap_size_alloc]; omega) _) (by simp only [heap_size_alloc]; omega) _
        exact ((((Below.refl _ w).alloc (Nat.le_refl _) _).alloc (by simp only [heap_size_alloc]; omega) _).alloc (by simp only [heap_size_alloc]; omega) _).alloc (by simp only [heap_size_alloc]; omega) _ |>.trans (he.below (by simp only [heap_size_alloc]; omega) (by rintro k (rfl | rfl) <;> omega))
      · rw [one_other (by simp only [heap_size_alloc]; omega), one_other (by simp only [heap_size_alloc]; omega)]
        exact k2
      · rw [one_other (by simp only [heap_size_alloc]; omega), one_other (by simp only [heap_size_alloc]; omega)]
        exact k3
  · rintro e w1 ⟨rfl, hb, k2, k3⟩
    have c2 := one_cell k2
    have c3 := one_cell k3
    have f2 := one_free k2 0
    have f3 := one_free k3 0
    have K2 := Lib.hid k2
    have K3 := Lib.hid k3
    clear k2 k3
    go_wp2_with fail
    have e2 := (one_other (u := .bool true) (w := w1.setCell ⟨w.heap.size + 1, 0, none⟩ (.string (S (zText (V : Int))))) (g := w.heap.size + 1) (a := ⟨w.heap.size + 1 + 1, 0, none⟩) (by simp)).trans (one_set (u := .string (S (zText (V : Int)))) K2.out)
    have e3 := one_set (u := .bool true) ((one_other (u := .string (S (zText (V : Int)))) (w := w1) (g := w.heap.size + 1 + 1) (a := ⟨w.heap.size + 1, 0, none⟩) (by simp)).trans K3.out)
    have d2 := one_cell e2
    have d3 := one_cell e3
    exact bodyPost_ret (v := .tuple #[.string (S (zText (V : Int))), .bool true]) (by simp [results, Tryz.results12, go_sem, d2, d3]) rfl ⟨rfl, (hb.setCell (p := ⟨w.heap.size + 1, 0, none⟩) (by simp) _).setCell (p := ⟨w.heap.size + 1 + 1, 0, none⟩) (by simp; omega) _⟩
end Go.Proofs.YthipbglnaalhmaaGreatDoor
