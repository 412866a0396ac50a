/-
  (*big.Int).SetString in base 0, of a decimal text.
-/
import Derived.Test.YtiohlcfdoleooaaGreatDoorSetStr
namespace Go.Proofs.YtiohlcfdoleooaaGreatDoor
open Go.RowKit

def ScanZRel (w1 : World) (p : Addr) (zv fv cnt ev pv iv chv dv nv dpv : Value) (wr : World) : Prop :=
  zv = .slice none 0 0 ∧ fv = .bool false ∧ cnt = .int .i64 1 ∧ ev = .iface 145 (.pointer (some p)) ∧ pv = .int .i32 48 ∧ iv = .bool false ∧ chv = .int .u8 0 ∧ dv = .int .u64 0 ∧ nv = .int .i64 0 ∧ dpv = .int .i64 (-1) ∧ wr = w1
set_option maxRecDepth 100000 in
set_option maxHeartbeats 2000000 in
/-- The text 0. -/
theorem scanZero_walk (g : Nat) (p : Addr) (w : World) (hr : ReaderAt w g [48] 0) (hp : EofIs w p) (hg : g ≠ 2) :
    Calls Tryz.prog 216 #[.slice none 0 0, .iface 152 (.pointer (some ⟨g, 0, none⟩)), .int .i64 0, .bool false] w
      fun e w' => e = .returned (.tuple #[.slice none 0 0, .int .i64 10, .int .i64 1, .nilIface]) ∧ ReaderAt w' g [48] 1 ∧ EofIs w' p ∧ Ext (fun b => b = g) w w' := by
  have m1 := met_read g
  have m2 := met_unread g
  have hn0 : nextErr [48] 0 p = .nilIface := rfl
  have hn1 : nextErr [48] 1 p = .iface 145 (.pointer (some p)) := rfl
  go_enter Tryz.func216, Tryz.ntmps216
  go_wp2_with fail
  refine (readByte_walk g [48] 0 p _ hr (by decide) hp hg (by decide)).mono ?_
  rw [hn0]
  rintro e w1 ⟨rfl, hr1, hx1, hs1⟩
  have hp1 := hp.ext hx1 (fun h => hg h.symm)
  have HX1 := Lib.hid hx1
  have hr1' : ReaderAt w1 g [48] 1 := hr1
  clear hx1 hr1
  go_wp2_with fail
  refine (readByte_walk g [48] 1 p _ hr1' (by decide) hp1 hg (by decide)).mono ?_
  rw [hn1]
  rintro e w2 ⟨rfl, hr2, hx2, hs2⟩
  have hp2 := hp1.ext hx2 (fun h => hg h.symm)
  have he2 : w2.cell? ⟨2, 0, none⟩ = some (.iface 145 (.pointer (some p))) := hp2
  have hee := eof_eq p
  have HX2 := Lib.hid hx2
  have HR2 := Lib.hid (show ReaderAt w2 g [48] 1 from hr2)
  clear hx2 hr2
  go_wp2_with fail
  refine (maxPow_walk 10 19 w2 (by decide) (by decide) (by decide) (by decide) (by decide) (by decide)).mono ?_
  rintro e w3 ⟨rfl, rfl⟩
  go_wp2_with fail
  go_loopw [0, 3, 10, 11, 13, 14, 15, 20, 21, 22] (fun zv fv cnt ev pv iv chv dv nv dpv wr => ScanZRel w2 p zv fv cnt ev pv iv chv dv nv dpv wr) (fun _ _ _ _ _ _ _ _ _ _ _ => 0)
  case atStart => exact ⟨rfl, rfl, rfl, rfl, rfl, rfl, rfl, rfl, rfl, rfl, rfl⟩
  case round =>
    obtain ⟨rfl, rfl, rfl, rfl, rfl, rfl, rfl, rfl, rfl, rfl, rfl⟩ := hrel
    go_wp2_with fail
    exact bodyPost_ret (v := .tuple #[.slice none 0 0, .int .i64 10, .int .i64 1, .nilIface]) (by simp [results, Tryz.results216, go_sem]) rfl
      ⟨rfl, HR2.out, hp2, HX1.out.trans HX2.out⟩

theorem scanAny0_walk (g : Nat) (l : List UInt8) (o : Nat) (p : Addr) (w : World) (hr : ReaderAt w g l o) (hl : l.length ≤ 1000) (hp : EofIs w p) (hg : g ≠ 2) (hgB : g < w.heap.size)
    (ho : o < l.length) (hd : allDig (l.drop o) = true) (hnz : (l.drop o).head? ≠ some 48 ∨ (o = 0 ∧ l = [48])) :
    Calls Tryz.prog 216 #[.slice none 0 0, .iface 152 (.pointer (some ⟨g, 0, none⟩)), .int .i64 0, .bool false] w
      fun e w' => ∃ A c n, e = .returned (.tuple #[.slice A (wds (decV (l.drop o))).length c, .int .i64 10, .int .i64 n, .nilIface]) ∧ OwnNat w.heap.size w' A c (decV (l.drop o)) ∧ ReaderAt w' g l l.length ∧ EofIs w' p ∧ Ext (fun b => b = g) w w' := by
  rcases hnz with hnz | ⟨rfl, rfl⟩
  · exact scan0_walk g l o p w hr hl hp hg hgB ho (fun e => hnz (by rw [List.head?_drop, List.getElem?_eq_getElem ho, e])) hd
  · refine (scanZero_walk g p w hr hp hg).mono ?_
    rintro e w1 ⟨rfl, h1, h2, h3⟩
    have e0 : decV (([48] : List UInt8).drop 0) = 0 := by decide
    rw [e0]
    exact ⟨none, 0, 1, by rw [wds_zero]; rfl, .inl ⟨rfl, rfl, rfl⟩, h1, h2, h3⟩
/-- A text that the reference reads has no nought ahead, but for 0 itself. -/
theorem read_nz {l : List UInt8} {c : UInt8} (hok : readOk l = true) (hneg : readNeg l = (c == 45)) (hb : readBody l = l.drop (if c = 45 then 1 else 0)) (ho : (if c = 45 then 1 else 0) < l.length) : (l.drop (if c = 45 then 1 else 0)).head? ≠ some 48 ∨ ((if c = 45 then 1 else 0) = 0 ∧ l = [48]) := by
  rw [← hb]
  by_cases hh : (readBody l).head? = some 48
  · right
    unfold readOk at hok
    rw [Bool.and_eq_true, Bool.and_eq_true] at hok
    obtain ⟨⟨_, h2⟩, h3⟩ := hok
    have hlen : (readBody l).length = 1 := by
      have h4 : (readBody l).length = l.length - (if c = 45 then 1 else 0) := by rw [hb, List.length_drop]
      have h5 : ¬ 1 < (readBody l).length := by
        intro h6
        rw [decide_eq_true h6, hh] at h2
        exact absurd h2 (by decide)
      omega
    obtain ⟨x, hx⟩ := List.length_eq_one_iff.1 hlen
    have hx2 : x = 48 := by rw [hx] at hh; simpa using hh
    subst hx2
    have hc : ¬ c = 45 := by
      intro hc
      rw [hneg, hx, beq_iff_eq.2 hc] at h3
      exact absurd h3 (by decide)
    rw [if_neg hc] at hb ⊢
    refine ⟨rfl, ?_⟩
    rw [hx, List.drop_zero] at hb
    exact hb.symm
  · exact .inl hh

set_option maxRecDepth 100000 in
set_option maxHeartbeats 1000000 in
theorem intScan0_walk (g gz : Nat) (l : List UInt8) (p : Addr) (w : World) (hok : readOk l = true) (hl : l.length ≤ 1000) (hr : ReaderAt w g l 0) (hz : IntNew w gz) (hp : EofIs w p) (hg : g ≠ 2) (hgz : gz ≠ 2) (hne : g ≠ gz) :
    Calls Tryz.prog 197 #[.pointer (some ⟨gz, 0, none⟩), .iface 152 (.pointer (some ⟨g, 0, none⟩)), .int .i64 0] w
      fun e w' => e = .returned (.tuple #[.pointer (some ⟨gz, 0, none⟩), .int .i64 10, .nilIface]) ∧ IntAt w' gz (readZ l) ∧ ReaderAt w' g l l.length ∧ EofIs w' p ∧ Ext (Fld g gz) w w' := by
  obtain ⟨c, t, hlt, hc43, hneg, hbody, hdig, ho⟩ := read_scan hok
  have hab := read_abs l
  have hsgn := read_lt hok
  have c0 := num_cell0 hz
  have c1 := num_cell1 hz
  have HZ := Lib.hid hz
  have HS : Hid (Calls Tryz.prog 215 #[.iface 152 (.pointer (some ⟨g, 0, none⟩))] w (ReadPost w g l (if c = 45 then 1 else 0) (.tuple #[.bool (readNeg l), .nilIface]))) := by
    apply Lib.hid
    rw [hneg, hlt]
    rw [hlt] at hr hl
    exact scanSign_walk g c t p w hr (by omega) hp hg hc43
  have hnz := read_nz hok hneg hbody ho
  obtain ⟨o, hoo⟩ : ∃ o, (if c = 45 then 1 else 0) = o := ⟨_, rfl⟩
  rw [hoo] at HS hbody ho hnz
  rw [hbody] at hab hsgn hdig
  clear hoo hneg hlt hbody
  obtain ⟨sg, hsg⟩ : ∃ sg, readNeg l = sg := ⟨_, rfl⟩
  rw [hsg] at HS hsgn
  clear hsg
  obtain ⟨N, hN⟩ : ∃ N, decV (l.drop o) = N := ⟨_, rfl⟩
  rw [hN] at hab hsgn
  have HAB := Lib.hid hab
  have HSG := Lib.hid hsgn
  have HN := Lib.hid hN
  clear hab hsgn hN
  go_enter Tryz.func197, Tryz.ntmps197
  go_wp2_with fail
  refine HS.out.mono ?_
  rintro e w1 ⟨rfl, hr1, hx1, hs1⟩
  have hz1 : IntNew w1 gz := (hx1.block gz (iter_lt hz) (fun e => hne e.symm)).trans hz
  have c01 := num_cell0 hz1
  have c11 := num_cell1 hz1
  have hp1 := hp.ext hx1 (fun h => hg h.symm)
  clear c0 c1
  go_wp2_with fail
  refine (scanAny0_walk g l o p w1 hr1 hl hp1 hg (by rw [hs1]; exact hr.lt) ho hdig hnz).mono ?_
  rw [HN.out]
  rintro e w2 ⟨A, c2, n, rfl, hown, hr2, hp2, hx2⟩
  have hz2 : IntNew w2 gz := (hx2.block gz (iter_lt hz1) (fun e => hne e.symm)).trans hz1
  have HZ2 := Lib.hid hz2
  have c02 := num_cell0 hz2
  have c12 := num_cell1 hz2
  have f02 := one_free hz2 0
  have f12 := one_free hz2 1
  have HR2 := Lib.hid hr2
  have HO := Lib.hid hown
  have hcN : (wds N).length ≤ c2 := hown.room.1
  have HX := Lib.hid (show Ext (Fld g gz) w w2 from (hx1.mono (fun _ _ h => Or.inl h)).trans (hx2.mono (fun _ _ h => Or.inl h)))
  have hgw : gz < w1.heap.size := by rw [hs1]; exact iter_lt hz
  clear hr2 hown hz1 hz2 hx1 hx2
  have key : ∀ b : Bool, decide (readZ l < 0) = b → IntAt ((w2.setCell ⟨gz, 1, none⟩ (.slice A (wds N).length c2)).setCell ⟨gz, 0, none⟩ (.bool b)) gz (readZ l) ∧
      ReaderAt ((w2.setCell ⟨gz, 1, none⟩ (.slice A (wds N).length c2)).setCell ⟨gz, 0, none⟩ (.bool b)) g l l.length ∧
      EofIs ((w2.setCell ⟨gz, 1, none⟩ (.slice A (wds N).length c2)).setCell ⟨gz, 0, none⟩ (.bool b)) p ∧
      Ext (Fld g gz) w ((w2.setCell ⟨gz, 1, none⟩ (.slice A (wds N).length c2)).setCell ⟨gz, 0, none⟩ (.bool b)) := fun b hb =>
    ⟨IntAt.put HZ2.out HAB.out hb hcN (by have := HO.out.room; omega) HO.out.wd (fun a ha => by have := HO.out.ge a ha; omega), (HR2.out.other _ (by exact hne)).other _ (by exact hne), (hp2.other _ (by exact Ne.symm hgz)).other _ (by exact Ne.symm hgz),
      (HX.out.setCell (p := ⟨gz, 1, none⟩) (fun _ => Or.inr rfl) _).setCell (p := ⟨gz, 0, none⟩) (fun _ => Or.inr rfl) _⟩
  have KEY := Lib.hid key
  clear key
  by_cases h0 : 0 < (wds N).length
  · have hb : decide (readZ l < 0) = sg := by rw [HSG.out, decide_eq_true h0]; rfl
    have HB := Lib.hid hb
    clear hb
    go_wp2_with fail
    exact bodyPost_ret (v := .tuple #[.pointer (some ⟨gz, 0, none⟩), .int .i64 10, .nilIface]) (by simp [results, Tryz.results197, go_sem]) rfl ⟨rfl, KEY.out sg HB.out⟩
  · have hb : decide (readZ l < 0) = false := by rw [HSG.out, decide_eq_false h0]; rfl
    have HB := Lib.hid hb
    clear hb
    go_wp2_with fail
    exact bodyPost_ret (v := .tuple #[.pointer (some ⟨gz, 0, none⟩), .int .i64 10, .nilIface]) (by simp [results, Tryz.results197, go_sem]) rfl ⟨rfl, KEY.out false HB.out⟩
set_option maxRecDepth 100000 in
set_option maxHeartbeats 1000000 in
theorem setFrom0_walk (g gz : Nat) (l : List UInt8) (p : Addr) (w : World) (hok : readOk l = true) (hl : l.length ≤ 1000) (hr : ReaderAt w g l 0) (hz : IntNew w gz) (hp : EofIs w p) (hg : g ≠ 2) (hgz : gz ≠ 2) (hne : g ≠ gz) :
    Calls Tryz.prog 174 #[.pointer (some ⟨gz, 0, none⟩), .iface 152 (.pointer (some ⟨g, 0, none⟩)), .int .i64 0] w
      fun e w' => e = .returned (.tuple #[.pointer (some ⟨gz, 0, none⟩), .bool true]) ∧ IntAt w' gz (readZ l) ∧ Ext (Fld g gz) w w' := by
  have m1 := met_read g
  have hnq := eof_neq p
  go_enter Tryz.func174, Tryz.ntmps174
  go_wp2_with fail
  refine (intScan0_walk g gz l p w hok hl hr hz hp hg hgz hne).mono ?_
  rintro e w1 ⟨rfl, hi1, hr1, hp1, hx1⟩
  have he1 : w1.cell? ⟨2, 0, none⟩ = some (.iface 145 (.pointer (some p))) := hp1
  have HI := Lib.hid hi1
  have HX := Lib.hid hx1
  go_wp2_with fail
  have hnx : nextErr l l.length p = .iface 145 (.pointer (some p)) := if_neg (Nat.lt_irrefl _)
  have hR := readByte_walk g l l.length p w1 hr1 (by omega) hp1 hg (Nat.le_refl _)
  rw [hnx] at hR
  have HRB := Lib.hid hR
  have HR1 := Lib.hid hr1
  clear hR hnx hr1 hi1 hx1
  refine HRB.out.mono ?_
  rintro e w2 ⟨rfl, hr2, hx2, hs2⟩
  have he2 : w2.cell? ⟨2, 0, none⟩ = some (.iface 145 (.pointer (some p))) := hp1.ext hx2 (fun h => hg h.symm)
  have HX2 := Lib.hid hx2
  clear hr2 hx2
  go_wp2_with fail
  exact bodyPost_ret (v := .tuple #[.pointer (some ⟨gz, 0, none⟩), .bool true]) (by simp [results, Tryz.results174, go_sem]) rfl
    ⟨rfl, HI.out.ext HX2.out (fun h => hne h.symm) (fun A hA hn a ha => reader_words HR1.out hA hn a ha), HX.out.trans (HX2.out.mono fun _ _ h => Or.inl h)⟩

set_option maxRecDepth 100000 in
set_option maxHeartbeats 1000000 in
theorem setString0_walk (gz : Nat) (l : List UInt8) (p : Addr) (w : World) (hok : readOk l = true) (hl : l.length ≤ 1000) (hz : IntNew w gz) (hp : EofIs w p) (hgz : gz ≠ 2) :
    Calls Tryz.prog 170 #[.pointer (some ⟨gz, 0, none⟩), .string (S l), .int .i64 0] w
      fun e w' => e = .returned (.tuple #[.pointer (some ⟨gz, 0, none⟩), .bool true]) ∧ IntAt w' gz (readZ l) ∧ Ext (fun b => b = gz) w w' := by
  go_enter Tryz.func170, Tryz.ntmps170
  go_wp2_with fail
  refine (newReader_walk l w).mono ?_
  rintro e w1 ⟨rfl, hr1, hb1⟩
  have hz1 : IntNew w1 gz := (hb1.block gz (iter_lt hz)).trans hz
  have hlt := iter_lt hz
  have hp1 := hp.below hb1
  have hplt := hp.lt
  obtain ⟨g, hg⟩ : ∃ g, w.heap.size = g := ⟨_, rfl⟩
  rw [hg] at hr1 ⊢
  have HG := Lib.hid hg
  clear hg
  go_wp2_with fail
  refine (setFrom0_walk g gz l p w1 hok hl hr1 hz1 hp1 (by have := HG.out; omega) hgz (by have := HG.out; omega)).mono ?_
  rintro e w2 ⟨rfl, hi2, hx2⟩
  go_wp2_with fail
  go_ret2
  refine ⟨rfl, hi2, (Ext.of_below hb1).trans' hx2 (fun i hi h => ?_)⟩
  rcases h with h | h
  · have := HG.out; omega
  · exact h

end Go.Proofs.YtiohlcfdoleooaaGreatDoor
