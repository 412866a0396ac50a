/-
  (*big.Int).SetString in base 10.
-/
import Derived.Test.YthipbglnaalhmaaGreatDoorScan
namespace Go.Proofs.YthipbglnaalhmaaGreatDoor
open Go.RowKit

/-- The words of a number lie at the head of a block of words. -/
def Wd (w : World) (A : Option Addr) (ws : List Nat) : Prop := ws = [] ∨ ∃ g zs r, A = some ⟨g, 0, none⟩ ∧ Row w g .u64 150 zs ∧ zs = ws ++ r
theorem Wd.rd {w : World} {A : Option Addr} {ws : List Nat} (h : Wd w A ws) : Rd w A (nums .u64 ws) := by
  rcases h with rfl | ⟨g, zs, r, rfl, hrow, rfl⟩
  · exact .inl rfl
  · have := hrow.rd 0
    rw [List.drop_zero] at this
    have h2 := this.take ws.length
    rwa [List.take_left] at h2
theorem Wd.below {w w' : World} {A : Option Addr} {ws : List Nat} (h : Wd w A ws) (hb : Below w.heap.size w w') : Wd w' A ws := by
  rcases h with h | ⟨g, zs, r, h1, hrow, h2⟩
  · exact .inl h
  · exact .inr ⟨g, zs, r, h1, hrow.below hb, h2⟩
theorem Wd.other {w : World} {A : Option Addr} {ws : List Nat} (h : Wd w A ws) {p : Addr} (u : Value) (hp : ∀ a, A = some a → a.block ≠ p.block) : Wd (w.setCell p u) A ws := by
  rcases h with h | ⟨g, zs, r, rfl, hrow, h2⟩
  · exact .inl h
  · exact .inr ⟨g, zs, r, rfl, hrow.other u (hp _ rfl), h2⟩
theorem Wd.ext {D : Nat → Prop} {w w' : World} {A : Option Addr} {ws : List Nat} (h : Wd w A ws) (hx : Ext D w w') (hA : ws ≠ [] → ∀ a, A = some a → ¬ D a.block) : Wd w' A ws := by
  rcases h with h | ⟨g, zs, r, rfl, hrow, h2⟩
  · exact .inl h
  · by_cases he : ws = []
    · exact .inl he
    · exact .inr ⟨g, zs, r, rfl, (hx.block g hrow.lt (hA he _ rfl)).trans hrow, h2⟩
theorem OwnNat.wd {B : Nat} {w : World} {A : Option Addr} {c N : Nat} (h : OwnNat B w A c N) : Wd w A (wds N) := by
  rcases h with ⟨_, _, rfl⟩ | ⟨g, zs, rfl, _, hrow, ⟨r, hr⟩, _, _⟩
  · exact .inl wds_zero
  · exact .inr ⟨g, zs, r, rfl, hrow, hr⟩
/-- Block g holds the big.Int z. -/
def IntAt (w : World) (g : Nat) (z : Int) : Prop :=
  ∃ A c, w.heap[g]? = some (.cells #[.bool (decide (z < 0)), .slice A (wds z.natAbs).length c] 89 (0, 0)) ∧ (wds z.natAbs).length ≤ c ∧ c ≤ 9223372036854775807 ∧ Wd w A (wds z.natAbs)
/-- A new big.Int. -/
def IntNew (w : World) (g : Nat) : Prop := w.heap[g]? = some (.cells #[.bool false, .slice none 0 0] 89 (0, 0))
theorem IntAt.below {w w' : World} {g : Nat} {z : Int} (h : IntAt w g z) (hb : Below w.heap.size w w') : IntAt w' g z := by
  obtain ⟨A, c, h1, h2, h3, h4⟩ := h
  exact ⟨A, c, (hb.block g (iter_lt h1)).trans h1, h2, h3, h4.below hb⟩
theorem IntAt.lt {w : World} {g : Nat} {z : Int} (h : IntAt w g z) : g < w.heap.size := by obtain ⟨_, _, h, _⟩ := h; exact iter_lt h

/-- What the reference's Read takes, as scan sees it. -/
theorem read_scan {l : List UInt8} (h : readOk l = true) : ∃ c t, l = c :: t ∧ c ≠ 43 ∧ readNeg l = (c == 45) ∧ readBody l = l.drop (if c = 45 then 1 else 0) ∧ allDig (readBody l) = true ∧ (if c = 45 then 1 else 0) < l.length := by
  have h2 := h
  unfold readOk at h2
  rw [Bool.and_eq_true, Bool.and_eq_true] at h2
  obtain ⟨⟨h3, h4⟩, h5⟩ := h2
  unfold digitsOk at h3
  rw [Bool.and_eq_true] at h3
  obtain ⟨h6, h7⟩ := h3
  match l, h6, h7 with
  | [], h6, h7 => simp [readBody] at h7
  | c :: t, h6, h7 =>
    refine ⟨c, t, rfl, ?_⟩
    by_cases hn : 1 < (c :: t).length ∧ (c :: t).head? = some 45
    · have hb : readBody (c :: t) = t := by unfold readBody; rw [if_pos hn]; rfl
      have hc : c = 45 := by simpa using hn.2
      subst hc
      refine ⟨by decide, ?_, by rw [hb]; rfl, h6, by simpa using hn.1⟩
      unfold readNeg
      rw [decide_eq_true hn.1]
      rfl
    · have hb : readBody (c :: t) = c :: t := by unfold readBody; rw [if_neg hn]
      rw [hb] at h6
      have h8 := List.all_eq_true.1 h6 c (by simp)
      rw [Bool.and_eq_true, decide_eq_true_eq, decide_eq_true_eq, UInt8.le_iff_toNat_le, UInt8.le_iff_toNat_le] at h8
      have h48 : (48 : UInt8).toNat = 48 := rfl
      have hne : c ≠ 45 := fun e => by rw [e] at h8; exact absurd h8.1 (by decide)
      have hne2 : c ≠ 43 := fun e => by rw [e] at h8; exact absurd h8.1 (by decide)
      refine ⟨hne2, ?_, by rw [hb, if_neg hne]; rfl, by rw [hb]; exact h6, by rw [if_neg hne]; simp⟩
      unfold readNeg
      rw [beq_eq_false_iff_ne.2 hne]
      have : ((c :: t).head? == some 45) = false := by simp [hne]
      rw [this, Bool.and_false]
theorem read_sign {l : List UInt8} (h : readOk l = true) : readSign l = readNeg l := by unfold readSign; rw [h]; rfl
theorem read_abs (l : List UInt8) : (readZ l).natAbs = decV (readBody l) := by unfold readZ decV; split <;> simp
theorem read_lt {l : List UInt8} (h : readOk l = true) : decide (readZ l < 0) = (decide (0 < (wds (decV (readBody l))).length) && readNeg l) := by
  obtain ⟨h1, h2⟩ := read_num h
  rw [← h1, read_sign h]
  cases hn : readNeg l with
  | false => rw [Bool.and_false]
  | true =>
    rw [read_sign h, hn] at h1
    have h3 : readZ l < 0 := of_decide_eq_true h1.symm
    have h4 : decV (readBody l) ≠ 0 := by rw [← read_abs]; omega
    have h5 : 0 < (wds (decV (readBody l))).length := by
      refine Nat.pos_of_ne_zero fun e => h4 ?_
      exact (toD_nil_iff (by decide)).1 (List.length_eq_zero_iff.1 e)
    rw [decide_eq_true h5]
    rfl

theorem OwnNat.ge {B : Nat} {w : World} {A : Option Addr} {c N : Nat} (h : OwnNat B w A c N) : ∀ a, A = some a → B ≤ a.block := by
  intro a ha
  rcases h with ⟨h, _⟩ | ⟨g, zs, h, _, _, _, hg, _⟩
  · rw [h] at ha; cases ha
  · rw [h] at ha; cases ha; exact hg
theorem ReaderAt.other {w : World} {g : Nat} {l : List UInt8} {i : Nat} (h : ReaderAt w g l i) {p : Addr} (u : Value) (hne : g ≠ p.block) : ReaderAt (w.setCell p u) g l i := by
  obtain ⟨pr, h⟩ := h
  exact ⟨pr, (one_other hne).trans h⟩
theorem EofIs.other {w : World} {p a : Addr} (h : EofIs w p) (u : Value) (hne : 0 ≠ a.block) : EofIs (w.setCell a u) p := (cell_other (by exact hne)).trans h
/-- The two fields of a big.Int are set. -/
theorem IntAt.put {w : World} {gz : Nat} {x : Bool} {v : Value} {z : Int} {A : Option Addr} {c N : Nat} {b : Bool} (hz : w.heap[gz]? = some (.cells #[.bool x, v] 89 (0, 0))) (hN : z.natAbs = N) (hb : decide (z < 0) = b) (h2 : (wds N).length ≤ c) (h3 : c ≤ 9223372036854775807)
    (hr : Wd w A (wds N)) (hA : ∀ a, A = some a → a.block ≠ gz) : IntAt ((w.setCell ⟨gz, 1, none⟩ (.slice A (wds N).length c)).setCell ⟨gz, 0, none⟩ (.bool b)) gz z := by
  subst hN hb
  exact ⟨A, c, cells_set (cells_set hz 1 _) 0 _, h2, h3, (hr.other _ hA).other _ hA⟩

def Fld (g gz b : Nat) : Prop := b = g ∨ b = gz
set_option maxRecDepth 100000 in
set_option maxHeartbeats 1000000 in
theorem intScan_walk (g gz : Nat) (l : List UInt8) (p : Addr) (w : World) (hok : readOk l = true) (hl : l.length ≤ 1000) (hr : ReaderAt w g l 0) (hz : IntNew w gz) (hp : EofIs w p) (hg : g ≠ 0) (hgz : gz ≠ 0) (hne : g ≠ gz) :
    Calls Tryz.prog 171 #[.pointer (some ⟨gz, 0, none⟩), .iface 111 (.pointer (some ⟨g, 0, none⟩)), .int .i64 10] w
      fun e w' => e = .returned (.tuple #[.pointer (some ⟨gz, 0, none⟩), .int .i64 10, .nilIface]) ∧ IntAt w' gz (readZ l) ∧ ReaderAt w' g l l.length ∧ EofIs w' p ∧ Ext (Fld g gz) w w' := by
  obtain ⟨c, t, hlt, hc43, hneg, hbody, hdig, ho⟩ := read_scan hok
  have hab := read_abs l
  have hsgn := read_lt hok
  have c0 := num_cell0 hz
  have c1 := num_cell1 hz
  have HZ := Lib.hid hz
  have HS : Hid (Calls Tryz.prog 189 #[.iface 111 (.pointer (some ⟨g, 0, none⟩))] w (ReadPost w g l (if c = 45 then 1 else 0) (.tuple #[.bool (readNeg l), .nilIface]))) := by
    apply Lib.hid
    rw [hneg, hlt]
    rw [hlt] at hr hl
    exact scanSign_walk g c t p w hr (by omega) hp hg hc43
  obtain ⟨o, hoo⟩ : ∃ o, (if c = 45 then 1 else 0) = o := ⟨_, rfl⟩
  rw [hoo] at HS hbody ho
  rw [hbody] at hab hsgn hdig
  clear hoo hneg hlt hbody
  obtain ⟨sg, hsg⟩ : ∃ sg, readNeg l = sg := ⟨_, rfl⟩
  rw [hsg] at HS hsgn
  clear hsg
  obtain ⟨N, hN⟩ : ∃ N, decV (l.drop o) = N := ⟨_, rfl⟩
  rw [hN] at hab hsgn
  have HAB := Lib.hid hab
  have HSG := Lib.hid hsgn
  have HN := Lib.hid hN
  clear hab hsgn hN
  go_enter Tryz.func171, Tryz.ntmps171
  go_wp2_with fail
  refine HS.out.mono ?_
  rintro e w1 ⟨rfl, hr1, hx1, hs1⟩
  have hz1 : IntNew w1 gz := (hx1.block gz (iter_lt hz) (fun e => hne e.symm)).trans hz
  have c01 := num_cell0 hz1
  have c11 := num_cell1 hz1
  have hp1 := hp.ext hx1 (fun h => hg h.symm)
  clear c0 c1
  go_wp2_with fail
  refine (scan10_walk g l o p w1 hr1 hl hp1 hg (by rw [hs1]; exact hr.lt) ho hdig).mono ?_
  rw [HN.out]
  rintro e w2 ⟨A, c2, n, rfl, hown, hr2, hp2, hx2⟩
  have hz2 : IntNew w2 gz := (hx2.block gz (iter_lt hz1) (fun e => hne e.symm)).trans hz1
  have HZ2 := Lib.hid hz2
  have c02 := num_cell0 hz2
  have c12 := num_cell1 hz2
  have f02 := one_free hz2 0
  have f12 := one_free hz2 1
  have HR2 := Lib.hid hr2
  have HO := Lib.hid hown
  have hcN : (wds N).length ≤ c2 := hown.room.1
  have HX := Lib.hid (show Ext (Fld g gz) w w2 from (hx1.mono (fun _ _ h => Or.inl h)).trans (hx2.mono (fun _ _ h => Or.inl h)))
  have hgw : gz < w1.heap.size := by rw [hs1]; exact iter_lt hz
  clear hr2 hown hz1 hz2 hx1 hx2
  have key : ∀ b : Bool, decide (readZ l < 0) = b → IntAt ((w2.setCell ⟨gz, 1, none⟩ (.slice A (wds N).length c2)).setCell ⟨gz, 0, none⟩ (.bool b)) gz (readZ l) ∧
      ReaderAt ((w2.setCell ⟨gz, 1, none⟩ (.slice A (wds N).length c2)).setCell ⟨gz, 0, none⟩ (.bool b)) g l l.length ∧
      EofIs ((w2.setCell ⟨gz, 1, none⟩ (.slice A (wds N).length c2)).setCell ⟨gz, 0, none⟩ (.bool b)) p ∧
      Ext (Fld g gz) w ((w2.setCell ⟨gz, 1, none⟩ (.slice A (wds N).length c2)).setCell ⟨gz, 0, none⟩ (.bool b)) := fun b hb =>
    ⟨IntAt.put HZ2.out HAB.out hb hcN (by have := HO.out.room; omega) HO.out.wd (fun a ha => by have := HO.out.ge a ha; omega), (HR2.out.other _ (by exact hne)).other _ (by exact hne), (hp2.other _ (by exact Ne.symm hgz)).other _ (by exact Ne.symm hgz),
      (HX.out.setCell (p := ⟨gz, 1, none⟩) (fun _ => Or.inr rfl) _).setCell (p := ⟨gz, 0, none⟩) (fun _ => Or.inr rfl) _⟩
  have KEY := Lib.hid key
  clear key
  by_cases h0 : 0 < (wds N).length
  · have hb : decide (readZ l < 0) = sg := by rw [HSG.out, decide_eq_true h0]; rfl
    have HB := Lib.hid hb
    clear hb
    go_wp2_with fail
    exact bodyPost_ret (v := .tuple #[.pointer (some ⟨gz, 0, none⟩), .int .i64 10, .nilIface]) (by simp [results, Tryz.results171, go_sem]) rfl ⟨rfl, KEY.out sg HB.out⟩
  · have hb : decide (readZ l < 0) = false := by rw [HSG.out, decide_eq_false h0]; rfl
    have HB := Lib.hid hb
    clear hb
    go_wp2_with fail
    exact bodyPost_ret (v := .tuple #[.pointer (some ⟨gz, 0, none⟩), .int .i64 10, .nilIface]) (by simp [results, Tryz.results171, go_sem]) rfl ⟨rfl, KEY.out false HB.out⟩
end Go.Proofs.YthipbglnaalhmaaGreatDoor
