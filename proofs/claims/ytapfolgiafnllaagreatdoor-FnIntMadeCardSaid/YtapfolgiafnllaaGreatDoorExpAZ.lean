/-
  nat.sqr and nat.mul into a number that the call owns.
-/
import Derived.Test.YtapfolgiafnllaaGreatDoorBn14Z
namespace Go.Proofs.YtapfolgiafnllaaGreatDoor
open Go.RowKit

def blkOf (A : Option Addr) (k : Nat) : Prop := ∃ a, A = some a ∧ k = a.block
/-- A number whose words lie at the head of a block from B on, all of its cells words. -/
def OwnB (B : Nat) (w : World) (A : Option Addr) (c N : Nat) : Prop :=
  (A = none ∧ c = 0 ∧ N = 0) ∨ ∃ g zs, A = some ⟨g, 0, none⟩ ∧ c = zs.length ∧ Row w g .u64 106 zs ∧ (∃ r, zs = wds N ++ r) ∧ (∀ d ∈ zs, d < 18446744073709551616) ∧ B ≤ g ∧ zs.length ≤ 100000 ∧ 1 ≤ zs.length
theorem OwnB.nat {B : Nat} {w : World} {A : Option Addr} {c N : Nat} (h : OwnB B w A c N) : OwnNat B w A c N := by
  rcases h with h | ⟨g, zs, h1, h2, h3, h4, _, h5, h6⟩
  · exact .inl h
  · exact .inr ⟨g, zs, h1, h2, h3, h4, h5, h6.1⟩
theorem OwnB.ext {B : Nat} {D : Nat → Prop} {w w' : World} {A : Option Addr} {c N : Nat} (h : OwnB B w A c N) (hx : Ext D w w') (hd : ∀ k, blkOf A k → ¬ D k) : OwnB B w' A c N := by
  rcases h with h | ⟨g, zs, h1, h2, hrow, h3, h4, h5, h6⟩
  · exact .inl h
  · exact .inr ⟨g, zs, h1, h2, (hx.block g hrow.lt (hd g ⟨_, h1, rfl⟩)).trans hrow, h3, h4, h5, h6⟩
theorem OwnB.lt {B : Nat} {w : World} {A : Option Addr} {c N : Nat} (h : OwnB B w A c N) {k : Nat} (hk : blkOf A k) : B ≤ k ∧ k < w.heap.size := by
  obtain ⟨a, ha, rfl⟩ := hk
  rcases h with ⟨h, _⟩ | ⟨g, zs, h1, _, hrow, _, _, h5, _⟩
  · rw [h] at ha; cases ha
  · rw [h1] at ha; cases ha; exact ⟨h5, hrow.lt⟩
/-- What a function hands back that writes into the number A: that one's block or a new one. -/
def OwnX (B : Nat) (w : World) (A : Option Addr) (N : Nat) (e : Ending) (w' : World) : Prop :=
  ∃ A' c', e = .returned (.slice A' (wds N).length c') ∧ OwnB B w' A' c' N ∧ Ext (blkOf A) w w' ∧ ∀ k, blkOf A' k → blkOf A k ∨ w.heap.size ≤ k
def MakeX (B : Nat) (w : World) (A : Option Addr) (n : Nat) (e : Ending) (w' : World) : Prop :=
  ∃ g zs, e = .returned (.slice (some ⟨g, 0, none⟩) n zs.length) ∧ Row w' g .u64 106 zs ∧ (∀ d ∈ zs, d < 18446744073709551616) ∧ n ≤ zs.length ∧ zs.length ≤ 100000 ∧ B ≤ g ∧ (blkOf A g ∨ w.heap.size ≤ g) ∧ Ext (blkOf A) w w'
set_option maxRecDepth 100000 in
theorem makeX_walk (B : Nat) (A : Option Addr) (c M n : Nat) (w : World) (h : OwnB B w A c M) (hB : B ≤ w.heap.size) (hn : 1 ≤ n) (hn2 : n ≤ 90000) :
    Calls Tryz.prog 121 #[.slice A (wds M).length c, .int .i64 n] w (MakeX B w A n) := by
  have hr := h.nat.room
  by_cases hc : n ≤ c
  · refine (make_room_walk A _ c n w hc (by omega) hr.1).mono ?_
    rintro e w1 ⟨rfl, rfl⟩
    rcases h with ⟨_, rfl, _⟩ | ⟨g, zs, rfl, rfl, hrow, _, hw, hg, hl, _⟩
    · omega
    · exact ⟨g, zs, rfl, hrow, hw, hc, hl, hg, .inl ⟨_, rfl, rfl⟩, Ext.refl _ _⟩
  · refine (make_new_walk A _ c n w (by omega) (by omega) hr.1).mono ?_
    rintro e w1 ⟨rfl, rfl⟩
    have hroom : n ≤ roomFor n ∧ roomFor n ≤ n + 4 := by unfold roomFor; split <;> omega
    exact ⟨w.heap.size, List.replicate (roomFor n) 0, by rw [List.length_replicate], row_made _ _ _ _, fun d hd => by rw [List.eq_of_mem_replicate hd]; decide, by simp; omega, by simp; omega, hB, .inr (Nat.le_refl _), (Ext.refl _ _).alloc _⟩
/-- The end of such a function: words laid at the head of the row. -/
theorem ownX_end {B g S : Nat} {w w' : World} {A : Option Addr} {zs outs : List Nat} (hrow : Row w' g .u64 106 (over zs 0 outs)) (ho : ∀ d ∈ outs, d < 18446744073709551616) (hw : ∀ d ∈ zs, d < 18446744073709551616) (hl : outs.length ≤ zs.length) (h1z : 1 ≤ zs.length) (hz : zs.length ≤ 100000) (hB : B ≤ g) (hv : valD 18446744073709551616 outs = S) (hg : blkOf A g ∨ w.heap.size ≤ g) (hx : Ext (blkOf A) w w') :
    OwnX B w A S (.returned (.slice (some ⟨g, 0, none⟩) (wds S).length zs.length)) w' ∧ trimN outs = wds S ∧ Rd w' (some ⟨g, 0, none⟩) (nums .u64 outs) := by
  obtain ⟨hown, htr, hrd⟩ := own_trim hrow ho hl hz hB hv
  refine ⟨⟨some ⟨g, 0, none⟩, zs.length, rfl, ?_, hx, ?_⟩, htr, hrd⟩
  · rcases hown with ⟨h, _⟩ | ⟨g2, zs2, h1, h2, h3, h4, h5, h6⟩
    · cases h
    · cases h1
      have e : over zs 0 outs = zs2 := by
        have := hrow.symm.trans h3
        injection this with this
        injection this with h7 _ _
        have h8 := congrArg Array.toList h7
        simp only [nums] at h8
        exact List.map_inj_right (fun a b h => by injection h with _ h; exact Int.ofNat.inj h) |>.1 h8
      exact .inr ⟨g, zs2, rfl, h2, h3, h4, by rw [← e]; exact over_words hw ho, h5, h6, by rw [← h2]; exact h1z⟩
  · rintro k ⟨a, ha, rfl⟩
    cases ha
    exact hg

/-- Two words of two blocks have two addresses. -/
theorem word_eql {w : World} {g gx i j : Nat} {zs xs : List Nat} (hne : gx ≠ g) (h1 : Row w g .u64 106 zs) (h2 : Row w gx .u64 106 xs) :
    (binOp BinOp.eql 154 (.pointer (some ⟨g, i, none⟩)) (.pointer (some ⟨gx, j, none⟩))).run Tryz.prog w = .ok (.bool false) w := by
  obtain ⟨t, hi, hs⟩ := infoWord'
  have hn : (⟨g, i, none⟩ : Addr) ≠ ⟨gx, j, none⟩ := fun e => hne (by cases e; rfl)
  have hr : (sameAddr ⟨g, i, none⟩ ⟨gx, j, none⟩).run Tryz.prog w = .ok false w := run_sameAddr_other w hn h1 h2
  have h : ∀ d : Nat, (Op.equalIn (d + 1) 154 (.pointer (some ⟨g, i, none⟩)) (.pointer (some ⟨gx, j, none⟩))).run Tryz.prog w = .ok false w := fun d => by
    simp [Op.equalIn, run_underlying Tryz.underlying154, sizeOf, typeInfo, hi, hs, hr]
  simp only [binOp]
  simp [Op.equal, Op.maxDepth, h 9999]

set_option maxRecDepth 100000 in
set_option maxHeartbeats 4000000 in
theorem alias_walk (g gx : Nat) (zs xs : List Nat) (n m : Nat) (w : World) (hz : Row w g .u64 106 zs) (hx : Row w gx .u64 106 xs) (hne : gx ≠ g) (h0 : 0 < zs.length) (h1 : 0 < xs.length) (l0 : zs.length ≤ 100000) (l1 : xs.length ≤ 100000) :
    Calls Tryz.prog 131 #[.slice (some ⟨g, 0, none⟩) n zs.length, .slice (some ⟨gx, 0, none⟩) m xs.length] w fun e w' => e = .returned (.bool false) ∧ Drawn w w' := by
  obtain ⟨c, hc⟩ : ∃ c, zs.length = c + 1 := ⟨zs.length - 1, by omega⟩
  obtain ⟨d, hd⟩ : ∃ d, xs.length = d + 1 := ⟨xs.length - 1, by omega⟩
  have hq : ∀ k, (binOp BinOp.eql 154 (.pointer (some ⟨g, c, none⟩)) (.pointer (some ⟨gx, d, none⟩))).run Tryz.prog (w.drewN k) = .ok (.bool false) (w.drewN k) := fun k => word_eql hne (hz.drew k) (hx.drew k)
  obtain ⟨C, hC⟩ : ∃ C, zs.length = C := ⟨_, rfl⟩
  obtain ⟨D, hD⟩ : ∃ D, xs.length = D := ⟨_, rfl⟩
  rw [hC] at hc h0 ⊢
  rw [hD] at hd h1 ⊢
  have e1 : (C : Int) - 1 = (c : Int) := by omega
  have e2 : (D : Int) - 1 = (d : Int) := by omega
  have i1 : (0 : Int) ≤ (c : Int) := by omega
  have i2 : (0 : Int) ≤ (d : Int) := by omega
  have i3 : (c : Int) < C := by omega
  have i4 : (d : Int) < D := by omega
  have i5 : (0 : Int) ≤ C := by omega
  have i6 : (0 : Int) ≤ D := by omega
  have i7 : (0 : Int) < C := by omega
  have i8 : (0 : Int) < D := by omega
  have j1 : IntKind.i64.wrap (c : Int) = c := by rw [IntKind.wrap_i64]; omega
  have j2 : IntKind.i64.wrap (d : Int) = d := by rw [IntKind.wrap_i64]; omega
  clear hz hx hc hd hC hD
  go_enter Tryz.func131, Tryz.ntmps131
  go_wp2_with fail
  go_quiet (fail)
  go_wp2_with fail
  go_ret
  exact ⟨rfl, _, rfl⟩
end Go.Proofs.YtapfolgiafnllaaGreatDoor
