/-
  (*big.Int).SetString, impl.number.
-/
import Derived.Test.YthipbglnaalhmaaGreatDoorIntScan
namespace Go.Proofs.YthipbglnaalhmaaGreatDoor
open Go.RowKit

theorem Rd.ext {D : Nat → Prop} {w w' : World} {A : Option Addr} {vs : List Value} (h : Rd w A vs) (hx : Ext D w w') (hA : vs ≠ [] → ∀ a, A = some a → ¬ D a.block) : Rd w' A vs := by
  rcases h with h | ⟨a, rfl, h⟩
  · exact .inl h
  · by_cases hv : vs = []
    · exact .inl hv
    · refine .inr ⟨a, rfl, fun j u hu => ?_⟩
      have h1 := h j u hu
      have h2 := World.block_lt_of_cell? w _ h1
      rw [World.cell?_of_block (w := w) (hx.block _ h2 (by rw [add_block]; exact hA hv a rfl))]
      exact h1
/-- Words are none of a block's cells that are no words. -/
theorem words_apart {w : World} {g : Nat} {cs : Array Value} {T : TypeId} {A : Option Addr} {ws : List Nat} (hk : w.heap[g]? = some (.cells cs T (0, 0))) (hc : ∀ v ∈ cs.toList, ∀ n, v ≠ .int .u64 n) (h : Rd w A (nums .u64 ws)) :
    nums .u64 ws ≠ [] → ∀ a, A = some a → a.block ≠ g := by
  rcases h with h | ⟨b, rfl, h⟩
  · exact fun hne => absurd h hne
  · intro hne a ha
    cases ha
    intro hb
    cases ws with
    | nil => exact hne rfl
    | cons d t =>
      have h1 := h 0 (.int .u64 (d : Int)) rfl
      have e : b.add 0 = b := by unfold Addr.add; rw [if_pos rfl]
      rw [e] at h1
      have hcell : w.cell? b = if b.spot.isSome then none else cs[b.off]? := by simp [World.cell?, hb, hk]
      rw [hcell] at h1
      split at h1
      · cases h1
      · have := Array.mem_of_getElem? h1
        exact hc _ (Array.mem_toList_iff.2 this) _ rfl
theorem IntAt.ext {D : Nat → Prop} {w w' : World} {gz : Nat} {z : Int} (h : IntAt w gz z) (hx : Ext D w w') (hd : ¬ D gz) (hA : ∀ A, Rd w A (nums .u64 (wds z.natAbs)) → nums .u64 (wds z.natAbs) ≠ [] → ∀ a, A = some a → ¬ D a.block) : IntAt w' gz z := by
  obtain ⟨A, c, h1, h2, h3, h4⟩ := h
  exact ⟨A, c, (hx.block gz (iter_lt h1) hd).trans h1, h2, h3, h4.ext hx (fun hne a ha => hA A h4.rd (fun e => hne (by simpa [nums] using e)) a ha)⟩
theorem reader_words {w : World} {g : Nat} {l : List UInt8} {i : Nat} {A : Option Addr} {ws : List Nat} (hr : ReaderAt w g l i) (h : Rd w A (nums .u64 ws)) : nums .u64 ws ≠ [] → ∀ a, A = some a → a.block ≠ g := by
  obtain ⟨pr, hk⟩ := hr
  refine words_apart hk (fun v hv n => ?_) h
  simp at hv
  rcases hv with rfl | rfl | rfl <;> simp

set_option maxRecDepth 100000 in
set_option maxHeartbeats 1000000 in
theorem setFrom_walk (g gz : Nat) (l : List UInt8) (p : Addr) (w : World) (hok : readOk l = true) (hl : l.length ≤ 1000) (hr : ReaderAt w g l 0) (hz : IntNew w gz) (hp : EofIs w p) (hg : g ≠ 0) (hgz : gz ≠ 0) (hne : g ≠ gz) :
    Calls Tryz.prog 137 #[.pointer (some ⟨gz, 0, none⟩), .iface 111 (.pointer (some ⟨g, 0, none⟩)), .int .i64 10] w
      fun e w' => e = .returned (.tuple #[.pointer (some ⟨gz, 0, none⟩), .bool true]) ∧ IntAt w' gz (readZ l) ∧ Ext (Fld g gz) w w' := by
  have m1 := met_read g
  have hnq := eof_neq p
  go_enter Tryz.func137, Tryz.ntmps137
  go_wp2_with fail
  refine (intScan_walk g gz l p w hok hl hr hz hp hg hgz hne).mono ?_
  rintro e w1 ⟨rfl, hi1, hr1, hp1, hx1⟩
  have he1 : w1.cell? ⟨0, 0, none⟩ = some (.iface 113 (.pointer (some p))) := hp1
  have HI := Lib.hid hi1
  have HX := Lib.hid hx1
  go_wp2_with fail
  have hnx : nextErr l l.length p = .iface 113 (.pointer (some p)) := if_neg (Nat.lt_irrefl _)
  have hR := readByte_walk g l l.length p w1 hr1 (by omega) hp1 hg (Nat.le_refl _)
  rw [hnx] at hR
  have HRB := Lib.hid hR
  have HR1 := Lib.hid hr1
  clear hR hnx hr1 hi1 hx1
  refine HRB.out.mono ?_
  rintro e w2 ⟨rfl, hr2, hx2, hs2⟩
  have he2 : w2.cell? ⟨0, 0, none⟩ = some (.iface 113 (.pointer (some p))) := hp1.ext hx2 (fun h => hg h.symm)
  have HX2 := Lib.hid hx2
  clear hr2 hx2
  go_wp2_with fail
  exact bodyPost_ret (v := .tuple #[.pointer (some ⟨gz, 0, none⟩), .bool true]) (by simp [results, Tryz.results137, go_sem]) rfl
    ⟨rfl, HI.out.ext HX2.out (fun h => hne h.symm) (fun A hA hn a ha => reader_words HR1.out hA hn a ha), HX.out.trans (HX2.out.mono fun _ _ h => Or.inl h)⟩

set_option maxRecDepth 100000 in
set_option maxHeartbeats 1000000 in
theorem setString_walk (gz : Nat) (l : List UInt8) (p : Addr) (w : World) (hok : readOk l = true) (hl : l.length ≤ 1000) (hz : IntNew w gz) (hp : EofIs w p) (hgz : gz ≠ 0) :
    Calls Tryz.prog 92 #[.pointer (some ⟨gz, 0, none⟩), .string (S l), .int .i64 10] w
      fun e w' => e = .returned (.tuple #[.pointer (some ⟨gz, 0, none⟩), .bool true]) ∧ IntAt w' gz (readZ l) ∧ Ext (fun b => b = gz) w w' := by
  go_enter Tryz.func92, Tryz.ntmps92
  go_wp2_with fail
  refine (newReader_walk l w).mono ?_
  rintro e w1 ⟨rfl, hr1, hb1⟩
  have hz1 : IntNew w1 gz := (hb1.block gz (iter_lt hz)).trans hz
  have hlt := iter_lt hz
  have hp1 := hp.below hb1
  have hplt := hp.lt
  obtain ⟨g, hg⟩ : ∃ g, w.heap.size = g := ⟨_, rfl⟩
  rw [hg] at hr1 ⊢
  have HG := Lib.hid hg
  clear hg
  go_wp2_with fail
  refine (setFrom_walk g gz l p w1 hok hl hr1 hz1 hp1 (by have := HG.out; omega) hgz (by have := HG.out; omega)).mono ?_
  rintro e w2 ⟨rfl, hi2, hx2⟩
  go_wp2_with fail
  go_ret2
  refine ⟨rfl, hi2, (Ext.of_below hb1).trans' hx2 (fun i hi h => ?_)⟩
  rcases h with h | h
  · have := HG.out; omega
  · exact h

set_option maxRecDepth 100000 in
set_option maxHeartbeats 1000000 in
theorem number_walk (l : List UInt8) (p : Addr) (w : World) (hok : readOk l = true) (hl : l.length ≤ 1000) (hp : EofIs w p) :
    Calls Tryz.prog 104 #[.string (S l)] w fun e w' => ∃ gz, e = .returned (.pointer (some ⟨gz, 0, none⟩)) ∧ IntAt w' gz (readZ l) ∧ Below w.heap.size w w' ∧ w.heap.size ≤ gz := by
  have hem : l.isEmpty = false := by
    obtain ⟨c, t, rfl, _⟩ := read_scan hok
    rfl
  have hplt := hp.lt
  go_enter Tryz.func104, Tryz.ntmps104
  go_wp2_with fail
  refine (setString_walk w.heap.size l p _ hok hl (heap_here _ _) (hp.below (below_a1 _ _)) (by omega)).mono ?_
  rintro e w1 ⟨rfl, hi1, hx1⟩
  go_wp2_with fail
  go_ret
  exact ⟨_, rfl, hi1, (below_a1 _ _).trans (hx1.below (by rw [heap_size_alloc]; omega) (fun k hk => by omega)), Nat.le_refl _⟩
end Go.Proofs.YthipbglnaalhmaaGreatDoor
