/-
  (*big.Int).UnmarshalText; zzBlank, zzUnmarshal; cosmosmath's unmarshalText, unmarshalJSON.
-/
import Derived.Test.YtiohlcfdoleooaaGreatDoorBScan
import Derived.Test.YtiohlcfdoleooaaGreatDoorByteText
import Derived.Test.YtiohlcfdoleooaaGreatDoorIntNew
import Derived.Laws.IdiomStrings
namespace Go.Proofs.YtiohlcfdoleooaaGreatDoor
open Go.RowKit

theorem IntNew.ext {D : Nat → Prop} {w w' : World} {g : Nat} (h : IntNew w g) (hx : Ext D w w') (hd : ¬ D g) : IntNew w' g := (hx.block g (iter_lt h) hd).trans h
set_option maxRecDepth 100000 in
set_option maxHeartbeats 1000000 in
theorem unmText_walk (gz : Nat) (l : List UInt8) (v : Value) (p : Addr) (w : World) (hok : readOk l = true) (hl : l.length ≤ 1000) (hz : IntNew w gz) (hp : EofIs w p) (hgz : gz ≠ 2) (hv : Byt w v l) :
    Calls Tryz.prog 129 #[.pointer (some ⟨gz, 0, none⟩), v] w
      fun e w' => e = .returned .nilIface ∧ IntAt w' gz (readZ l) ∧ Ext (fun b => b = gz) w w' := by
  obtain ⟨b, o, c, rfl, _, _, hb, hcell⟩ := hv
  have HN := Lib.hid (newReaderB_walk l ⟨b, o, none⟩ c w (fun j hj => by rw [add_off]; exact hcell j hj) hb)
  clear hcell hb
  go_enter Tryz.func129, Tryz.ntmps129
  go_wp2_with fail
  refine HN.out.mono ?_
  rintro e w1 ⟨rfl, hr1, hb1⟩
  have hz1 : IntNew w1 gz := (hb1.block gz (iter_lt hz)).trans hz
  have hlt := iter_lt hz
  have hp1 := hp.below hb1
  have hplt := hp.lt
  obtain ⟨g, hg⟩ : ∃ g, w.heap.size = g := ⟨_, rfl⟩
  rw [hg] at hr1 ⊢
  have HG := Lib.hid hg
  clear hg
  go_wp2_with fail
  refine (setFrom0B_walk g gz l p w1 hok hl hr1 hz1 hp1 (by have := HG.out; omega) hgz (by have := HG.out; omega)).mono ?_
  rintro e w2 ⟨rfl, hi2, hx2⟩
  have HI := Lib.hid hi2
  have HX := Lib.hid hx2
  clear hi2 hx2
  go_wp2_with fail
  go_ret
  refine ⟨rfl, HI.out, (Ext.of_below hb1).trans' HX.out (fun i hi h => ?_)⟩
  rcases h with h | h
  · have := HG.out; omega
  · exact h

set_option maxRecDepth 100000 in
set_option maxHeartbeats 1000000 in
theorem zzBlank_walk (x : Nat) (w : World) (h : x ≠ 32 ∧ x ≠ 9 ∧ x ≠ 10 ∧ x ≠ 13) :
    Calls Tryz.prog 199 #[.int .u8 x] w fun e w' => e = .returned (.bool false) ∧ w' = w := by
  have h1 : ((x : Int) == 32) = false := beq_eq_false_iff_ne.2 (by omega)
  have h2 : ((x : Int) == 9) = false := beq_eq_false_iff_ne.2 (by omega)
  have h3 : ((x : Int) == 10) = false := beq_eq_false_iff_ne.2 (by omega)
  have h4 : ((x : Int) == 13) = false := beq_eq_false_iff_ne.2 (by omega)
  clear h
  go_enter Tryz.func199, Tryz.ntmps199
  go_wp2_with fail
  go_ret
  exact ⟨rfl, rfl⟩

/-- A text that stands in quotes as it is. -/
def Plain (l : List UInt8) : Prop := ∀ d ∈ l, 32 ≤ d.toNat ∧ d.toNat ≤ 126 ∧ d.toNat ≠ 34 ∧ d.toNat ≠ 92
set_option maxRecDepth 100000 in
set_option maxHeartbeats 2000000 in
theorem zzUnmarshal_walk (gs : Nat) (l : List UInt8) (v x : Value) (w : World) (hv : Byt w v (34 :: (l ++ [34]))) (hl : l.length ≤ 1000) (hs : w.heap[gs]? = some (.cells #[x] 9 (0, 0))) (hok : Plain l) :
    Calls Tryz.prog 178 #[v, .pointer (some ⟨gs, 0, none⟩)] w fun e w' => e = .returned .nilIface ∧ w' = w.setCell ⟨gs, 0, none⟩ (.string (S l)) := by
  obtain ⟨b, o, c, rfl, hc, hcm, hb, hcell⟩ := hv
  obtain ⟨N, hN⟩ : ∃ N, l.length + 1 = N := ⟨_, rfl⟩
  have hn : (34 :: (l ++ [34])).length = N + 1 := by simp; omega
  rw [hn] at hc ⊢
  have k0 : w.cell? ⟨b, o, none⟩ = some (.int .u8 34) := by
    have := hcell 0 (by simp)
    simpa using this
  have kn : w.cell? ⟨b, o + N, none⟩ = some (.int .u8 34) := by
    subst hN
    have := hcell (l.length + 1) (by simp)
    simpa using this
  have ki : ∀ j (h : j < l.length), w.cell? ⟨b, o + 1 + j, none⟩ = some (.int .u8 (l[j].toNat : Int)) := fun j h => by
    have := hcell (j + 1) (by simp; omega)
    rw [Nat.add_assoc, Nat.add_comm 1 j]
    simpa [List.getElem_append_left h] using this
  have c0 := one_cell hs
  have f0 := one_free hs 0
  have HK := Lib.hid ki
  have HOK := Lib.hid hok
  have HN := Lib.hid hN
  have hB : Calls Tryz.prog 199 #[.int .u8 34] w fun e w' => e = .returned (.bool false) ∧ w' = w := zzBlank_walk 34 w (by decide)
  have HB := Lib.hid hB
  have hN0 : (1 : Int) ≤ N := by omega
  have hN1 : (N : Int) + 1 ≤ c := by omega
  have hN2 : (N : Int) ≤ 1001 := by omega
  have hn1 : ((N + 1 : Nat) : Int) = (N : Int) + 1 := by omega
  have hc0 : (c : Int) ≤ 9223372036854775807 := by omega
  have hlt2 : decide ((N : Int) + 1 < 2) = false := decide_eq_false (by omega)
  have hne1 : ¬ c = 1 := by omega
  have hne2 : ¬ 1 = c := by omega
  clear hcell ki hok hn hs hB hN hc hcm
  go_enter Tryz.func178, Tryz.ntmps178
  go_wp2_with fail
  go_loopw [5] (fun fv wr => fv = .int .i64 0 ∧ wr = w) (fun _ _ => 0)
  case atStart => exact ⟨rfl, rfl⟩
  case round =>
    obtain ⟨rfl, rfl⟩ := hrel
    go_wp2_with fail
    refine HB.out.mono ?_
    rintro e w1 ⟨rfl, rfl⟩
    go_wp2_with fail
    go_loopw [6] (fun fv wr => fv = .int .i64 ((N : Int) + 1) ∧ wr = w1) (fun _ _ => 0)
    case atStart => exact ⟨rfl, rfl⟩
    case round =>
      obtain ⟨rfl, rfl⟩ := hrel
      go_wp2_with fail
      refine HB.out.mono ?_
      rintro e w1 ⟨rfl, rfl⟩
      go_wp2_with fail
      go_loopw [63] (fun iv wr => ∃ k : Nat, k ≤ l.length ∧ iv = .int .i64 k ∧ wr = w1) (fun iv _ => idxOf l.length iv)
      case atStart => exact ⟨0, Nat.zero_le _, rfl, rfl⟩
      case round =>
        obtain ⟨k, hk, rfl, rfl⟩ := hrel
        by_cases hkl : k < l.length
        · have hck := HK.out k hkl
          obtain ⟨p1, p2, p3, p4⟩ := HOK.out l[k] (List.getElem_mem _)
          obtain ⟨q, hq⟩ : ∃ q, l[k].toNat = q := ⟨_, rfl⟩
          rw [hq] at hck p1 p2 p3 p4
          have g1 : ((q : Int) == 34) = false := beq_eq_false_iff_ne.2 (by omega)
          have g2 : ((q : Int) == 92) = false := beq_eq_false_iff_ne.2 (by omega)
          have g3 : decide ((q : Int) < 32) = false := decide_eq_false (by omega)
          have g4 : decide ((126 : Int) < (q : Int)) = false := decide_eq_false (by omega)
          have g5 : (k : Int) < (N : Int) - 1 := by have := HN.out; omega
          have g6 : (0 : Int) ≤ k := by omega
          clear hq
          go_wp2_with fail
          refine ⟨⟨k + 1, by omega, by go_num, trivial⟩, by simp [idxOf]; omega⟩
        · have g5 : ¬ (k : Int) < (N : Int) - 1 := by have := HN.out; omega
          have hcv : (convert 22 9 (.slice (some ⟨b, o + 1, none⟩) (N - 1) (c - 1))).run Tryz.prog wr = .ok (.string (S l)) wr := by
            have h1 := run_convert_bytes_back (P := Tryz.prog) wr 22 9 5 ⟨b, o + 1, none⟩ (c - 1) l Tryz.underlying22 Tryz.underlying5 Tryz.underlying9 (fun j hj => by rw [add_off]; exact HK.out j hj)
            have h2 : N - 1 = l.length := by have := HN.out; omega
            rw [h2]
            exact h1
          go_wp2_with fail
          go_ret
          exact ⟨rfl, rfl⟩
end Go.Proofs.YtiohlcfdoleooaaGreatDoor
