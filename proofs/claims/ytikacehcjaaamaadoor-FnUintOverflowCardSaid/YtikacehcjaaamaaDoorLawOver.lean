/-
  The walk of laws.FnUintOverflow.
-/
import Derived.Test.YtikacehcjaaamaaDoorOver
import Derived.Test.YtikacehcjaaamaaDoorSpecFits
import Derived.Test.YtikacehcjaaamaaDoorAwake
import Derived.Deep.RegionHeld3
import Derived.Deep.RegionWith
namespace Go.Proofs.YtikacehcjaaamaaDoor
open Go.RowKit

theorem over_fits (z : Int) : overU z = (decide (z < 0) || !decide (z.natAbs < 2 ^ 256)) := by
  unfold overU
  congr 1
  by_cases h : z.natAbs < 2 ^ 256
  · rw [decide_eq_true h, decide_eq_false (by have := (natLen_lt_iff z.natAbs 256).2 h; omega)]; rfl
  · rw [decide_eq_false h, decide_eq_true (by
      refine Nat.lt_of_not_le fun hle => h ((natLen_lt_iff z.natAbs 256).1 hle))]; rfl

theorem held_grow {w : World} {g : Nat} {b : Bool} {A : Option Addr} {n c : Nat} {ds : List Nat} {p : Addr} {w1 w2 : World}
    (h : w1.cell? ⟨g, 0, none⟩ = some (.bool b) ∧ w1.cell? ⟨g, 1, none⟩ = some (.slice A n c) ∧ Below w.heap.size w w1 ∧ Rd w1 A (u8s ds) ∧ g < w1.heap.size ∧ EofIs w1 p) (k : Below w1.heap.size w1 w2) :
    w2.cell? ⟨g, 0, none⟩ = some (.bool b) ∧ w2.cell? ⟨g, 1, none⟩ = some (.slice A n c) ∧ Below w.heap.size w w2 ∧ Rd w2 A (u8s ds) ∧ g < w2.heap.size ∧ EofIs w2 p :=
  ⟨(k.cell (by exact h.2.2.2.2.1)).trans h.1, (k.cell (by exact h.2.2.2.2.1)).trans h.2.1, bt h.2.2.1 k, h.2.2.2.1.below k, Nat.lt_of_lt_of_le h.2.2.2.2.1 k.size, h.2.2.2.2.2.below k⟩
theorem held_drew {w : World} {g : Nat} {b : Bool} {A : Option Addr} {n c : Nat} {ds : List Nat} {p : Addr} {w1 : World}
    (h : w1.cell? ⟨g, 0, none⟩ = some (.bool b) ∧ w1.cell? ⟨g, 1, none⟩ = some (.slice A n c) ∧ Below w.heap.size w w1 ∧ Rd w1 A (u8s ds) ∧ g < w1.heap.size ∧ EofIs w1 p) :
    w1.drew.cell? ⟨g, 0, none⟩ = some (.bool b) ∧ w1.drew.cell? ⟨g, 1, none⟩ = some (.slice A n c) ∧ Below w.heap.size w w1.drew ∧ Rd w1.drew A (u8s ds) ∧ g < w1.drew.heap.size ∧ EofIs w1.drew p :=
  ⟨h.1, h.2.1, h.2.2.1.drew, h.2.2.2.1, h.2.2.2.2.1, h.2.2.2.2.2⟩

set_option maxRecDepth 100000 in
set_option maxHeartbeats 2000000 in
theorem fnUintOverflow_walk (l : List UInt8) (p : Addr) (w : World) (hl : l.length ≤ 140737488355328) (hp : EofIs w p) :
    Calls Tryd.prog 3 #[.string (S l)] w fun e w' => e = .returned (.bool true) ∧ Below w.heap.size w w' := by
  by_cases h0 : l.length ≤ 2147483647
  · have h0' : ¬ (2147483647 : Int) < l.length := by omega
    cases hok : readOk l with
    | false =>
      go_enter Tryd.func3, Tryd.ntmps3
      go_wp2_with fail
      refine (read_walk l _ hl).mono ?_
      rw [hok]
      rintro e w1 ⟨v, rfl, ⟨A, c, rfl, hc1, hc2, hrd⟩, hb⟩
      go_wp2_with (go_at_call 5; ((with_reducible refine (awake_walk _).mono ?_); rintro e w2 ⟨rfl, hb2⟩))
      all_goals go_ret
      all_goals exact ⟨rfl, bt (hb.alloc hb.size _) hb2⟩
    | true =>
      by_cases h90 : l.length ≤ 90
      · have h90' : decide ((90 : Int) < l.length) = false := decide_eq_false (by omega)
        obtain ⟨hn1, hn2⟩ := read_num hok
        have hov := over_fits (readZ l)
        obtain ⟨z, hz⟩ : ∃ z, readZ l = z := ⟨_, rfl⟩
        obtain ⟨n, hn⟩ : ∃ n, decide (z < 0) = n := ⟨_, rfl⟩
        obtain ⟨f, hf⟩ : ∃ f, decide (z.natAbs < 2 ^ 256) = f := ⟨_, rfl⟩
        rw [hz, hn] at hn1
        rw [hz] at hn2
        have HOV : Hid (overU (readZ l) = (n || !f)) := Lib.hid (by rw [hov, hz, hn, hf])
        have HN := Lib.hid hn
        have HF := Lib.hid hf
        clear hov hz hn hf
        go_enter Tryd.func3, Tryd.ntmps3
        go_wp2_with fail
        refine (read_walk l _ hl).mono ?_
        rw [hok, hn1, hn2]
        rintro e w1 ⟨v, rfl, ⟨A, c, rfl, hc1, hc2, hrd⟩, hb⟩
        have HRD := Lib.hid hrd
        clear hrd
        have hkept := held_grow (w2 := w1.alloc (.cells #[.bool n, .slice A (toD 10 z.natAbs).length c] 24)) (w1 := w1.alloc (.cells #[.bool n, .slice A (toD 10 z.natAbs).length c] 24)) (w := w) (ds := toD 10 z.natAbs) (p := p)
          ⟨num_cell0 (heap_here _ _), num_cell1 (heap_here _ _), hb.alloc hb.size _, HRD.out.below (below_a1 _ _), by rw [heap_size_alloc]; omega, (hp.below hb).below (below_a1 _ _)⟩ (Below.refl _ _)
        clear hb
        cases n with
        | true =>
          go_wp2_with fail
          go_region_with (first
            | (go_at_call 5
               refine (awake_walk _).mono ?_
               rintro e w7 ⟨rfl, hgr7⟩
               have hk7 := held_grow (held_drew hkept) hgr7
               have d0 := hk7.1)
            | (go_at_call 6
               refine (uintOverflows_walk l p _ hok (by omega) hk7.2.2.2.2.2).mono ?_
               rw [HOV.out]
               rintro e w8 ⟨rfl, hgr8⟩
               have hk8 := held_grow hk7 hgr8
               have d8 := hk8.1))
          all_goals
            go_wp2_with fail
            go_ret
            exact ⟨rfl, hk8.2.2.1⟩
        | false =>
          cases f with
          | true =>
            go_wp2_with fail
            go_region_held3 (fun w' => w'.cell? ⟨w1.heap.size, 0, none⟩ = some (.bool false) ∧ w'.cell? ⟨w1.heap.size, 1, none⟩ = some (.slice A (toD 10 z.natAbs).length c) ∧ Below w.heap.size w w' ∧ Rd w' A (u8s (toD 10 z.natAbs)) ∧ w1.heap.size < w'.heap.size ∧ EofIs w' p)
              (first | exact held_drew hkept | exact held_grow (by assumption) hgr | assumption)
              (first
                | (go_at_call 5; refine (awake_walk _).mono ?_; rintro e w7 ⟨rfl, hgr⟩)
                | (go_at_call 6; refine (uintOverflows_walk l p _ hok (by omega) (by go_split_ands; assumption)).mono ?_; rw [HOV.out]; rintro e w7 ⟨rfl, hgr⟩)
                | (go_at_call 7; refine (fits_walk _ z _ ⟨A, c, by rw [HN.out], hc1, hc2, by go_split_ands; assumption⟩).mono ?_; rw [HF.out]; rintro e w7 ⟨rfl, hgr⟩))
            all_goals
              go_wp2_with fail
              go_ret
              exact ⟨rfl, (‹_ ∧ _ ∧ Below w.heap.size w _ ∧ _›).2.2.1⟩

          | false =>
            go_wp2_with fail
            go_region_held3 (fun w' => w'.cell? ⟨w1.heap.size, 0, none⟩ = some (.bool false) ∧ w'.cell? ⟨w1.heap.size, 1, none⟩ = some (.slice A (toD 10 z.natAbs).length c) ∧ Below w.heap.size w w' ∧ Rd w' A (u8s (toD 10 z.natAbs)) ∧ w1.heap.size < w'.heap.size ∧ EofIs w' p)
              (first | exact held_drew hkept | exact held_grow (by assumption) hgr | assumption)
              (first
                | (go_at_call 5; refine (awake_walk _).mono ?_; rintro e w7 ⟨rfl, hgr⟩)
                | (go_at_call 6; refine (uintOverflows_walk l p _ hok (by omega) (by go_split_ands; assumption)).mono ?_; rw [HOV.out]; rintro e w7 ⟨rfl, hgr⟩)
                | (go_at_call 7; refine (fits_walk _ z _ ⟨A, c, by rw [HN.out], hc1, hc2, by go_split_ands; assumption⟩).mono ?_; rw [HF.out]; rintro e w7 ⟨rfl, hgr⟩))
            all_goals
              go_wp2_with fail
              go_ret
              exact ⟨rfl, (‹_ ∧ _ ∧ Below w.heap.size w _ ∧ _›).2.2.1⟩

      · have h90' : decide ((90 : Int) < l.length) = true := decide_eq_true (by omega)
        go_enter Tryd.func3, Tryd.ntmps3
        go_wp2_with fail
        refine (read_walk l _ hl).mono ?_
        rw [hok]
        rintro e w1 ⟨v, rfl, ⟨A, c, rfl, hc1, hc2, hrd⟩, hb⟩
        go_wp2_with (go_at_call 5; ((with_reducible refine (awake_walk _).mono ?_); rintro e w2 ⟨rfl, hb2⟩))
        all_goals go_ret
        all_goals exact ⟨rfl, bt (hb.alloc hb.size _) hb2⟩
  · have h0' : (2147483647 : Int) < l.length := by omega
    go_enter Tryd.func3, Tryd.ntmps3
    go_wp2_with fail
    go_ret
    exact ⟨rfl, Below.refl _ _⟩
end Go.Proofs.YtikacehcjaaamaaDoor
