/-
  impl.UintPow.
-/
import Derived.Test.YtapfolgiafnllaaGreatDoorPowBZ
import Derived.Test.YtapfolgiafnllaaGreatDoorBn04Z
namespace Go.Proofs.YtapfolgiafnllaaGreatDoor
open Go.RowKit

theorem powR_fits {b h : Int} (hb : 0 ≤ b) (hh : 0 ≤ h) : ∀ (n : Nat) (x z r : Int), overU x = false → overU z = false → powR b h n x z = some r → overU r = false := by
  intro n
  induction n using Nat.strongRecOn with
  | ind n ih =>
    intro x z r ox oz hr
    by_cases hn : n = 0
    · rw [hn, powR_zero] at hr
      injection hr with hr
      rw [← hr]; exact oz
    · have px : 0 ≤ x := by have := overU_pos ox; omega
      have pz : 0 ≤ z := by have := overU_pos oz; omega
      cases h1 : mulDiv b h x x with
      | none => rw [powR_none hn h1] at hr; cases hr
      | some x2 =>
        obtain ⟨o2, p2, _⟩ := mulDiv_fits hb hh px px h1
        by_cases h2 : n % 2 = 1
        · cases h3 : mulDiv b h z x2 with
          | none => rw [powR_oddN hn h1 h2 h3] at hr; cases hr
          | some z2 =>
            obtain ⟨o3, _⟩ := mulDiv_fits hb hh pz p2 h3
            rw [powR_odd hn h1 h2 h3] at hr
            exact ih (n / 2) (Nat.div_lt_self (by omega) (by decide)) x2 z2 r o2 o3 hr
        · rw [powR_even hn h1 h2] at hr
          exact ih (n / 2) (Nat.div_lt_self (by omega) (by decide)) x2 z r o2 oz hr
theorem powRef_fits {x b z : Int} {n : Nat} (ox : overU x = false) (ob : overU b = false) (h : powRef x n b = some z) : overU z = false := by
  unfold powRef at h
  split at h
  · split at h <;> (injection h with h; rw [← h]; decide)
  · have h2 := half_fits ob
    refine powR_fits (by have := overU_pos ob; omega) (by have := overU_pos h2; omega) _ _ _ _ ox ?_ h
    split
    · exact ob
    · exact ox

/-- The variables of the package that are met are not this one. -/
structure GlobOk (b : Nat) : Prop where
  e : 2 ≠ b
  l : 7 ≠ b
  k : 5 ≠ b
  d : 8 ≠ b
  s : 3 ≠ b
  t : 4 ≠ b
structure PowK (w : World) (p : Addr) (b : Nat) (w' : World) : Prop where
  ext : Ext (fun k => k = b) w w'
  eof : EofIs w' p
  leaf : LeafIs w'
  kara : KaraIs w'
  sqr : SqrIs w'
  div : DivIs w'
  out : ∃ s, w'.heap[b]? = some (.cells #[.string s] 9 (0, 0))
structure PowL (w : World) (p : Addr) (w' : World) : Prop where
  below : Below w.heap.size w w'
  eof : EofIs w' p
  kara : KaraIs w'
  sqr : SqrIs w'
  div : DivIs w'
theorem pow4_drew {w w1 : World} {p : Addr} {a b c : Nat} {u v t : Value} (h : w1.cell? ⟨a, 0, none⟩ = some u ∧ w1.cell? ⟨b, 0, none⟩ = some v ∧ w1.cell? ⟨c, 0, none⟩ = some t ∧ PowL w p w1) : w1.drew.cell? ⟨a, 0, none⟩ = some u ∧ w1.drew.cell? ⟨b, 0, none⟩ = some v ∧ w1.drew.cell? ⟨c, 0, none⟩ = some t ∧ PowL w p w1.drew :=
  ⟨h.1, h.2.1, h.2.2.1, h.2.2.2.below.drew, h.2.2.2.eof, h.2.2.2.kara, h.2.2.2.sqr, h.2.2.2.div⟩
theorem pow4_grow {w w1 w2 : World} {p : Addr} {a b c : Nat} {u v t : Value} (h : w1.cell? ⟨a, 0, none⟩ = some u ∧ w1.cell? ⟨b, 0, none⟩ = some v ∧ w1.cell? ⟨c, 0, none⟩ = some t ∧ PowL w p w1) (k : Below w1.heap.size w1 w2) : w2.cell? ⟨a, 0, none⟩ = some u ∧ w2.cell? ⟨b, 0, none⟩ = some v ∧ w2.cell? ⟨c, 0, none⟩ = some t ∧ PowL w p w2 := by
  obtain ⟨h1, h2, h3, q1, q2, q4, q5, q6⟩ := h
  exact ⟨(k.cell (by exact World.block_lt_of_cell? w1 _ h1)).trans h1, (k.cell (by exact World.block_lt_of_cell? w1 _ h2)).trans h2, (k.cell (by exact World.block_lt_of_cell? w1 _ h3)).trans h3, bt q1 k, q2.below k, q4.below k, q5.below k, q6.below k q6.lt⟩
theorem pow3_drew {w w1 : World} {p : Addr} {a b c d : Nat} {u v t : Value} (h : w1.cell? ⟨a, 0, none⟩ = some u ∧ w1.cell? ⟨b, 0, none⟩ = some v ∧ w1.cell? ⟨c, 0, none⟩ = some t ∧ PowK w p d w1) : w1.drew.cell? ⟨a, 0, none⟩ = some u ∧ w1.drew.cell? ⟨b, 0, none⟩ = some v ∧ w1.drew.cell? ⟨c, 0, none⟩ = some t ∧ PowK w p d w1.drew :=
  ⟨h.1, h.2.1, h.2.2.1, h.2.2.2.ext.drew, h.2.2.2.eof, h.2.2.2.leaf, h.2.2.2.kara, h.2.2.2.sqr, h.2.2.2.div, h.2.2.2.out⟩
theorem pow3_grow {w w1 w2 : World} {p : Addr} {a b c d : Nat} {u v t : Value} (h : w1.cell? ⟨a, 0, none⟩ = some u ∧ w1.cell? ⟨b, 0, none⟩ = some v ∧ w1.cell? ⟨c, 0, none⟩ = some t ∧ PowK w p d w1) (k : Below w1.heap.size w1 w2) : w2.cell? ⟨a, 0, none⟩ = some u ∧ w2.cell? ⟨b, 0, none⟩ = some v ∧ w2.cell? ⟨c, 0, none⟩ = some t ∧ PowK w p d w2 := by
  obtain ⟨h1, h2, h3, q1, q2, q3, q4, q5, q6, s, q7⟩ := h
  exact ⟨(k.cell (by exact World.block_lt_of_cell? w1 _ h1)).trans h1, (k.cell (by exact World.block_lt_of_cell? w1 _ h2)).trans h2, (k.cell (by exact World.block_lt_of_cell? w1 _ h3)).trans h3, q1.belowB (k.mono q1.size), q2.below k, q3.below k, q4.below k, q5.below k, q6.below k q6.lt, s, (k.block _ (iter_lt q7)).trans q7⟩
theorem pow3_set {w w1 : World} {p : Addr} {a b c d : Nat} {u v t : Value} {s : ByteArray} (h : w1.cell? ⟨a, 0, none⟩ = some u ∧ w1.cell? ⟨b, 0, none⟩ = some v ∧ w1.cell? ⟨c, 0, none⟩ = some t ∧ PowK w p d w1) (ha : a ≠ d) (hb : b ≠ d) (hc : c ≠ d) (hg : GlobOk d) :
    (w1.setCell ⟨d, 0, none⟩ (.string s)).cell? ⟨a, 0, none⟩ = some u ∧ (w1.setCell ⟨d, 0, none⟩ (.string s)).cell? ⟨b, 0, none⟩ = some v ∧ (w1.setCell ⟨d, 0, none⟩ (.string s)).cell? ⟨c, 0, none⟩ = some t ∧ PowK w p d (w1.setCell ⟨d, 0, none⟩ (.string s)) := by
  obtain ⟨h1, h2, h3, q1, q2, q3, q4, q5, q6, s0, q7⟩ := h
  exact ⟨(cell_other ha).trans h1, (cell_other hb).trans h2, (cell_other hc).trans h3, Ext.setCell (D := fun k => k = d) (p := ⟨d, 0, none⟩) q1 (fun _ => rfl) _, q2.other _ hg.e, (cell_other hg.l).trans q3, (cell_other hg.k).trans q4, ⟨(cell_other hg.s).trans q5.1, (cell_other hg.t).trans q5.2⟩, (cell_other hg.d).trans q6, s, one_set q7⟩

set_option maxRecDepth 100000 in
set_option maxHeartbeats 4000000 in
theorem uintPowC_walk (l1 l2 l3 : List UInt8) (n : Nat) (p : Addr) (b1 b2 b3 b4 : Nat) (w : World) (hok1 : readOk l1 = true) (hok2 : readOk l2 = true) (hok3 : readOk l3 = true) (hl1 : l1.length ≤ 1000) (hl2 : l2.length ≤ 1000) (hl3 : l3.length ≤ 1000) (hp : EofIs w p) (hleaf : LeafIs w) (hkara : KaraIs w) (hsqr : SqrIs w) (hdiv : DivIs w)
    (h1 : w.heap[b1]? = some (.cells #[.string (S l1)] 9 (0, 0))) (h2 : w.heap[b2]? = some (.cells #[.string (S l2)] 9 (0, 0))) (h3 : w.heap[b3]? = some (.cells #[.string (S l3)] 9 (0, 0))) (h4 : w.heap[b4]? = some (.cells #[.string ⟨#[]⟩] 9 (0, 0))) (hn1 : b1 ≠ b4) (hn2 : b2 ≠ b4) (hn3 : b3 ≠ b4) (hg : GlobOk b4)
    (ox : overU (readZ l1) = false) (hn : readZ l2 = (n : Int)) (on : overU (n : Int) = false) (ob : overU (readZ l3) = false) :
    Calls Tryz.prog 28 #[.pointer (some ⟨b1, 0, none⟩), .pointer (some ⟨b2, 0, none⟩), .pointer (some ⟨b3, 0, none⟩), .pointer (some ⟨b4, 0, none⟩)] w (DoPost w b4 (powRef (readZ l1) n (readZ l3))) := by
  have c1 := one_cell h1
  have c2 := one_cell h2
  have c3 := one_cell h3
  have H4 := Lib.hid h4
  have hfit := fun z => powRef_fits (z := z) ox ob (n := n)
  have HU1 := Lib.hid (fun (w2 : World) (hp2 : EofIs w2 p) => unsigned_walk l1 p w2 hok1 hl1 hp2 ox)
  have HU2 := Lib.hid (fun (w2 : World) (hp2 : EofIs w2 p) => unsigned_walk l2 p w2 hok2 hl2 hp2 (by rw [hn]; exact on))
  rw [hn] at HU2
  have HU3 := Lib.hid (fun (w2 : World) (hp2 : EofIs w2 p) => unsigned_walk l3 p w2 hok3 hl3 hp2 ob)
  have HREL := Lib.hid (fun (gx gn gb : Nat) (w' : World) (q1 : IntAt w' gx (readZ l1)) (q2 : IntAt w' gn (n : Int)) (q3 : IntAt w' gb (readZ l3)) (q4 : KaraIs w') (q5 : SqrIs w') (q6 : DivIs w') => relPow_walk gx gn gb (readZ l1) (readZ l3) n w' q1 q2 q3 q4 q5 q6 ox on ob)
  have hkept : w.cell? ⟨b1, 0, none⟩ = some (.string (S l1)) ∧ w.cell? ⟨b2, 0, none⟩ = some (.string (S l2)) ∧ w.cell? ⟨b3, 0, none⟩ = some (.string (S l3)) ∧ PowK w p b4 w := ⟨c1, c2, c3, Ext.refl _ _, hp, hleaf, hkara, hsqr, hdiv, _, h4⟩
  have hkept2 : w.cell? ⟨b1, 0, none⟩ = some (.string (S l1)) ∧ w.cell? ⟨b2, 0, none⟩ = some (.string (S l2)) ∧ w.cell? ⟨b3, 0, none⟩ = some (.string (S l3)) ∧ PowL w p w := ⟨c1, c2, c3, Below.refl _ _, hp, hkara, hsqr, hdiv⟩
  have HG := Lib.hid hg
  obtain ⟨x, hx⟩ : ∃ x, readZ l1 = x := ⟨_, rfl⟩
  obtain ⟨y, hy⟩ : ∃ y, readZ l3 = y := ⟨_, rfl⟩
  rw [hx] at HU1 HREL hfit ⊢
  rw [hy] at HU3 HREL hfit ⊢
  obtain ⟨R, hR⟩ : ∃ R, powRef x n y = R := ⟨_, rfl⟩
  rw [hR] at HREL hfit ⊢
  have HFIT := Lib.hid hfit
  clear h1 h2 h3 h4 hp hleaf hkara hsqr hdiv ox on ob hn hx hy hR hg hok1 hok2 hok3 hl1 hl2 hl3 hfit c1 c2 c3
  cases R with
  | some z =>
    obtain ⟨hnl, _⟩ := overU_len (HFIT.out z rfl)
    clear HFIT hkept2
    go_enter Tryz.func28, Tryz.ntmps28
    go_region_held3 (fun w' => w'.cell? ⟨b1, 0, none⟩ = some (.string (S l1)) ∧ w'.cell? ⟨b2, 0, none⟩ = some (.string (S l2)) ∧ w'.cell? ⟨b3, 0, none⟩ = some (.string (S l3)) ∧ PowK w p b4 w')
      (first | (with_reducible exact pow3_drew hkept) | (with_reducible exact pow3_grow (by assumption) hgr) | (with_reducible exact pow3_set SW5.out hn1 hn2 hn3 HG.out) | (with_reducible assumption))
      (first
        | (go_at_call 30; (with_reducible refine (HU1.out _ ?_).mono ?_); (go_split_ands; exact PowK.eof (by assumption)); rintro e w1 ⟨g1, rfl, hi1, hgr, hf1⟩; have HI1 := Lib.hid hi1; clear hi1)
        | (go_at_call 30; (with_reducible refine (HU2.out _ ?_).mono ?_); (go_split_ands; exact PowK.eof (by assumption)); rintro e w2 ⟨g2, rfl, hi2, hgr, hf2⟩; have HI2 := Lib.hid hi2; have HI12 := Lib.hid (HI1.out.below hgr); clear hi2)
        | (go_at_call 30; (with_reducible refine (HU3.out _ ?_).mono ?_); (go_split_ands; exact PowK.eof (by assumption)); rintro e w3 ⟨g3, rfl, hi3, hgr, hf3⟩; have HI3 := Lib.hid hi3; have HI13 := Lib.hid (HI12.out.below hgr); have HI23 := Lib.hid (HI2.out.below hgr); clear hi3)
        | (go_at_call 29; (with_reducible refine (HREL.out g1 g2 g3 _ HI13.out HI23.out HI3.out (by go_split_ands; exact PowK.kara (by assumption)) (by go_split_ands; exact PowK.sqr (by assumption)) (by go_split_ands; exact PowK.div (by assumption))).mono ?_); rintro e w4 ⟨g4, rfl, hi4, hgr⟩; have HI4 := Lib.hid hi4; clear hi4)
        | (go_at_call 31; refine (uintString_walk g4 z _ HI4.out hnl (by go_split_ands; exact PowK.leaf (by assumption))).mono ?_; rintro e w5 ⟨rfl, hgr⟩; have SW5 := Lib.hid (pow3_grow (by assumption) hgr); obtain ⟨s5, k5⟩ := SW5.out.2.2.2.out; have q1 := one_cell k5; have q2 := one_free k5 0; have K5 := Lib.hid k5; clear k5))
    all_goals
      go_wp2_with fail
      go_end0
      exact ⟨rfl, Ext.setCell (D := fun k => k = b4) (p := ⟨b4, 0, none⟩) SW5.out.2.2.2.ext (fun _ => rfl) _, one_set K5.out⟩
  | none =>
    clear HFIT hkept
    go_enter Tryz.func28, Tryz.ntmps28
    have T0 := Lib.hid (pow4_drew hkept2)
    have a1 := hkept2.1
    have a2 := hkept2.2.1
    have a3 := hkept2.2.2.1
    clear hkept2
    go_region_with (first
        | (go_at_call 30; (with_reducible refine (HU1.out _ ?_).mono ?_); (exact T0.out.2.2.2.eof); rintro e w1 ⟨g1, rfl, hi1, hgr, hf1⟩; have HI1 := Lib.hid hi1; have t1 := pow4_grow T0.out hgr; have d2 := t1.2.1; have d3 := t1.2.2.1; have T1 := Lib.hid t1; clear t1 hi1 hgr hf1)
        | (go_at_call 30; (with_reducible refine (HU2.out _ ?_).mono ?_); (exact T1.out.2.2.2.eof); rintro e w2 ⟨g2, rfl, hi2, hgr, hf2⟩; have HI2 := Lib.hid hi2; have HI12 := Lib.hid (HI1.out.below hgr); have t2 := pow4_grow T1.out hgr; have e3 := t2.2.2.1; have T2 := Lib.hid t2; clear t2 hi2 hgr hf2)
        | (go_at_call 30; (with_reducible refine (HU3.out _ ?_).mono ?_); (exact T2.out.2.2.2.eof); rintro e w3 ⟨g3, rfl, hi3, hgr, hf3⟩; have HI3 := Lib.hid hi3; have HI13 := Lib.hid (HI12.out.below hgr); have HI23 := Lib.hid (HI2.out.below hgr); have T3 := Lib.hid (pow4_grow T2.out hgr); clear hi3 hgr hf3)
        | (go_at_call 29; (with_reducible refine (HREL.out g1 g2 g3 _ HI13.out HI23.out HI3.out T3.out.2.2.2.kara T3.out.2.2.2.sqr T3.out.2.2.2.div).mono ?_); rintro e w4 ⟨t4, v4, rfl, hgr⟩; have hp : DoPost w b4 none (.panicked [{ v := .iface t4 v4, recovered := false }]) w4 := ⟨_, _, rfl, bt T3.out.2.2.2.below hgr⟩; have HPP := Lib.hid hp; clear hp; suffices hq : wpAny Tryz.prog .any #[] (fun _ _ _ => True) 0 #[] ⟨#[], []⟩ w4 by (go_wp2_with fail; exact ⟨rfl, HPP.out⟩)))
    all_goals trivial

set_option maxRecDepth 100000 in
theorem callCUintPow : ∀ (caps : Array Value) (w : World), (callFunc 28 caps).run Tryz.prog w = .ok (.enter 28 caps) w := fun _ _ => by rfl
set_option maxRecDepth 100000 in
set_option maxHeartbeats 2000000 in
theorem uintPow_walk (l1 l2 l3 : List UInt8) (n : Nat) (p : Addr) (w : World) (hok1 : readOk l1 = true) (hok2 : readOk l2 = true) (hok3 : readOk l3 = true) (hl1 : l1.length ≤ 1000) (hl2 : l2.length ≤ 1000) (hl3 : l3.length ≤ 1000) (hp : EofIs w p) (hleaf : LeafIs w) (hkara : KaraIs w) (hsqr : SqrIs w) (hdiv : DivIs w) (ox : overU (readZ l1) = false) (hn : readZ l2 = (n : Int)) (on : overU (n : Int) = false) (ob : overU (readZ l3) = false) :
    Calls Tryz.prog 9 #[.string (S l1), .string (S l2), .string (S l3)] w fun e w' => e = .returned (.tuple #[.string (S (outT (powRef (readZ l1) n (readZ l3)))), .bool (powRef (readZ l1) n (readZ l3)).isSome]) ∧ Below w.heap.size w w' := by
  have hmf : ∀ (fn : Fn) (first cap : Array Value) (w : World), (Instr.makeFunc fn first cap).run Tryz.prog w = .ok (.func fn first cap) w := fun _ _ _ _ => rfl
  obtain ⟨R, hR⟩ : ∃ R, powRef (readZ l1) n (readZ l3) = R := ⟨_, rfl⟩
  rw [hR]
  have HS : Hid (Calls Tryz.prog 27 #[.func (.func 28) #[] #[.pointer (some ⟨w.heap.size, 0, none⟩), .pointer (some ⟨w.heap.size + 1, 0, none⟩), .pointer (some ⟨w.heap.size + 1 + 1, 0, none⟩), .pointer (some ⟨w.heap.size + 1 + 1 + 1, 0, none⟩)]]
      ((((w.alloc (.cells #[.string (S l1)] 9)).alloc (.cells #[.string (S l2)] 9)).alloc (.cells #[.string (S l3)] 9)).alloc (.cells #[.string ⟨#[]⟩] 9))
      fun e w' => e = .returned (.bool R.isSome) ∧ Below w.heap.size w w' ∧ w'.heap[w.heap.size + 1 + 1 + 1]? = some (.cells #[.string (S (outT R))] 9 (0, 0))) := by
    apply Lib.hid
    have k0 : ((((w.alloc (.cells #[.string (S l1)] 9)).alloc (.cells #[.string (S l2)] 9)).alloc (.cells #[.string (S l3)] 9)).alloc (.cells #[.string ⟨#[]⟩] 9)).heap[w.heap.size]? = some (.cells #[.string (S l1)] 9 (0, 0)) := heap_old (heap_old (heap_old (heap_here _ _)))
    have k1 : ((((w.alloc (.cells #[.string (S l1)] 9)).alloc (.cells #[.string (S l2)] 9)).alloc (.cells #[.string (S l3)] 9)).alloc (.cells #[.string ⟨#[]⟩] 9)).heap[w.heap.size + 1]? = some (.cells #[.string (S l2)] 9 (0, 0)) := heap_old (heap_old (heap_at _ _ (heap_size_alloc _ _)))
    have k2 : ((((w.alloc (.cells #[.string (S l1)] 9)).alloc (.cells #[.string (S l2)] 9)).alloc (.cells #[.string (S l3)] 9)).alloc (.cells #[.string ⟨#[]⟩] 9)).heap[w.heap.size + 1 + 1]? = some (.cells #[.string (S l3)] 9 (0, 0)) := heap_old (heap_at _ _ (by simp only [heap_size_alloc]))
    have k3 : ((((w.alloc (.cells #[.string (S l1)] 9)).alloc (.cells #[.string (S l2)] 9)).alloc (.cells #[.string (S l3)] 9)).alloc (.cells #[.string ⟨#[]⟩] 9)).heap[w.heap.size + 1 + 1 + 1]? = some (.cells #[.string ⟨#[]⟩] 9 (0, 0)) := heap_at _ _ (by simp only [heap_size_alloc])
    have hb : Below w.heap.size w ((((w.alloc (.cells #[.string (S l1)] 9)).alloc (.cells #[.string (S l2)] 9)).alloc (.cells #[.string (S l3)] 9)).alloc (.cells #[.string ⟨#[]⟩] 9)) := bt (below_a2 _ _ _) (below_a2 _ _ _)
    obtain ⟨wa, hwa⟩ : ∃ wa, (((w.alloc (.cells #[.string (S l1)] 9)).alloc (.cells #[.string (S l2)] 9)).alloc (.cells #[.string (S l3)] 9)).alloc (.cells #[.string ⟨#[]⟩] 9) = wa := ⟨_, rfl⟩
    rw [hwa] at k0 k1 k2 k3 hb ⊢
    clear hwa
    have lt3 := iter_lt k3
    have g1 := hp.lt
    have g2 := hleaf.lt
    have g3 : 5 < w.heap.size := World.block_lt_of_cell? w _ hkara
    have g4 := hdiv.lt
    have g5 : 3 < w.heap.size := World.block_lt_of_cell? w _ hsqr.1
    have g6 : 4 < w.heap.size := World.block_lt_of_cell? w _ hsqr.2
    have hC := uintPowC_walk l1 l2 l3 n p _ _ _ _ (wa.alloc (.cells #[.bool false] 4)) hok1 hok2 hok3 hl1 hl2 hl3 ((hp.below hb).below (below_a1 _ _)) ((hleaf.below hb).below (below_a1 _ _)) ((hkara.below hb).below (below_a1 _ _)) ((hsqr.below hb).below (below_a1 _ _)) ((hdiv.below hb hdiv.lt).below (below_a1 _ _) (hdiv.below hb hdiv.lt).lt) (heap_old k0) (heap_old k1) (heap_old k2) (heap_old k3) (by omega) (by omega) (by omega) ⟨by omega, by omega, by omega, by omega, by omega, by omega⟩ ox hn on ob
    clear g1 g2 g3 g4 g5 g6
    rw [hR] at hC
    cases R with
    | some z =>
      refine safe_ret 28 _ wa (fun w' => Below w.heap.size w w' ∧ w'.heap[w.heap.size + 1 + 1 + 1]? = some (.cells #[.string (S (zText z))] 9 (0, 0))) (callCUintPow _) ?_
      refine hC.mono ?_
      rintro e w1 ⟨rfl, he, j3⟩
      refine ⟨rfl, (he.block wa.heap.size (by rw [heap_size_alloc]; omega) (by omega)).trans (heap_here _ _), ?_, ?_⟩
      · refine Below.setCell (Below.setCell ?_ (by show w.heap.size ≤ wa.heap.size; omega) _) (by show w.heap.size ≤ wa.heap.size; omega) _
        exact (hb.trans ((below_a1 wa _).mono (by omega))).trans (he.below (by rw [heap_size_alloc]; omega) (fun k hk => by omega))
      · exact ((one_other (by show w.heap.size + 1 + 1 + 1 ≠ wa.heap.size; omega)).trans (one_other (by show w.heap.size + 1 + 1 + 1 ≠ wa.heap.size; omega))).trans j3
    | none =>
      refine safe_panics 28 _ wa (fun w' => Below w.heap.size w w' ∧ w'.heap[w.heap.size + 1 + 1 + 1]? = some (.cells #[.string (S [])] 9 (0, 0))) (callCUintPow _) ?_
      refine hC.mono ?_
      rintro e w1 ⟨t, v, rfl, hb1⟩
      refine ⟨t, v, rfl, (hb1.block wa.heap.size (by rw [heap_size_alloc]; omega)).trans (heap_here _ _), ?_, ?_⟩
      · exact ((hb.trans ((below_a1 wa _).mono (by omega))).trans (hb1.mono (by rw [heap_size_alloc]; omega))).setCell (p := ⟨wa.heap.size, 0, none⟩) (by show w.heap.size ≤ wa.heap.size; omega) _
      · exact ((one_other (by show w.heap.size + 1 + 1 + 1 ≠ wa.heap.size; omega)).trans (hb1.block _ (by rw [heap_size_alloc]; omega))).trans (heap_old k3)
  clear hR hp hleaf hkara hsqr hdiv ox on ob hn hok1 hok2 hok3
  cases R with
  | some z =>
    obtain ⟨T, hT⟩ : ∃ T, outT (some z) = T := ⟨_, rfl⟩
    rw [hT] at HS ⊢
    have e0 : (some z).isSome = true := rfl
    rw [e0] at HS ⊢
    clear hT e0
    go_enter Tryz.func9, Tryz.ntmps9
    go_wp2_with fail
    refine HS.out.mono ?_
    rintro e w1 ⟨rfl, hb, k3⟩
    have c3 := one_cell k3
    have f3 := one_free k3 0
    have K3 := Lib.hid k3
    clear k3
    go_wp2_with fail
    have e3 := one_set (u := .string (S T)) K3.out
    have d3 := one_cell e3
    exact bodyPost_ret (v := .tuple #[.string (S T), .bool true]) (by simp [results, Tryz.results9, go_sem, d3]) rfl ⟨rfl, hb.setCell (p := ⟨w.heap.size + 1 + 1 + 1, 0, none⟩) (by show w.heap.size ≤ w.heap.size + 1 + 1 + 1; omega) _⟩
  | none =>
    have e0 : (none : Option Int).isSome = false := rfl
    have e1 : outT none = [] := rfl
    rw [e1, e0] at HS ⊢
    clear e0 e1
    go_enter Tryz.func9, Tryz.ntmps9
    go_wp2_with fail
    refine HS.out.mono ?_
    rintro e w1 ⟨rfl, hb, k3⟩
    have c3 := one_cell k3
    have f3 := one_free k3 0
    have K3 := Lib.hid k3
    clear k3
    go_wp2_with fail
    have e3 := one_set (u := .string ⟨#[]⟩) K3.out
    have d3 := one_cell e3
    exact bodyPost_ret (v := .tuple #[.string ⟨#[]⟩, .bool false]) (by simp [results, Tryz.results9, go_sem, d3]) rfl ⟨rfl, hb.setCell (p := ⟨w.heap.size + 1 + 1 + 1, 0, none⟩) (by show w.heap.size ≤ w.heap.size + 1 + 1 + 1; omega) _⟩
end Go.Proofs.YtapfolgiafnllaaGreatDoor
