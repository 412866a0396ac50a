/-
  impl.IntDecimal.
-/
import Derived.Test.YtapfolgiafnllaaGreatDoorExpEZ
import Derived.Test.YtapfolgiafnllaaGreatDoorIntAwakeZ
namespace Go.Proofs.YtapfolgiafnllaaGreatDoor
open Go.RowKit

def outD (r : Option Int) : List UInt8 :=
  match r with
  | some z => zText z
  | none => []
def DecCPost (w : World) (b : Nat) (r : Option Int) (e : Ending) (w' : World) : Prop :=
  match r with
  | some z => e = .returned (.tuple #[]) ∧ Ext (fun k => k = b) w w' ∧ w'.heap[b]? = some (.cells #[.string (S (zText z))] 9 (0, 0))
  | none => PanicPost w e w'

set_option maxRecDepth 100000 in
set_option maxHeartbeats 4000000 in
theorem intDecC_walk (n dd : Int) (b1 b2 b3 : Nat) (w : World) (hn : -9223372036854775808 ≤ n ∧ n < 9223372036854775808) (hd : dd ≤ 200) (hleaf : LeafIs w) (hkara : KaraIs w) (hsqr : SqrIs w)
    (h1 : w.heap[b1]? = some (.cells #[.int .i64 n] 2 (0, 0))) (h2 : w.heap[b2]? = some (.cells #[.int .i64 dd] 3 (0, 0))) (h3 : w.heap[b3]? = some (.cells #[.string ⟨#[]⟩] 9 (0, 0))) (_hn1 : b1 ≠ b3) (_hn2 : b2 ≠ b3) :
    Calls Tryz.prog 34 #[.pointer (some ⟨b1, 0, none⟩), .pointer (some ⟨b2, 0, none⟩), .pointer (some ⟨b3, 0, none⟩)] w (DecCPost w b3 (decRef n dd)) := by
  have c1 := one_cell h1
  have c2 := one_cell h2
  have H3 := Lib.hid h3
  have HLF := Lib.hid hleaf
  have hfit : ∀ z, decRef n dd = some z → overI z = false := fun z hz => by
    unfold decRef at hz
    split at hz
    · cases hz
    · split at hz
      · cases hz
      · next h => injection hz with hz; rw [← hz]; simpa using h
  have HW : Hid (Calls Tryz.prog 35 #[.int .i64 n, .int .i64 dd] w (DecPost w (decRef n dd))) := Lib.hid (by
    by_cases h0 : dd < 0
    · have hr : decRef n dd = none := by unfold decRef; rw [if_pos h0]
      rw [hr]
      exact withDec_neg n dd w h0
    · obtain ⟨d, rfl⟩ := Int.eq_ofNat_of_zero_le (show 0 ≤ dd by omega)
      exact withDec_walk n d w hn (by omega) hkara hsqr)
  obtain ⟨R, hR⟩ : ∃ R, decRef n dd = R := ⟨_, rfl⟩
  rw [hR] at HW hfit ⊢
  have HFIT := Lib.hid hfit
  clear h1 h2 h3 hleaf hkara hsqr hR hfit hn hd
  cases R with
  | some z =>
    have hnl := overI_len (HFIT.out z rfl)
    clear HFIT
    go_enter Tryz.func34, Tryz.ntmps34
    go_wp2_with fail
    refine HW.out.mono ?_
    rintro e w1 ⟨g1, rfl, hi1, hb1, hf1⟩
    have HI1 := Lib.hid hi1
    have HB1 := Lib.hid hb1
    clear hi1 hb1 hf1
    go_wp2_with fail
    refine (intStringI_walk g1 z w1 HI1.out hnl (HLF.out.below HB1.out)).mono ?_
    rintro e w2 ⟨rfl, hb2⟩
    have hk2 := (hb2.block b3 (by have := iter_lt H3.out; have := HB1.out.size; omega)).trans ((HB1.out.block b3 (iter_lt H3.out)).trans H3.out)
    have c3 := one_cell hk2
    have f3 := one_free hk2 0
    have HK2 := Lib.hid hk2
    have HB2 := Lib.hid (bt HB1.out hb2)
    clear hk2 hb2
    go_wp2_with fail
    go_end0
    exact ⟨rfl, Ext.setCell (D := fun k => k = b3) (p := ⟨b3, 0, none⟩) (Ext.of_below HB2.out) (fun _ => rfl) _, one_set HK2.out⟩
  | none =>
    clear HFIT
    go_enter Tryz.func34, Tryz.ntmps34
    go_wp2_with fail
    refine HW.out.mono ?_
    rintro e w1 ⟨t1, v1, rfl, hb1⟩
    have hp : DecCPost w b3 none (.panicked [{ v := .iface t1 v1, recovered := false }]) w1 := ⟨_, _, rfl, hb1⟩
    have HP := Lib.hid hp
    clear hp hb1
    go_wp2_with fail
    exact ⟨rfl, HP.out⟩

set_option maxRecDepth 100000 in
theorem callCIntDec : ∀ (caps : Array Value) (w : World), (callFunc 34 caps).run Tryz.prog w = .ok (.enter 34 caps) w := fun _ _ => by rfl
set_option maxRecDepth 100000 in
set_option maxHeartbeats 2000000 in
theorem intDecimal_walk (n dd : Int) (w : World) (hn : -9223372036854775808 ≤ n ∧ n < 9223372036854775808) (hd : dd ≤ 200) (hleaf : LeafIs w) (hkara : KaraIs w) (hsqr : SqrIs w) :
    Calls Tryz.prog 13 #[.int .i64 n, .int .i64 dd] w fun e w' => e = .returned (.tuple #[.string (S (outD (decRef n dd))), .bool (decRef n dd).isSome]) ∧ Below w.heap.size w w' := by
  have hmf : ∀ (fn : Fn) (first cap : Array Value) (w : World), (Instr.makeFunc fn first cap).run Tryz.prog w = .ok (.func fn first cap) w := fun _ _ _ _ => rfl
  obtain ⟨R, hR⟩ : ∃ R, decRef n dd = R := ⟨_, rfl⟩
  rw [hR]
  have HS : Hid (Calls Tryz.prog 27 #[.func (.func 34) #[] #[.pointer (some ⟨w.heap.size, 0, none⟩), .pointer (some ⟨w.heap.size + 1, 0, none⟩), .pointer (some ⟨w.heap.size + 1 + 1, 0, none⟩)]]
      (((w.alloc (.cells #[.int .i64 n] 2)).alloc (.cells #[.int .i64 dd] 3)).alloc (.cells #[.string ⟨#[]⟩] 9))
      fun e w' => e = .returned (.bool R.isSome) ∧ Below w.heap.size w w' ∧ w'.heap[w.heap.size + 1 + 1]? = some (.cells #[.string (S (outD R))] 9 (0, 0))) := by
    apply Lib.hid
    have k0 : (((w.alloc (.cells #[.int .i64 n] 2)).alloc (.cells #[.int .i64 dd] 3)).alloc (.cells #[.string ⟨#[]⟩] 9)).heap[w.heap.size]? = some (.cells #[.int .i64 n] 2 (0, 0)) := heap_old (heap_old (heap_here _ _))
    have k1 : (((w.alloc (.cells #[.int .i64 n] 2)).alloc (.cells #[.int .i64 dd] 3)).alloc (.cells #[.string ⟨#[]⟩] 9)).heap[w.heap.size + 1]? = some (.cells #[.int .i64 dd] 3 (0, 0)) := heap_old (heap_at _ _ (heap_size_alloc _ _))
    have k3 : (((w.alloc (.cells #[.int .i64 n] 2)).alloc (.cells #[.int .i64 dd] 3)).alloc (.cells #[.string ⟨#[]⟩] 9)).heap[w.heap.size + 1 + 1]? = some (.cells #[.string ⟨#[]⟩] 9 (0, 0)) := heap_at _ _ (by simp only [heap_size_alloc])
    have hb : Below w.heap.size w (((w.alloc (.cells #[.int .i64 n] 2)).alloc (.cells #[.int .i64 dd] 3)).alloc (.cells #[.string ⟨#[]⟩] 9)) := bt (below_a2 _ _ _) (below_a1 _ _)
    obtain ⟨wa, hwa⟩ : ∃ wa, ((w.alloc (.cells #[.int .i64 n] 2)).alloc (.cells #[.int .i64 dd] 3)).alloc (.cells #[.string ⟨#[]⟩] 9) = wa := ⟨_, rfl⟩
    rw [hwa] at k0 k1 k3 hb ⊢
    clear hwa
    have lt3 := iter_lt k3
    have hC := intDecC_walk n dd _ _ _ (wa.alloc (.cells #[.bool false] 4)) hn hd ((hleaf.below hb).below (below_a1 _ _)) ((hkara.below hb).below (below_a1 _ _)) ((hsqr.below hb).below (below_a1 _ _)) (heap_old k0) (heap_old k1) (heap_old k3) (by omega) (by omega)
    rw [hR] at hC
    cases R with
    | some z =>
      refine safe_ret 34 _ wa (fun w' => Below w.heap.size w w' ∧ w'.heap[w.heap.size + 1 + 1]? = some (.cells #[.string (S (zText z))] 9 (0, 0))) (callCIntDec _) ?_
      refine hC.mono ?_
      rintro e w1 ⟨rfl, he, j3⟩
      refine ⟨rfl, (he.block wa.heap.size (by rw [heap_size_alloc]; omega) (by omega)).trans (heap_here _ _), ?_, ?_⟩
      · refine Below.setCell (Below.setCell ?_ (by show w.heap.size ≤ wa.heap.size; omega) _) (by show w.heap.size ≤ wa.heap.size; omega) _
        exact (hb.trans ((below_a1 wa _).mono (by omega))).trans (he.below (by rw [heap_size_alloc]; omega) (fun k hk => by omega))
      · exact ((one_other (by show w.heap.size + 1 + 1 ≠ wa.heap.size; omega)).trans (one_other (by show w.heap.size + 1 + 1 ≠ wa.heap.size; omega))).trans j3
    | none =>
      refine safe_panics 34 _ wa (fun w' => Below w.heap.size w w' ∧ w'.heap[w.heap.size + 1 + 1]? = some (.cells #[.string (S [])] 9 (0, 0))) (callCIntDec _) ?_
      refine hC.mono ?_
      rintro e w1 ⟨t, v, rfl, hb1⟩
      refine ⟨t, v, rfl, (hb1.block wa.heap.size (by rw [heap_size_alloc]; omega)).trans (heap_here _ _), ?_, ?_⟩
      · exact ((hb.trans ((below_a1 wa _).mono (by omega))).trans (hb1.mono (by rw [heap_size_alloc]; omega))).setCell (p := ⟨wa.heap.size, 0, none⟩) (by show w.heap.size ≤ wa.heap.size; omega) _
      · exact ((one_other (by show w.heap.size + 1 + 1 ≠ wa.heap.size; omega)).trans (hb1.block _ (by rw [heap_size_alloc]; omega))).trans (heap_old k3)
  have hd4 : ¬ (10000 : Int) < dd := by omega
  have kd : (((w.alloc (.cells #[.int .i64 n] 2)).alloc (.cells #[.int .i64 dd] 3)).alloc (.cells #[.string ⟨#[]⟩] 9)).cell? ⟨w.heap.size + 1, 0, none⟩ = some (.int .i64 dd) := one_cell (heap_old (heap_at _ _ (heap_size_alloc _ _)))
  clear hR hleaf hkara hsqr hn hd
  cases R with
  | some z =>
    obtain ⟨T, hT⟩ : ∃ T, outD (some z) = T := ⟨_, rfl⟩
    rw [hT] at HS ⊢
    have e0 : (some z).isSome = true := rfl
    rw [e0] at HS ⊢
    clear hT e0
    go_enter Tryz.func13, Tryz.ntmps13
    go_wp2_with fail
    refine HS.out.mono ?_
    rintro e w1 ⟨rfl, hb, k3⟩
    have c3 := one_cell k3
    have f3 := one_free k3 0
    have K3 := Lib.hid k3
    clear k3
    go_wp2_with fail
    have e3 := one_set (u := .string (S T)) K3.out
    have d3 := one_cell e3
    exact bodyPost_ret (v := .tuple #[.string (S T), .bool true]) (by simp [results, Tryz.results13, go_sem, d3]) rfl ⟨rfl, hb.setCell (p := ⟨w.heap.size + 1 + 1, 0, none⟩) (by show w.heap.size ≤ w.heap.size + 1 + 1; omega) _⟩
  | none =>
    have e0 : (none : Option Int).isSome = false := rfl
    have e1 : outD none = [] := rfl
    rw [e1, e0] at HS ⊢
    clear e0 e1
    go_enter Tryz.func13, Tryz.ntmps13
    go_wp2_with fail
    refine HS.out.mono ?_
    rintro e w1 ⟨rfl, hb, k3⟩
    have c3 := one_cell k3
    have f3 := one_free k3 0
    have K3 := Lib.hid k3
    clear k3
    go_wp2_with fail
    have e3 := one_set (u := .string ⟨#[]⟩) K3.out
    have d3 := one_cell e3
    exact bodyPost_ret (v := .tuple #[.string ⟨#[]⟩, .bool false]) (by simp [results, Tryz.results13, go_sem, d3]) rfl ⟨rfl, hb.setCell (p := ⟨w.heap.size + 1 + 1, 0, none⟩) (by show w.heap.size ≤ w.heap.size + 1 + 1; omega) _⟩
end Go.Proofs.YtapfolgiafnllaaGreatDoor
