/-
  The closures of impl.IntBytes, UintFromBytes, UintJSON, UintFromJSON.
-/
import Derived.Test.YtiohlcfdoleooaaGreatDoorIntBytes
import Derived.Test.YtiohlcfdoleooaaGreatDoorIntNew
import Derived.BigRegion
namespace Go.Proofs.YtiohlcfdoleooaaGreatDoor
open Go.RowKit

/-- What the closure of impl.IntJSON leaves. -/
def TextOutI (w : World) (b2 b3 : Nat) (l : List UInt8) (w' : World) : Prop :=
  Ext (fun k => k = b2 ∨ k = b3) w w' ∧ w'.heap[b2]? = some (.cells #[.string (S l)] 9 (0, 0)) ∧ w'.heap[b3]? = some (.cells #[.bool true] 4 (0, 0))
theorem text_outI {w w3 : World} {b2 b3 : Nat} {l : List UInt8} {u v : Value} (hne : b2 ≠ b3) (h2 : w3.heap[b2]? = some (.cells #[u] 9 (0, 0))) (h3 : w3.heap[b3]? = some (.cells #[v] 4 (0, 0))) (hx : Ext (fun k => k = b2 ∨ k = b3) w w3) :
    TextOutI w b2 b3 l ((w3.setCell ⟨b2, 0, none⟩ (.string (S l))).setCell ⟨b3, 0, none⟩ (.bool true)) ∧ TextOutI w b2 b3 l ((w3.setCell ⟨b3, 0, none⟩ (.bool true)).setCell ⟨b2, 0, none⟩ (.string (S l))) :=
  ⟨⟨Ext.setCell (D := fun k => k = b2 ∨ k = b3) (p := ⟨b3, 0, none⟩) (Ext.setCell (D := fun k => k = b2 ∨ k = b3) (p := ⟨b2, 0, none⟩) hx (fun _ => .inl rfl) _) (fun _ => .inr rfl) _, (one_other (by exact hne)).trans (one_set h2), one_set ((one_other (by exact hne.symm)).trans h3)⟩,
   ⟨Ext.setCell (D := fun k => k = b2 ∨ k = b3) (p := ⟨b2, 0, none⟩) (Ext.setCell (D := fun k => k = b2 ∨ k = b3) (p := ⟨b3, 0, none⟩) hx (fun _ => .inr rfl) _) (fun _ => .inl rfl) _, one_set ((one_other (by exact hne)).trans h2), (one_other (by exact hne.symm)).trans (one_set h3)⟩⟩
theorem TextOutI.drew {w w' : World} {b2 b3 : Nat} {l : List UInt8} (h : TextOutI w b2 b3 l w') : TextOutI w b2 b3 l w'.drew := ⟨h.1.drew, h.2.1, h.2.2⟩

set_option maxRecDepth 100000 in
set_option maxHeartbeats 2000000 in
theorem intJsonC_walk (l : List UInt8) (p : Addr) (b1 b2 b3 : Nat) (w : World) (hok : readOk l = true) (hl : l.length ≤ 1000) (hp : EofIs w p) (hleaf : LeafIs w) (h1 : w.heap[b1]? = some (.cells #[.string (S l)] 9 (0, 0)))
    (h2 : w.heap[b2]? = some (.cells #[.string ⟨#[]⟩] 9 (0, 0))) (h3 : w.heap[b3]? = some (.cells #[.bool false] 4 (0, 0))) (hne : b2 ≠ b3) (ox : overI (readZ l) = false) :
    Calls Tryz.prog 85 #[.pointer (some ⟨b1, 0, none⟩), .pointer (some ⟨b2, 0, none⟩), .pointer (some ⟨b3, 0, none⟩)] w fun e w' => e = .returned (.tuple #[]) ∧ TextOutI w b2 b3 (34 :: (zText (readZ l) ++ [34])) w' := by
  have c1 := one_cell h1
  have l2 := iter_lt h2
  have l3 := iter_lt h3
  have H2 := Lib.hid h2
  have H3 := Lib.hid h3
  have HU := Lib.hid (integer_walk l p w hok hl hp ox)
  have hnl := overI_len ox
  have HLF := Lib.hid hleaf
  obtain ⟨z, hz⟩ : ∃ z, readZ l = z := ⟨_, rfl⟩
  rw [hz] at HU hnl ⊢
  have HM := Lib.hid (fun (g : Nat) (w2 : World) (h : IntAt w2 g z) (h3 : LeafIs w2) => iMarshalJSON_walk g z w2 h hnl h3)
  have hqn : (34 :: (zText z ++ [34]) : List UInt8) ≠ [] := by simp
  obtain ⟨t, ht⟩ : ∃ t, (34 :: (zText z ++ [34]) : List UInt8) = t := ⟨_, rfl⟩
  unfold JsonPost at HM
  rw [ht] at HM hqn ⊢
  have HNE := Lib.hid hne
  have HQN := Lib.hid hqn
  have hne2 : b3 ≠ b2 := hne.symm
  clear h1 h2 h3 hp hleaf ox hz ht hqn hok
  go_enter Tryz.func85, Tryz.ntmps85
  go_wp2_with fail
  refine HU.out.mono ?_
  rintro e w1 ⟨g1, rfl, hi1, hb1, _⟩
  have HI1 := Lib.hid hi1
  have HB1 := Lib.hid hb1
  clear hi1 hb1
  go_wp2_with fail
  refine (HM.out g1 w1 HI1.out (HLF.out.below HB1.out)).mono ?_
  rintro e w2 ⟨v, rfl, ho, hb2⟩
  have hbb := bt HB1.out hb2
  obtain ⟨b, o, c, rfl, hc1, hc2, hbl, hcell⟩ := ho.byt HQN.out
  have hcv : ∀ w9 : World, w9.heap = w2.heap → (convert 22 9 (.slice (some ⟨b, o, none⟩) t.length c)).run Tryz.prog w9 = .ok (.string (S t)) w9 := fun w9 hh => run_convert_bytes_back (P := Tryz.prog) w9 22 9 5 ⟨b, o, none⟩ c t Tryz.underlying22 Tryz.underlying5 Tryz.underlying9 (fun j hj => by rw [add_off]; exact (by simp only [World.cell?, hh] : w9.cell? ⟨b, o + j, none⟩ = w2.cell? ⟨b, o + j, none⟩).trans (hcell j hj))
  have k2 := (hbb.block b2 l2).trans H2.out
  have k3 := (hbb.block b3 l3).trans H3.out
  have HCV := Lib.hid hcv
  have hcv1 := hcv w2.drew rfl
  have c2 := one_cell k2
  have f2 := one_free k2 0
  have c3 := one_cell k3
  have f3 := one_free k3 0
  have K2 := Lib.hid k2
  have K3 := Lib.hid k3
  have HBB := Lib.hid hbb
  clear hcv ho hb2 hbb k2 k3 hcell
  go_wp2_with fail
  go_region
  all_goals
    go_wp2_with fail
    go_end0
    have hx : Ext (fun k => k = b2 ∨ k = b3) w w2 := Ext.of_below HBB.out
    first
      | exact ⟨rfl, (text_outI HNE.out K2.out K3.out hx).1.drew⟩
      | exact ⟨rfl, (text_outI HNE.out K2.out K3.out hx).2.drew⟩
      | exact ⟨rfl, (text_outI HNE.out K2.out K3.out hx.drew).1⟩
      | exact ⟨rfl, (text_outI HNE.out K2.out K3.out hx.drew).2⟩

set_option maxRecDepth 100000 in
set_option maxHeartbeats 2000000 in
theorem intFromJsonC_walk (l : List UInt8) (p : Addr) (b1 b2 b3 : Nat) (w : World) (hok : readOk l = true) (hl : l.length ≤ 1000) (hp : EofIs w p) (hleaf : LeafIs w) (h1 : w.heap[b1]? = some (.cells #[.string (S (34 :: (l ++ [34])))] 9 (0, 0)))
    (h2 : w.heap[b2]? = some (.cells #[.string ⟨#[]⟩] 9 (0, 0))) (h3 : w.heap[b3]? = some (.cells #[.bool false] 4 (0, 0))) (hne : b2 ≠ b3) (ox : overI (readZ l) = false) (oi : overI (readZ l) = false) (hpl : Plain l) :
    Calls Tryz.prog 87 #[.pointer (some ⟨b1, 0, none⟩), .pointer (some ⟨b2, 0, none⟩), .pointer (some ⟨b3, 0, none⟩)] w fun e w' => e = .returned (.tuple #[]) ∧ TextOutI w b2 b3 (zText (readZ l)) w' := by
  have c1 := one_cell (heap_old (o := .cells #[.pointer none] 80) h1)
  have l2 := iter_lt h2
  have l3 := iter_lt h3
  have H2 := Lib.hid h2
  have H3 := Lib.hid h3
  obtain ⟨cap, obj, hcv, hbyt⟩ := text_bytes (34 :: (l ++ [34])) (by simp; omega)
  have hbyt0 := hbyt (w.alloc (.cells #[.pointer none] 80))
  have hcv0 := hcv (w.alloc (.cells #[.pointer none] 80))
  rw [heap_size_alloc] at hbyt0 hcv0
  have hwl := read_words hok hl
  have hnl := overI_len ox
  have hb0 : Below w.heap.size w ((w.alloc (.cells #[.pointer none] 80)).drew.alloc (obj (w.alloc (.cells #[.pointer none] 80)))) := ((below_a1 w (.cells #[.pointer none] 80)).drew).alloc (by show w.heap.size ≤ (w.alloc (.cells #[.pointer none] 80)).heap.size; rw [heap_size_alloc]; omega) _
  have hk0 : ((w.alloc (.cells #[.pointer none] 80)).drew.alloc (obj (w.alloc (.cells #[.pointer none] 80)))).heap[w.heap.size]? = some (.cells #[.pointer none] 80 (0, 0)) := heap_old (heap_here w _)
  obtain ⟨w0, hw0⟩ : ∃ w0, (w.alloc (.cells #[.pointer none] 80)).drew.alloc (obj (w.alloc (.cells #[.pointer none] 80))) = w0 := ⟨_, rfl⟩
  rw [hw0] at hbyt0 hcv0 hb0 hk0
  have hU := iUnmarshalJSON_walk w.heap.size l _ p w0 hok hl hk0 (hp.below hb0) oi (by omega) hbyt0 hpl
  have hql : (34 :: (l ++ [34])).length = l.length + 1 + 1 := by simp
  rw [hql] at hU hcv0
  have HU := Lib.hid hU
  have hsz0 := hb0.size
  have hlt0 := iter_lt hk0
  have HT := Lib.hid (fun (g : Nat) (w2 : World) (h : IntAt w2 g (readZ l)) (h3 : LeafIs w2) => itext_walk g (readZ l) w2 h hnl h3)
  obtain ⟨t, ht⟩ : ∃ t, zText (readZ l) = t := ⟨_, rfl⟩
  rw [ht] at HT ⊢
  have HLF := Lib.hid hleaf
  have HB0 := Lib.hid hb0
  have HNE := Lib.hid hne
  clear h1 h2 h3 hp hleaf ox oi ht hok hpl hcv hbyt hbyt0 hb0 hk0 hwl hw0 hU hql
  go_enter Tryz.func87, Tryz.ntmps87
  go_wp2_with fail
  refine HU.out.mono ?_
  rintro e w2 ⟨rfl, gz, hk2, hi2, hx2, hgz⟩
  have e0 := one_cell hk2
  have hb2 : Below w.heap.size w w2 := HB0.out.trans (hx2.below (by omega) (fun k hk => by omega))
  have HI2 := Lib.hid hi2
  have HB2 := Lib.hid hb2
  clear hk2 hi2 hx2 hb2
  go_wp2_with fail
  refine (HT.out gz w2 HI2.out (HLF.out.below HB2.out)).mono ?_
  rintro e w3 ⟨rfl, hb3⟩
  have hbb := bt HB2.out hb3
  have k2 := (hbb.block b2 l2).trans H2.out
  have k3 := (hbb.block b3 l3).trans H3.out
  have c2 := one_cell k2
  have f2 := one_free k2 0
  have c3 : ∀ u, (w3.setCell ⟨b2, 0, none⟩ u).cell? ⟨b3, 0, none⟩ = some (.bool false) := fun u => (cell_other (by exact HNE.out.symm)).trans (one_cell k3)
  have f3 : ∀ u, (w3.setCell ⟨b2, 0, none⟩ u).frozen? ⟨b3, 0, none⟩ = false := fun u => one_free ((one_other (by exact HNE.out.symm)).trans k3) 0
  have K2 := Lib.hid k2
  have K3 := Lib.hid k3
  have HBB := Lib.hid hbb
  clear hb3 hbb k2 k3
  go_wp2_with fail
  go_end0
  exact ⟨rfl, (text_outI HNE.out K2.out K3.out (Ext.of_below HBB.out)).1⟩

set_option maxRecDepth 100000 in
set_option maxHeartbeats 2000000 in
theorem intFromBytesC_walk (l : List UInt8) (v : Value) (p : Addr) (b1 b2 b3 : Nat) (w : World) (hok : readOk l = true) (hl : l.length ≤ 1000) (hl0 : l ≠ []) (hp : EofIs w p) (hleaf : LeafIs w) (h1 : w.heap[b1]? = some (.cells #[v] 22 (0, 0))) (hv : Byt w v l)
    (h2 : w.heap[b2]? = some (.cells #[.string ⟨#[]⟩] 9 (0, 0))) (h3 : w.heap[b3]? = some (.cells #[.bool false] 4 (0, 0))) (hne : b2 ≠ b3) (ox : overI (readZ l) = false) :
    Calls Tryz.prog 82 #[.pointer (some ⟨b1, 0, none⟩), .pointer (some ⟨b2, 0, none⟩), .pointer (some ⟨b3, 0, none⟩)] w fun e w' => e = .returned (.tuple #[]) ∧ TextOutI w b2 b3 (zText (readZ l)) w' := by
  have c1 : ∀ o o2 : Obj, ((w.alloc o).alloc o2).cell? ⟨b1, 0, none⟩ = some v := fun o o2 => one_cell (heap_old (heap_old h1))
  have l2 := iter_lt h2
  have l3 := iter_lt h3
  have H2 := Lib.hid h2
  have H3 := Lib.hid h3
  have hwl := read_words hok hl
  have hnl := overI_len ox
  have HU := Lib.hid (fun (v2 : Value) (w2 : World) (h1 : w2.heap[w.heap.size]? = some (.cells #[.pointer none] 80 (0, 0))) (h2 : EofIs w2 p) (h3 : Byt w2 v2 l) => iUnmarshal_walk w.heap.size l v2 p w2 hok hl hl0 h1 h2 ox (by omega) h3)
  have HT := Lib.hid (fun (g : Nat) (w2 : World) (h : IntAt w2 g (readZ l)) (h3 : LeafIs w2) => itext_walk g (readZ l) w2 h hnl h3)
  obtain ⟨t, ht⟩ : ∃ t, zText (readZ l) = t := ⟨_, rfl⟩
  rw [ht] at HT ⊢
  have HLF := Lib.hid hleaf
  have HP := Lib.hid hp
  have HNE := Lib.hid hne
  have HV := Lib.hid hv
  have HL0 := Lib.hid hl0
  have hown := OwnB.lit (B := w.heap.size + 1) (w.alloc (.cells #[.pointer none] 80)) [] #[] 0 (by rw [heap_size_alloc]; exact Nat.le_refl _) rfl rfl (by decide)
  rw [heap_size_alloc] at hown
  have HOWN := Lib.hid hown
  have hbv := hv.below (below_a2 w (.cells #[.pointer none] 80) (.cells #[] 5))
  have HBV := Lib.hid hbv
  have hsz2 : w.heap.size + 1 ≤ ((w.alloc (.cells #[.pointer none] 80)).alloc (.cells #[] 5)).heap.size := by rw [heap_size_alloc, heap_size_alloc]; omega
  have HSZ2 := Lib.hid hsz2
  have hkk : ((w.alloc (.cells #[.pointer none] 80)).alloc (.cells #[] 5)).heap[w.heap.size]? = some (.cells #[.pointer none] 80 (0, 0)) := heap_old (heap_here _ _)
  have HKK := Lib.hid hkk
  have HBA := Lib.hid (below_a2 w (.cells #[.pointer none] 80) (.cells #[] 5))
  clear hown hbv hsz2 hkk
  clear h1 h2 h3 hp hleaf ox ht hok hwl hv hl0
  go_enter Tryz.func82, Tryz.ntmps82
  go_wp2_with (at_builtin; refine wpList_append_bytes rfl _ _ rfl _ [] rfl (w.heap.size + 1) HOWN.out HSZ2.out l _ rfl HBV.out (by simp; omega) ?_; intro v2 w2 ho2 hb2)
  have hk2 := (hb2.out.block w.heap.size (Nat.lt_succ_self _)).trans HKK.out
  have hb02 : Below w.heap.size w w2 := HBA.out.trans (hb2.out.mono (Nat.le_succ _))
  have hby2 : Byt w2 v2 l := by have := ho2.out.byt (by simpa using HL0.out); simpa using this
  have hlt2 := iter_lt hk2
  have HU2 := Lib.hid (HU.out v2 w2 hk2 (HP.out.below hb02) hby2)
  have HB0 := Lib.hid hb02
  have hsz0 := hb02.size
  clear hk2 hb02 hby2 c1
  refine HU2.out.mono ?_
  rintro e w4 ⟨rfl, gz, hk2, hi2, hx2, hgz⟩
  have e0 := one_cell hk2
  have hb2' : Below w.heap.size w w4 := HB0.out.trans (hx2.below (by omega) (fun k hk => by omega))
  have HI2 := Lib.hid hi2
  have HB2 := Lib.hid hb2'
  clear hk2 hi2 hx2 hb2'
  go_wp2_with fail
  refine (HT.out gz w4 HI2.out (HLF.out.below HB2.out)).mono ?_
  rintro e w3 ⟨rfl, hb3⟩
  have hbb := bt HB2.out hb3
  have k2 := (hbb.block b2 l2).trans H2.out
  have k3 := (hbb.block b3 l3).trans H3.out
  have c2 := one_cell k2
  have f2 := one_free k2 0
  have c3 : ∀ u, (w3.setCell ⟨b2, 0, none⟩ u).cell? ⟨b3, 0, none⟩ = some (.bool false) := fun u => (cell_other (by exact HNE.out.symm)).trans (one_cell k3)
  have f3 : ∀ u, (w3.setCell ⟨b2, 0, none⟩ u).frozen? ⟨b3, 0, none⟩ = false := fun u => one_free ((one_other (by exact HNE.out.symm)).trans k3) 0
  have K2 := Lib.hid k2
  have K3 := Lib.hid k3
  have HBB := Lib.hid hbb
  clear hb3 hbb k2 k3
  go_wp2_with fail
  go_end0
  exact ⟨rfl, (text_outI HNE.out K2.out K3.out (Ext.of_below HBB.out)).1⟩

/-- What the closure of impl.IntBytes leaves. -/
def BytesOutI (w : World) (b2 b3 b4 : Nat) (l : List UInt8) (w' : World) : Prop :=
  Ext (fun k => k = b2 ∨ k = b3 ∨ k = b4) w w' ∧ ∃ v, w'.heap[b2]? = some (.cells #[v] 22 (0, 0)) ∧ OwnB w.heap.size w' v l ∧
    w'.heap[b3]? = some (.cells #[.int .i64 (l.length : Int)] 3 (0, 0)) ∧ w'.heap[b4]? = some (.cells #[.bool true] 4 (0, 0))
set_option maxRecDepth 100000 in
set_option maxHeartbeats 2000000 in
theorem intBytesC_walk (l : List UInt8) (p : Addr) (b1 b2 b3 b4 : Nat) (w : World) (hok : readOk l = true) (hl : l.length ≤ 1000) (hp : EofIs w p) (hleaf : LeafIs w) (h1 : w.heap[b1]? = some (.cells #[.string (S l)] 9 (0, 0)))
    (h2 : w.heap[b2]? = some (.cells #[.slice none 0 0] 22 (0, 0))) (h3 : w.heap[b3]? = some (.cells #[.int .i64 0] 3 (0, 0))) (h4 : w.heap[b4]? = some (.cells #[.bool false] 4 (0, 0))) (h23 : b2 ≠ b3) (h24 : b2 ≠ b4) (h34 : b3 ≠ b4) (ox : overI (readZ l) = false) :
    Calls Tryz.prog 78 #[.pointer (some ⟨b1, 0, none⟩), .pointer (some ⟨b2, 0, none⟩), .pointer (some ⟨b3, 0, none⟩), .pointer (some ⟨b4, 0, none⟩)] w fun e w' => e = .returned (.tuple #[]) ∧ BytesOutI w b2 b3 b4 (zText (readZ l)) w' := by
  have c1 := one_cell h1
  have l2 := iter_lt h2
  have l3 := iter_lt h3
  have l4 := iter_lt h4
  have H2 := Lib.hid h2
  have H3 := Lib.hid h3
  have H4 := Lib.hid h4
  have HU := Lib.hid (integer_walk l p w hok hl hp ox)
  have hnl := overI_len ox
  have HLF := Lib.hid hleaf
  obtain ⟨z, hz⟩ : ∃ z, readZ l = z := ⟨_, rfl⟩
  rw [hz] at HU hnl ⊢
  have hne := zText_ne z
  have HM := Lib.hid (fun (g : Nat) (w2 : World) (h : IntAt w2 g z) (h3 : LeafIs w2) => iMarshal_walk g z w2 h hnl h3)
  have HSZ := Lib.hid (fun (bx g : Nat) (w2 : World) (h0 : w2.heap[bx]? = some (.cells #[.pointer (some ⟨g, 0, none⟩)] 80 (0, 0))) (h : IntAt w2 g z) (h3 : LeafIs w2) => iSize_walk bx g z w2 h0 h hnl h3)
  obtain ⟨t, ht⟩ : ∃ t, zText z = t := ⟨_, rfl⟩
  have htl : t.length ≤ 900 := by
    rw [← ht]
    exact zText_len hnl
  rw [ht] at HM HSZ hne ⊢
  have HNE := Lib.hid hne
  have H23 := Lib.hid h23
  have H24 := Lib.hid h24
  have H34 := Lib.hid h34
  clear h1 h2 h3 h4 hp hleaf ox hz ht hne hok h23 h24 h34
  go_enter Tryz.func78, Tryz.ntmps78
  go_wp2_with fail
  refine HU.out.mono ?_
  rintro e w1 ⟨g1, rfl, hi1, hb1, _⟩
  have HI1 := Lib.hid (hi1.below (below_a1 w1 (.cells #[.pointer (some ⟨g1, 0, none⟩)] 80)))
  have hb1' := bt hb1 (below_a1 w1 (.cells #[.pointer (some ⟨g1, 0, none⟩)] 80))
  have HK1 := Lib.hid (heap_here w1 (.cells #[.pointer (some ⟨g1, 0, none⟩)] 80))
  have HB1 := Lib.hid hb1'
  have hsz1 : w.heap.size ≤ w1.heap.size := hb1.size
  obtain ⟨wx, hwx⟩ : ∃ wx, w1.alloc (.cells #[.pointer (some ⟨g1, 0, none⟩)] 80) = wx := ⟨_, rfl⟩
  have hszx : wx.heap.size = w1.heap.size + 1 := by rw [← hwx, heap_size_alloc]
  rw [hwx] at HI1 HK1 HB1
  have HWX := Lib.hid hwx
  clear hi1 hb1 hb1' hwx
  go_wp2_with fail
  rw [HWX.out]
  refine (HM.out g1 wx HI1.out (HLF.out.below HB1.out)).mono ?_
  rintro e w2 ⟨v, rfl, ho, hb2⟩
  have hk2 := (hb2.block w1.heap.size (by omega)).trans HK1.out
  have hby := (ho.byt HNE.out).below (below_a1 w2 (.cells #[] 5))
  have hown := OwnB.lit (B := w2.heap.size) w2 [] #[] 0 (Nat.le_refl _) rfl rfl (by decide)
  have hszz : w2.heap.size ≤ (w2.alloc (.cells #[] 5)).heap.size := by rw [heap_size_alloc]; omega
  have HK2 := Lib.hid hk2
  have HBY := Lib.hid hby
  have HOWN := Lib.hid hown
  have HSS := Lib.hid hszz
  have HB2 := Lib.hid (bt HB1.out hb2)
  have HI2 := Lib.hid (HI1.out.below hb2)
  clear ho hb2 hk2 hby hown hszz
  go_wp2_with (at_builtin; refine wpList_append_bytes rfl _ _ rfl _ [] rfl w2.heap.size HOWN.out HSS.out t _ rfl HBY.out (by simp; omega) ?_; intro v3 w3 ho3 hb3)
  have hby3 : Byt w3 v3 t := by have := ho3.out.byt (by simpa using HNE.out); simpa using this
  obtain ⟨bb, oo, cc, rfl, _, _, _, _⟩ := hby3
  have hb23 : Below w2.heap.size w2 w3 := (below_a1 _ _).trans hb3.out
  have hk3 := (hb23.block w1.heap.size (iter_lt HK2.out)).trans HK2.out
  have HB3 := Lib.hid (bt HB2.out hb23)
  have HI3 := Lib.hid (HI2.out.below hb23)
  have HO3 := Lib.hid ho3.out
  have HK3 := Lib.hid hk3
  clear hb23 hk3 ho3 hb3
  refine (HSZ.out w1.heap.size g1 w3 HK3.out HI3.out (HLF.out.below HB3.out)).mono ?_
  rintro e w4 ⟨rfl, hb4⟩
  have hbb := bt HB3.out hb4
  have k2 := (hbb.block b2 l2).trans H2.out
  have k3 := (hbb.block b3 l3).trans H3.out
  have k4 := (hbb.block b4 l4).trans H4.out
  have c2 := one_cell k2
  have f2 := one_free k2 0
  have c3 : ∀ u, (w4.setCell ⟨b2, 0, none⟩ u).cell? ⟨b3, 0, none⟩ = some (.int .i64 0) := fun u => (cell_other (by exact H23.out.symm)).trans (one_cell k3)
  have f3 : ∀ u, (w4.setCell ⟨b2, 0, none⟩ u).frozen? ⟨b3, 0, none⟩ = false := fun u => one_free ((one_other (by exact H23.out.symm)).trans k3) 0
  have c4 : ∀ u x, ((w4.setCell ⟨b2, 0, none⟩ u).setCell ⟨b3, 0, none⟩ x).cell? ⟨b4, 0, none⟩ = some (.bool false) := fun u x => (cell_other (by exact H34.out.symm)).trans ((cell_other (by exact H24.out.symm)).trans (one_cell k4))
  have f4 : ∀ u x, ((w4.setCell ⟨b2, 0, none⟩ u).setCell ⟨b3, 0, none⟩ x).frozen? ⟨b4, 0, none⟩ = false := fun u x => one_free ((one_other (by exact H34.out.symm)).trans ((one_other (by exact H24.out.symm)).trans k4)) 0
  have hown4 : OwnB w.heap.size w4 (.slice (some ⟨bb, oo, none⟩) t.length cc) t := by
    have h1 := HO3.out.below hb4
    have h2 := h1.weak (B := w.heap.size) HB2.out.size
    simpa using h2
  have K2 := Lib.hid k2
  have K3 := Lib.hid k3
  have K4 := Lib.hid k4
  have HBB := Lib.hid hbb
  have HO4 := Lib.hid hown4
  clear hb4 hbb k2 k3 k4 hown4
  go_wp2_with fail
  go_end0
  refine ⟨rfl, ?_, .slice (some ⟨bb, oo, none⟩) t.length cc, ?_, ?_, ?_, ?_⟩
  · exact Ext.setCell (D := fun k => k = b2 ∨ k = b3 ∨ k = b4) (p := ⟨b4, 0, none⟩) (Ext.setCell (D := fun k => k = b2 ∨ k = b3 ∨ k = b4) (p := ⟨b3, 0, none⟩) (Ext.setCell (D := fun k => k = b2 ∨ k = b3 ∨ k = b4) (p := ⟨b2, 0, none⟩) (Ext.of_below HBB.out) (fun _ => .inl rfl) _) (fun _ => .inr (.inl rfl)) _) (fun _ => .inr (.inr rfl)) _
  · exact (one_other (by exact H24.out)).trans ((one_other (by exact H23.out)).trans (one_set K2.out))
  · exact ((HO4.out.other _ (p := ⟨b2, 0, none⟩) l2).other _ (p := ⟨b3, 0, none⟩) l3).other _ (p := ⟨b4, 0, none⟩) l4
  · exact (one_other (by exact H34.out)).trans (one_set ((one_other (by exact H23.out.symm)).trans K3.out))
  · exact one_set ((one_other (by exact H34.out.symm)).trans ((one_other (by exact H24.out.symm)).trans K4.out))
end Go.Proofs.YtiohlcfdoleooaaGreatDoor
