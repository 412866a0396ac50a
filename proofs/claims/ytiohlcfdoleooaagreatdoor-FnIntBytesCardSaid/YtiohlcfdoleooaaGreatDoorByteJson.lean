/-
  cosmosmath's unmarshalText, unmarshalJSON, marshalJSON; the bytes of a text.
-/
import Derived.Test.YtiohlcfdoleooaaGreatDoorByteRead
import Derived.Test.YtiohlcfdoleooaaGreatDoorUintNew
namespace Go.Proofs.YtiohlcfdoleooaaGreatDoor
open Go.RowKit

/-- The bytes of a text, made anew. -/
theorem text_bytes (l : List UInt8) (hl : l.length ≤ 100000) : ∃ (cap : World → Nat) (obj : World → Obj), (∀ w : World, (convert 9 22 (.string (S l))).run Tryz.prog w = .ok (.slice (some ⟨w.heap.size, 0, none⟩) l.length (cap w)) (w.drew.alloc (obj w))) ∧
    (∀ w : World, Byt (w.drew.alloc (obj w)) (.slice (some ⟨w.heap.size, 0, none⟩) l.length (cap w)) l) := by
  refine ⟨fun w => grownCap w (S l).size 0 5, fun w => .cells (bytesRow (S l) (grownCap w (S l).size 0 5)) 5 ((bytesRow (S l) (grownCap w (S l).size 0 5)).size, (bytesRow (S l) (grownCap w (S l).size 0 5)).size + 1), fun w => ?_, fun w => ?_⟩
  · have h := run_bytes_of_string (P := Tryz.prog) w 9 22 5 (S l) Tryz.underlying9 Tryz.underlying22 Tryz.underlying5
    rw [S_size] at h ⊢
    exact h
  · refine ⟨w.heap.size, 0, _, rfl, ?_, ?_, ?_, ?_⟩
    · have := grownCap_ge w (S l).size 0 5
      rwa [S_size] at this ⊢
    · have := grownCap_le_maxLen w (S l).size 0 5 (by rw [S_size]; unfold maxLen; omega)
      unfold maxLen at this
      omega
    · show w.heap.size < (w.drew.alloc _).heap.size
      rw [heap_size_alloc]
      exact Nat.lt_succ_self _
    · intro j hj
      rw [Nat.zero_add]
      have h1 := World.cell?_alloc_mark w.drew (bytesRow (S l) (grownCap w (S l).size 0 5)) 5 ((bytesRow (S l) (grownCap w (S l).size 0 5)).size, (bytesRow (S l) (grownCap w (S l).size 0 5)).size + 1) j
      have h2 := bytesRow_at (S l) (grownCap w (S l).size 0 5) j (by simpa [S] using hj)
      refine (h1.trans h2).trans ?_
      simp [S]

/-- What reading a number's text leaves: the number, if it has at most 256 bits. -/
def UnmPost (w : World) (gz : Nat) (z : Int) (e : Ending) (w' : World) : Prop := e = .returned .nilIface ∧ IntAt w' gz z ∧ Ext (fun b => b = gz) w w'
set_option maxRecDepth 100000 in
set_option maxHeartbeats 2000000 in
theorem unmarshalText_walk (gz : Nat) (l : List UInt8) (p : Addr) (w : World) (hok : readOk l = true) (hl : l.length ≤ 1000) (hz : IntNew w gz) (hp : EofIs w p) (hgz : gz ≠ 2) (ho : overI (readZ l) = false) (hw : (wds (readZ l).natAbs).length ≤ 1000000) :
    Calls Tryz.prog 179 #[.pointer (some ⟨gz, 0, none⟩), .string (S l)] w (UnmPost w gz (readZ l)) := by
  obtain ⟨cap, obj, hcv, hbyt⟩ := text_bytes l (by omega)
  have HBY := Lib.hid hbyt
  have HZ := Lib.hid hz
  have HP := Lib.hid hp
  have HU := Lib.hid (fun (v : Value) (w2 : World) (h1 : IntNew w2 gz) (h2 : EofIs w2 p) (h3 : Byt w2 v l) => unmText_walk gz l v p w2 hok hl h1 h2 hgz h3)
  have HO := Lib.hid (fun (w2 : World) (h : IntAt w2 gz (readZ l)) => bigOver_walk gz (readZ l) w2 h hw)
  rw [ho] at HO
  obtain ⟨z, hz2⟩ : ∃ z, readZ l = z := ⟨_, rfl⟩
  rw [hz2] at HU HO ⊢
  have hlt := iter_lt hz
  clear hz hp hbyt ho hw hz2 hok
  go_enter Tryz.func179, Tryz.ntmps179
  go_wp2_with fail
  refine (HU.out _ _ ?_ ?_ (HBY.out w)).mono ?_
  · exact heap_old HZ.out
  · exact HP.out.below ((Below.refl w.heap.size w).drew.alloc (Nat.le_refl _) _)
  rintro e w2 ⟨rfl, hi, hx⟩
  have hx2 : Ext (fun b => b = gz) w w2 := (((Ext.refl _ w).drew).alloc _).trans hx
  have HI := Lib.hid hi
  have HX := Lib.hid hx2
  clear hi hx hx2 hcv
  go_wp2_with fail
  refine (HO.out _ HI.out).mono ?_
  rintro e w3 ⟨rfl, rfl⟩
  go_wp2_with fail
  go_ret
  exact ⟨rfl, HI.out, HX.out⟩

set_option maxRecDepth 100000 in
set_option maxHeartbeats 2000000 in
theorem unmarshalJSON_walk (gz : Nat) (l : List UInt8) (v : Value) (p : Addr) (w : World) (hok : readOk l = true) (hl : l.length ≤ 1000) (hz : IntNew w gz) (hp : EofIs w p) (hgz : gz ≠ 2) (ho : overI (readZ l) = false) (hw : (wds (readZ l).natAbs).length ≤ 1000000) (hv : Byt w v (34 :: (l ++ [34]))) (hpl : Plain l) :
    Calls Tryz.prog 133 #[.pointer (some ⟨gz, 0, none⟩), v] w (UnmPost w gz (readZ l)) := by
  have HZZ := Lib.hid (zzUnmarshal_walk w.heap.size l v (.string ⟨#[]⟩) (w.alloc (.cells #[.string ⟨#[]⟩] 9)) (hv.below (below_a1 _ _)) hl (heap_here _ _) hpl)
  have HU := Lib.hid (fun (w2 : World) (h1 : IntNew w2 gz) (h2 : EofIs w2 p) => unmarshalText_walk gz l p w2 hok hl h1 h2 hgz ho hw)
  have HZ := Lib.hid hz
  have HP := Lib.hid hp
  have hlt := iter_lt hz
  have hplt := hp.lt
  clear hz hp hv hpl ho hw hok
  go_enter Tryz.func133, Tryz.ntmps133
  go_wp2_with fail
  refine HZZ.out.mono ?_
  rintro e w2 ⟨rfl, rfl⟩
  have hne : gz ≠ w.heap.size := Nat.ne_of_lt hlt
  have hb : Below w.heap.size w ((w.alloc (.cells #[.string ⟨#[]⟩] 9)).setCell ⟨w.heap.size, 0, none⟩ (.string (S l))) := (below_a1 _ _).setCell (p := ⟨w.heap.size, 0, none⟩) (Nat.le_refl _) _
  have hk := one_set (u := .string (S l)) (heap_here w (.cells #[.string ⟨#[]⟩] 9))
  have hz2 : IntNew ((w.alloc (.cells #[.string ⟨#[]⟩] 9)).setCell ⟨w.heap.size, 0, none⟩ (.string (S l))) gz := (hb.block gz hlt).trans HZ.out
  have hp2 := HP.out.below hb
  obtain ⟨w3, hw3⟩ : ∃ w3, (w.alloc (.cells #[.string ⟨#[]⟩] 9)).setCell ⟨w.heap.size, 0, none⟩ (.string (S l)) = w3 := ⟨_, rfl⟩
  rw [hw3] at hb hk hz2 hp2 ⊢
  have c0 := one_cell hk
  have HZ2 := Lib.hid hz2
  have HP2 := Lib.hid hp2
  have HB := Lib.hid hb
  clear hk hz2 hp2 hb hw3
  go_wp2_with fail
  refine (HU.out w3 HZ2.out HP2.out).mono ?_
  rintro e w4 ⟨rfl, hi, hx⟩
  have HI := Lib.hid hi
  have HX := Lib.hid hx
  clear hi hx
  go_wp2_with fail
  go_ret
  exact ⟨rfl, HI.out, (Ext.of_below HB.out).trans' HX.out (fun _ _ h => h)⟩

set_option maxRecDepth 100000 in
theorem met_marshal (g : Nat) (w : World) : (method 382 62 (.pointer (some ⟨g, 0, none⟩)) "MarshalText").run Tryz.prog w = .ok (128, .pointer (some ⟨g, 0, none⟩)) w := by kernel_rfl
/-- What a text in quotes is. -/
def JsonPost (w : World) (l : List UInt8) (e : Ending) (w' : World) : Prop := ∃ v, e = .returned (.tuple #[v, .nilIface]) ∧ OwnB w.heap.size w' v (34 :: (l ++ [34])) ∧ Below w.heap.size w w'
set_option maxRecDepth 100000 in
set_option maxHeartbeats 2000000 in
theorem marshalJSON_walk (g : Nat) (z : Int) (w : World) (hz : IntAt w g z) (hl : natLen z.natAbs ≤ 320) (hleaf : LeafIs w) :
    Calls Tryz.prog 132 #[.iface 62 (.pointer (some ⟨g, 0, none⟩))] w (JsonPost w (zText z)) := by
  have m1 := met_marshal g
  have HM := Lib.hid (marshalText_walk g z w hz hl hleaf)
  have hne := zText_ne z
  have hlen := zText_len hl
  obtain ⟨l, hzl⟩ : ∃ l, zText z = l := ⟨_, rfl⟩
  rw [hzl] at HM hne hlen ⊢
  have HNE := Lib.hid hne
  clear hz hleaf hzl hne
  go_enter Tryz.func132, Tryz.ntmps132
  go_wp2_with fail
  refine HM.out.mono ?_
  rintro e w1 ⟨v, rfl, ho, hb⟩
  obtain ⟨b, o, c, rfl, hc1, hc2, hb1, hcell⟩ := ho.byt HNE.out
  have hcv : (convert 22 9 (.slice (some ⟨b, o, none⟩) l.length c)).run Tryz.prog w1 = .ok (.string (S l)) w1 := run_convert_bytes_back (P := Tryz.prog) w1 22 9 5 ⟨b, o, none⟩ c l Tryz.underlying22 Tryz.underlying5 Tryz.underlying9 (fun j hj => by rw [add_off]; exact hcell j hj)
  have HB := Lib.hid hb
  clear ho hb hcell
  go_wp2_with fail
  refine (zzMarshal_walk l w1 (by omega)).mono ?_
  rintro e w2 ⟨v, rfl, ho2, hb2⟩
  have HO2 := Lib.hid ho2
  have HB2 := Lib.hid hb2
  clear ho2 hb2 hcv
  go_wp2_with fail
  go_ret2
  exact ⟨v, rfl, HO2.out.weak HB.out.size, bt HB.out HB2.out⟩
theorem zText_plain (z : Int) : Plain (zText z) := by
  intro d hd
  unfold zText numText signText at hd
  have hdig : ∀ d ∈ (toD 10 z.natAbs).reverse.map (fun (n : Nat) => (UInt8.ofNat (48 + n))), 32 ≤ d.toNat ∧ d.toNat ≤ 126 ∧ d.toNat ≠ 34 ∧ d.toNat ≠ 92 := by
    intro d hd
    obtain ⟨n, hn, rfl⟩ := List.mem_map.1 hd
    have h1 := toD_lt (b := 10) (by decide) z.natAbs n (List.mem_reverse.1 hn)
    have h2 : (UInt8.ofNat (48 + n)).toNat = 48 + n := by simp; omega
    rw [h2]
    omega
  split at hd
  · simp at hd
    subst hd
    decide
  · rcases List.mem_append.1 hd with h | h
    · split at h
      · simp at h
        subst h
        decide
      · simp at h
    · exact hdig d h
end Go.Proofs.YtiohlcfdoleooaaGreatDoor
