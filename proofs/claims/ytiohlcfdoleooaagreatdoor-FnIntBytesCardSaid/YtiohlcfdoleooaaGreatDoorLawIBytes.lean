/-
  The walk of laws.FnIntBytes.
-/
import Derived.Test.YtiohlcfdoleooaaGreatDoorIntByteW
import Derived.Test.YtiohlcfdoleooaaGreatDoorIntAwake
import Derived.Test.YtiohlcfdoleooaaGreatDoorSpecUint
import Derived.Test.YtiohlcfdoleooaaGreatDoorLawUtil
namespace Go.Proofs.YtiohlcfdoleooaaGreatDoor
open Go.RowKit

set_option maxRecDepth 100000 in
set_option maxHeartbeats 4000000 in
theorem fnIntBytes_walk (l : List UInt8) (p : Addr) (w : World) (hl : l.length ≤ 140737488355328) (hp : EofIs w p) (hleaf : LeafIs w) :
    Calls Tryz.prog 6 #[.string (S l)] w fun e w' => e = .returned (.bool true) ∧ Below w.heap.size w w' := by
  have HAW := Lib.hid (fun (w' : World) (h1 : EofIs w' p) (h2 : LeafIs w') => intAwake_walk p w' h1 h2)
  have HP := Lib.hid hp
  have HLF := Lib.hid hleaf
  have hs := specInt_walk l w hl
  by_cases h0 : l.length ≤ 2147483647
  · have h0' : ¬ (2147483647 : Int) < l.length := by omega
    cases hok : intOk l with
    | false =>
      rw [hok] at hs
      have HS := Lib.hid hs
      clear hs hp hleaf
      go_enter Tryz.func6, Tryz.ntmps6
      go_wp2_with fail
      refine HS.out.mono ?_
      rintro e w1 ⟨b, A, n, c, rfl, _, hb⟩
      have HB := Lib.hid (bt hb (below_a1 w1 (.cells #[.bool b, .slice A n c] 24)))
      clear hb
      go_wp2_with fail
      refine (HAW.out _ (HP.out.below HB.out) (HLF.out.below HB.out)).mono ?_
      rintro e w2 ⟨rfl, hb2⟩
      go_wp2_with fail
      go_ret
      exact ⟨rfl, bt HB.out hb2⟩
    | true =>
      obtain ⟨r1, q1, v1, d1⟩ := intOk_is hok
      have HB1 := Lib.hid (fun (w' : World) (h1 : EofIs w' p) (h2 : LeafIs w') => intBytes_walk l p w' r1 q1 h1 h2 v1)
      have HJ1 := Lib.hid (fun (w' : World) (h1 : EofIs w' p) (h2 : LeafIs w') => intJson_walk l p w' r1 q1 h1 h2 v1)
      rw [hok] at hs
      have hback := read_back r1
      have hz1 : (zText (readZ l)).length ≤ 1000 := by rw [hback]; exact q1
      have hzo : readOk (zText (readZ l)) = true := by rw [hback]; exact r1
      have hzv : readZ (zText (readZ l)) = readZ l := by rw [hback]
      have hne := zText_ne (readZ l)
      have hpl := zText_plain (readZ l)
      have HB2 := Lib.hid (fun (v : Value) (w' : World) (h1 : EofIs w' p) (h2 : LeafIs w') (h3 : Byt w' v (zText (readZ l))) => intFromBytes_walk (zText (readZ l)) v p w' hzo hz1 hne h1 h2 h3 (by rw [hzv]; exact v1))
      have HJ2 := Lib.hid (fun (w' : World) (h1 : EofIs w' p) (h2 : LeafIs w') => intFromJson_walk (zText (readZ l)) p w' hzo hz1 h1 h2 (by rw [hzv]; exact v1) (by rw [hzv]; exact v1) hpl)
      rw [hzv] at HB2 HJ2
      have HTX := Lib.hid (fun (w' : World) (v : Value) (h : IsNum w' v (readZ l)) => textZ_walk v (readZ l) w' h (by omega))
      obtain ⟨t, ht⟩ : ∃ t, zText (readZ l) = t := ⟨_, rfl⟩
      obtain ⟨z, hz⟩ : ∃ z, readZ l = z := ⟨_, rfl⟩
      rw [ht] at HB1 HB2 HJ1 HJ2 HTX hne hz1
      rw [hz] at hs HTX
      have HS := Lib.hid hs
      have HNE := Lib.hid hne
      clear hs hp hleaf hok r1 q1 v1 d1 hback hzo hzv hpl ht hz hne
      go_enter Tryz.func6, Tryz.ntmps6
      go_wp2_with fail
      refine HS.out.mono ?_
      rintro e w1 ⟨b, A, n, c, rfl, hn, hb⟩
      have hn := (hn rfl).below (below_a1 w1 (.cells #[.bool b, .slice A n c] 24))
      have HN1 := Lib.hid hn
      have HBX := Lib.hid (bt hb (below_a1 w1 (.cells #[.bool b, .slice A n c] 24)))
      have HK1 := Lib.hid (heap_here w1 (.cells #[.bool b, .slice A n c] 24))
      clear hn hb
      go_wp2_with fail
      refine (HB1.out _ (HP.out.below HBX.out) (HLF.out.below HBX.out)).mono ?_
      rintro e w2 ⟨v, rfl, hv, hb2⟩
      obtain ⟨vb, vo, vc, rfl, hv1, hv2, hv3, hv4⟩ := hv
      have hv : Byt w2 (.slice (some ⟨vb, vo, none⟩) t.length vc) t := ⟨vb, vo, vc, rfl, hv1, hv2, hv3, hv4⟩
      have HV := Lib.hid hv
      have HB := Lib.hid hb2
      clear hb2 hv hv4
      go_wp2_with fail
      refine (HB2.out _ w2 (HP.out.below (bt HBX.out HB.out)) (HLF.out.below (bt HBX.out HB.out)) HV.out).mono ?_
      rintro e w3 ⟨rfl, hb3⟩
      have HB3 := Lib.hid (bt HB.out hb3)
      clear hb3
      go_wp2_with fail
      refine (HJ1.out w3 (HP.out.below (bt HBX.out HB3.out)) (HLF.out.below (bt HBX.out HB3.out))).mono ?_
      rintro e w4 ⟨rfl, hb4⟩
      have HB4 := Lib.hid (bt HB3.out hb4)
      clear hb4
      go_wp2_with fail
      refine (HJ2.out w4 (HP.out.below (bt HBX.out HB4.out)) (HLF.out.below (bt HBX.out HB4.out))).mono ?_
      rintro e w5 ⟨rfl, hb5⟩
      have HB5 := Lib.hid (bt HB4.out hb5)
      clear hb5
      go_wp2_with fail
      refine (HAW.out w5 (HP.out.below (bt HBX.out HB5.out)) (HLF.out.below (bt HBX.out HB5.out))).mono ?_
      rintro e w6 ⟨rfl, hb6⟩
      have hb06 := bt HB5.out hb6
      have hk6 := (hb06.block w1.heap.size (by rw [heap_size_alloc]; omega)).trans HK1.out
      have e0 := num_cell0 hk6
      have e1 := num_cell1 hk6
      have HK6 := Lib.hid hk6
      have HB6 := Lib.hid hb06
      clear hb6 hb06 hk6
      go_wp2_with fail
      refine (HTX.out w6 _ (HN1.out.below HB6.out)).mono ?_
      rintro e w7 ⟨rfl, hb7⟩
      have hk7 := (hb7.block w1.heap.size (iter_lt HK6.out)).trans HK6.out
      have f0 := num_cell0 hk7
      have f1 := num_cell1 hk7
      have HK7 := Lib.hid hk7
      have HB7 := Lib.hid (bt HB6.out hb7)
      clear hb7 hk7 e0 e1
      go_wp2_with fail
      refine (HTX.out w7 _ (HN1.out.below HB7.out)).mono ?_
      rintro e w8 ⟨rfl, hb8⟩
      have hk8 := (hb8.block w1.heap.size (iter_lt HK7.out)).trans HK7.out
      have g0 := num_cell0 hk8
      have g1 := num_cell1 hk8
      have HB8 := Lib.hid (bt HB7.out hb8)
      have hquo : (⟨#[34]⟩ : ByteArray) ++ S t ++ ⟨#[34]⟩ = S (34 :: (t ++ [34])) := by
        have e1 : (⟨#[34]⟩ : ByteArray) = S [34] := rfl
        rw [e1, S_append, S_append]
        rfl
      clear hb8 hk8 f0 f1
      go_wp2_with fail
      refine (HTX.out w8 _ (HN1.out.below HB8.out)).mono ?_
      rintro e w9 ⟨rfl, hb9⟩
      have HB9 := Lib.hid (bt HB8.out hb9)
      clear hb9 hquo g0 g1
      go_wp2_with fail
      go_ret
      exact ⟨rfl, bt HBX.out HB9.out⟩
  · have h0' : (2147483647 : Int) < l.length := by omega
    go_enter Tryz.func6, Tryz.ntmps6
    go_wp2_with fail
    go_ret
    exact ⟨rfl, Below.refl _ _⟩
end Go.Proofs.YtiohlcfdoleooaaGreatDoor
