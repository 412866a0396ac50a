/-
  The walk of laws.FnUintBased.
-/
import Derived.Test.YthipbglnaalhmaaGreatDoorScanB2
import Derived.Test.YthipbglnaalhmaaGreatDoorScanB8
import Derived.Test.YthipbglnaalhmaaGreatDoorScanB16
import Derived.Test.YthipbglnaalhmaaGreatDoorBasedRead
import Derived.Test.YthipbglnaalhmaaGreatDoorUintAwake
namespace Go.Proofs.YthipbglnaalhmaaGreatDoor
open Go.RowKit

/-- A number's digits, the highest one first; a nought for 0. -/
def dsOf (b n : Nat) : List Nat := if n = 0 then [0] else (toD b n).reverse
theorem basedT_ds (b n : Nat) : basedT b n = (dsOf b n).map hexC := by
  unfold basedT dsOf
  split
  · decide
  · rfl
theorem hv_rev (b : Nat) : ∀ l : List Nat, hv b l.reverse = valD b l
  | [] => rfl
  | d :: l => by
    rw [List.reverse_cons, hv_snoc, hv_rev b l, valD, Nat.mul_comm]
    omega
theorem hv_dsOf {b : Nat} (hb : 1 < b) (n : Nat) : hv b (dsOf b n) = n := by
  unfold dsOf
  split
  · rename_i h; subst h; simp [hv]
  · rw [hv_rev, valD_toD hb]
theorem dsOf_lt {b : Nat} (hb : 1 < b) (n : Nat) : ∀ d ∈ dsOf b n, d < b := by
  unfold dsOf
  split
  · intro d hd; simp at hd; omega
  · intro d hd; exact toD_lt hb n d (List.mem_reverse.1 hd)
theorem dsOf_pos {b : Nat} (hb : 1 < b) (n : Nat) : 1 ≤ (dsOf b n).length := by
  unfold dsOf
  split
  · simp
  · rename_i h
    rw [List.length_reverse]
    rcases Nat.eq_zero_or_pos (toD b n).length with h2 | h2
    · exact absurd ((toD_nil_iff hb).1 (List.eq_nil_of_length_eq_zero h2)) h
    · exact h2
theorem dsOf_len {b : Nat} (hb : 1 < b) (n m : Nat) (hm : 1 ≤ m) (h : n < b ^ m) : (dsOf b n).length ≤ m := by
  unfold dsOf
  split
  · simpa using hm
  · rw [List.length_reverse]; exact toD_length_le hb m n h
theorem pre_S (a b : UInt8) (T : List UInt8) : (⟨#[a, b]⟩ : ByteArray) ++ S T = S (a :: b :: T) := by
  rw [show (⟨#[a, b]⟩ : ByteArray) = S [a, b] from rfl, S_append]
  rfl
theorem fits2 (n : Nat) (hn : n < 18446744073709551616) (p : Addr) : ScanFits (48 :: 98 :: basedT 2 n) p 2 n := by
  intro g w hr hp hg hgB
  have h := scanB2_walk g (48 :: 98 :: basedT 2 n) (dsOf 2 n) p w (by rw [basedT_ds]) hr (dsOf_lt (by decide) n) (dsOf_len (by decide) n 64 (by decide) (Nat.lt_of_lt_of_le hn (by decide))) (dsOf_pos (by decide) n) hp hg hgB
  rw [hv_dsOf (by decide)] at h
  exact h
theorem fits8 (n : Nat) (hn : n < 18446744073709551616) (p : Addr) : ScanFits (48 :: 111 :: basedT 8 n) p 8 n := by
  intro g w hr hp hg hgB
  have h := scanB8_walk g (48 :: 111 :: basedT 8 n) (dsOf 8 n) p w (by rw [basedT_ds]) hr (dsOf_lt (by decide) n) (dsOf_len (by decide) n 22 (by decide) (Nat.lt_of_lt_of_le hn (by decide))) (dsOf_pos (by decide) n) hp hg hgB
  rw [hv_dsOf (by decide)] at h
  exact h
theorem fits16 (n : Nat) (hn : n < 18446744073709551616) (p : Addr) : ScanFits (48 :: 120 :: basedT 16 n) p 16 n := by
  intro g w hr hp hg hgB
  have h := scanB16_walk g (48 :: 120 :: basedT 16 n) (dsOf 16 n) p w (by rw [basedT_ds]) hr (dsOf_lt (by decide) n) (dsOf_len (by decide) n 16 (by decide) (Nat.lt_of_lt_of_le hn (by decide))) (dsOf_pos (by decide) n) hp hg hgB
  rw [hv_dsOf (by decide)] at h
  exact h

set_option maxRecDepth 100000 in
set_option maxHeartbeats 4000000 in
theorem fnUintBased_walk (n k : Nat) (p : Addr) (w : World) (hn : n < 18446744073709551616) (hk : k < 256) (hp : EofIs w p) (hleaf : LeafIs w) :
    Calls Tryz.prog 3 #[.int .u64 n, .int .u8 k] w fun e w' => e = .returned (.bool true) ∧ Below w.heap.size w w' := by
  have HAW := Lib.hid (fun (w' : World) (h1 : EofIs w' p) (h2 : LeafIs w') => uintAwake_walk p w' h1 h2)
  have hb2 := fun (w' : World) => based_walk n 2 w' hn (by decide) (by decide)
  have hb8 := fun (w' : World) => based_walk n 8 w' hn (by decide) (by decide)
  have hb16 := fun (w' : World) => based_walk n 16 w' hn (by decide) (by decide)
  have hl2 := basedT_len (b := 2) (by decide) hn
  have hl8 := basedT_len (b := 8) (by decide) hn
  have hl16 := basedT_len (b := 16) (by decide) hn
  have hr2 := fun (w' : World) (h1 : EofIs w' p) (h2 : LeafIs w') => uintReadB_walk (48 :: 98 :: basedT 2 n) p w' 2 n (98 :: basedT 2 n) (Lib.hid rfl) (fits2 n hn p) (by simp; omega) hn h1 h2
  have hr8 := fun (w' : World) (h1 : EofIs w' p) (h2 : LeafIs w') => uintReadB_walk (48 :: 111 :: basedT 8 n) p w' 8 n (111 :: basedT 8 n) (Lib.hid rfl) (fits8 n hn p) (by simp; omega) hn h1 h2
  have hr16 := fun (w' : World) (h1 : EofIs w' p) (h2 : LeafIs w') => uintReadB_walk (48 :: 120 :: basedT 16 n) p w' 16 n (120 :: basedT 16 n) (Lib.hid rfl) (fits16 n hn p) (by simp; omega) hn h1 h2
  obtain ⟨T2, hT2⟩ : ∃ T2, basedT 2 n = T2 := ⟨_, rfl⟩
  obtain ⟨T8, hT8⟩ : ∃ T8, basedT 8 n = T8 := ⟨_, rfl⟩
  obtain ⟨T16, hT16⟩ : ∃ T16, basedT 16 n = T16 := ⟨_, rfl⟩
  rw [hT2] at hb2 hl2 hr2
  rw [hT8] at hb8 hl8 hr8
  rw [hT16] at hb16 hl16 hr16
  have HOU := Lib.hid (fun (w' : World) => ofUint_walk n w' hn)
  obtain ⟨M, hM⟩ : ∃ M, zText (n : Int) = M := ⟨_, rfl⟩
  rw [hM] at hr2 hr8 hr16
  have hnt : numText false (dec10 n) = M := by rw [← hM, dec10_eq]; rfl
  have hnd : ∀ d ∈ dec10 n, d < 10 := by rw [dec10_eq]; exact toD_lt (by decide) n
  have hnl : (dec10 n).length ≤ 1000000 := by rw [dec10_eq]; exact Nat.le_trans (toD_length_le (by decide) 20 n (Nat.lt_of_lt_of_le hn (by decide))) (by decide)
  have HNT := Lib.hid hnt
  have HND := Lib.hid hnd
  have HNL := Lib.hid hnl
  have HB2 := Lib.hid hb2
  have HB8 := Lib.hid hb8
  have HB16 := Lib.hid hb16
  have HR2 := Lib.hid hr2
  have HR8 := Lib.hid hr8
  have HR16 := Lib.hid hr16
  have HP := Lib.hid hp
  have HLF := Lib.hid hleaf
  have q2 : (T2.length : Int) ≤ 64 := by omega
  have q8 : (T8.length : Int) ≤ 64 := by omega
  have q16 : (T16.length : Int) ≤ 64 := by omega
  clear hb2 hb8 hb16 hr2 hr8 hr16 hl2 hl8 hl16 hT2 hT8 hT16 hM hnt hnd hnl hp hleaf
  rcases (by omega : k % 3 = 0 ∨ k % 3 = 1 ∨ k % 3 = 2) with h | h | h
  · have hm : (k : Int) % 3 = 0 := by omega
    go_enter Tryz.func3, Tryz.ntmps3
    go_wp2_with fail
    refine (HB2.out _).mono ?_
    rintro e w0 ⟨rfl, rfl⟩
    go_wp2_with fail
    rw [pre_S]
    refine (HR2.out _ HP.out HLF.out).mono ?_
    rintro e w2 ⟨rfl, hb2⟩
    have HB2' := Lib.hid hb2
    clear hb2
    go_wp2_with fail
    refine (HAW.out _ (HP.out.below HB2'.out) (HLF.out.below HB2'.out)).mono ?_
    rintro e w3 ⟨rfl, hb3⟩
    have HB3 := Lib.hid (bt HB2'.out hb3)
    clear hb3
    go_wp2_with fail
    refine (HOU.out _).mono ?_
    rintro e w6 ⟨v6, rfl, hv6, hb6⟩
    have HV6 := Lib.hid hv6
    have HB6 := Lib.hid (bt HB3.out hb6)
    clear hv6 hb6
    go_wp2_with fail
    refine (text_walk _ false (dec10 n) _ HV6.out HND.out HNL.out).mono ?_
    rw [HNT.out]
    rintro e w7 ⟨rfl, hb7⟩
    have HB7 := Lib.hid (bt HB6.out hb7)
    clear hb7
    go_wp2_with fail
    go_ret
    exact ⟨rfl, HB7.out⟩
  · have hm : (k : Int) % 3 = 1 := by omega
    go_enter Tryz.func3, Tryz.ntmps3
    go_wp2_with fail
    refine (HB2.out _).mono ?_
    rintro e w0 ⟨rfl, rfl⟩
    go_wp2_with fail
    refine (HB8.out _).mono ?_
    rintro e w1 ⟨rfl, rfl⟩
    go_wp2_with fail
    rw [pre_S]
    refine (HR8.out _ HP.out HLF.out).mono ?_
    rintro e w2 ⟨rfl, hb2⟩
    have HB2' := Lib.hid hb2
    clear hb2
    go_wp2_with fail
    refine (HAW.out _ (HP.out.below HB2'.out) (HLF.out.below HB2'.out)).mono ?_
    rintro e w3 ⟨rfl, hb3⟩
    have HB3 := Lib.hid (bt HB2'.out hb3)
    clear hb3
    go_wp2_with fail
    refine (HOU.out _).mono ?_
    rintro e w6 ⟨v6, rfl, hv6, hb6⟩
    have HV6 := Lib.hid hv6
    have HB6 := Lib.hid (bt HB3.out hb6)
    clear hv6 hb6
    go_wp2_with fail
    refine (text_walk _ false (dec10 n) _ HV6.out HND.out HNL.out).mono ?_
    rw [HNT.out]
    rintro e w7 ⟨rfl, hb7⟩
    have HB7 := Lib.hid (bt HB6.out hb7)
    clear hb7
    go_wp2_with fail
    go_ret
    exact ⟨rfl, HB7.out⟩
  · have hm : (k : Int) % 3 = 2 := by omega
    go_enter Tryz.func3, Tryz.ntmps3
    go_wp2_with fail
    refine (HB2.out _).mono ?_
    rintro e w0 ⟨rfl, rfl⟩
    go_wp2_with fail
    refine (HB16.out _).mono ?_
    rintro e w1 ⟨rfl, rfl⟩
    go_wp2_with fail
    rw [pre_S]
    refine (HR16.out _ HP.out HLF.out).mono ?_
    rintro e w2 ⟨rfl, hb2⟩
    have HB2' := Lib.hid hb2
    clear hb2
    go_wp2_with fail
    refine (HAW.out _ (HP.out.below HB2'.out) (HLF.out.below HB2'.out)).mono ?_
    rintro e w3 ⟨rfl, hb3⟩
    have HB3 := Lib.hid (bt HB2'.out hb3)
    clear hb3
    go_wp2_with fail
    refine (HOU.out _).mono ?_
    rintro e w6 ⟨v6, rfl, hv6, hb6⟩
    have HV6 := Lib.hid hv6
    have HB6 := Lib.hid (bt HB3.out hb6)
    clear hv6 hb6
    go_wp2_with fail
    refine (text_walk _ false (dec10 n) _ HV6.out HND.out HNL.out).mono ?_
    rw [HNT.out]
    rintro e w7 ⟨rfl, hb7⟩
    have HB7 := Lib.hid (bt HB6.out hb7)
    clear hb7
    go_wp2_with fail
    go_ret
    exact ⟨rfl, HB7.out⟩
set_option maxRecDepth 100000 in
theorem fnUintBased_walk_int (a b : Int) (p : Addr) (w : World) (ha : (Lit.int .u64 a).wf = true) (hb : (Lit.int .u8 b).wf = true) (hp : EofIs w p) (hleaf : LeafIs w) :
    Calls Tryz.prog 3 #[.int .u64 a, .int .u8 b] w fun e w' => e = .returned (.bool true) ∧ Below w.heap.size w w' := by
  have h : 0 ≤ a ∧ a < 18446744073709551616 := by
    have h2 : (decide (IntKind.u64.min ≤ a) && decide (a ≤ IntKind.u64.max)) = true := ha
    rw [Bool.and_eq_true, decide_eq_true_eq, decide_eq_true_eq] at h2
    have e1 : IntKind.u64.min = 0 := by decide
    have e2 : IntKind.u64.max = 18446744073709551615 := by decide
    omega
  have h2 : 0 ≤ b ∧ b < 256 := by
    have h2 : (decide (IntKind.u8.min ≤ b) && decide (b ≤ IntKind.u8.max)) = true := hb
    rw [Bool.and_eq_true, decide_eq_true_eq, decide_eq_true_eq] at h2
    have e1 : IntKind.u8.min = 0 := by decide
    have e2 : IntKind.u8.max = 255 := by decide
    omega
  obtain ⟨n, rfl⟩ := Int.eq_ofNat_of_zero_le h.1
  obtain ⟨k, rfl⟩ := Int.eq_ofNat_of_zero_le h2.1
  exact fnUintBased_walk n k p w (by omega) (by omega) hp hleaf
end Go.Proofs.YthipbglnaalhmaaGreatDoor
