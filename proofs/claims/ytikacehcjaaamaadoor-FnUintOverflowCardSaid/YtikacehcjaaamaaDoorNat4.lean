/-
  math/big's setWord, mulAddWW on a number that the call owns.
-/
import Derived.Test.YtikacehcjaaamaaDoorNat3
namespace Go.Proofs.YtikacehcjaaamaaDoor
open Go.RowKit

/-- The words of a number. -/
def wds (n : Nat) : List Nat := toD 18446744073709551616 n
theorem wds_lt (n : Nat) : ∀ d ∈ wds n, d < 18446744073709551616 := toD_lt (by decide) n
theorem wds_val (n : Nat) : valD 18446744073709551616 (wds n) = n := valD_toD (by decide) n
theorem wds_zero : wds 0 = [] := toD_zero _
theorem wds_trim {ws : List Nat} (h : ∀ d ∈ ws, d < 18446744073709551616) : trimN ws = wds (valD 18446744073709551616 ws) := trimN_toD (by decide) h
/-- A number whose words lie at the head of a block from B on. -/
def OwnNat (B : Nat) (w : World) (A : Option Addr) (c N : Nat) : Prop :=
  (A = none ∧ c = 0 ∧ N = 0) ∨ ∃ g zs, A = some ⟨g, 0, none⟩ ∧ c = zs.length ∧ Row w g .u64 90 zs ∧ (∃ r, zs = wds N ++ r) ∧ B ≤ g ∧ zs.length ≤ 100000
theorem OwnNat.room {B : Nat} {w : World} {A : Option Addr} {c N : Nat} (h : OwnNat B w A c N) : (wds N).length ≤ c ∧ c ≤ 100000 := by
  rcases h with ⟨_, rfl, rfl⟩ | ⟨g, zs, _, rfl, _, ⟨r, hr⟩, _, h⟩
  · rw [wds_zero]; exact ⟨Nat.le_refl _, by omega⟩
  · refine ⟨?_, h⟩
    have := congrArg List.length hr
    rw [List.length_append] at this
    omega
theorem OwnNat.rd {B : Nat} {w : World} {A : Option Addr} {c N : Nat} (h : OwnNat B w A c N) : Rd w A (nums .u64 (wds N)) := by
  rcases h with ⟨rfl, rfl, rfl⟩ | ⟨g, zs, rfl, rfl, hrow, ⟨r, hr⟩, _, h⟩
  · left; rw [wds_zero]; rfl
  · have := hrow.rd 0
    rw [List.drop_zero, hr] at this
    have h2 := this.take (wds N).length
    rwa [List.take_left] at h2
theorem OwnNat.ext {B : Nat} {D : Nat → Prop} {w w' : World} {A : Option Addr} {c N : Nat} (h : OwnNat B w A c N) (hx : Ext D w w') (hd : ∀ g, B ≤ g → ¬ D g) : OwnNat B w' A c N := by
  rcases h with h | ⟨g, zs, h1, h2, hrow, h3, h4, h5⟩
  · exact .inl h
  · exact .inr ⟨g, zs, h1, h2, (hx.block g hrow.lt (hd g h4)).trans hrow, h3, h4, h5⟩
/-- What a function hands back that makes a number the call owns. -/
def OwnPost (B : Nat) (w : World) (N : Nat) (e : Ending) (w' : World) : Prop := ∃ A c, e = .returned (.slice A (wds N).length c) ∧ OwnNat B w' A c N ∧ Below B w w' ∧ w.heap.size ≤ w'.heap.size
/-- What make hands back: room for n words, the old number still to be read. -/
def MakePost (B : Nat) (w : World) (A : Option Addr) (N n : Nat) (e : Ending) (w' : World) : Prop :=
  ∃ g zs, e = .returned (.slice (some ⟨g, 0, none⟩) n zs.length) ∧ Row w' g .u64 90 zs ∧ n ≤ zs.length ∧ zs.length ≤ 100000 ∧ B ≤ g ∧ Src w' g 0 zs A (wds N) ∧ Below B w w' ∧ w.heap.size ≤ w'.heap.size
theorem below_new {B : Nat} {w : World} (h : B ≤ w.heap.size) (o : Obj) : Below B w (w.alloc o) := (Below.refl _ _).alloc h _

theorem make_own_walk (B : Nat) (A : Option Addr) (c N n : Nat) (w : World) (h : OwnNat B w A c N) (hB : B ≤ w.heap.size) (hn : 1 ≤ n) (hn2 : n ≤ 90000) :
    Calls Tryd.prog 66 #[.slice A (wds N).length c, .int .i64 n] w (MakePost B w A N n) := by
  have hr := h.room
  by_cases hc : n ≤ c
  · refine (make_room_walk A _ c n w hc (by omega) hr.1).mono ?_
    rintro e w1 ⟨rfl, rfl⟩
    rcases h with ⟨_, rfl, _⟩ | ⟨g, zs, rfl, rfl, hrow, ⟨r, hzr⟩, hg, hl⟩
    · omega
    · exact ⟨g, zs, rfl, hrow, hc, hl, hg, .inl ⟨rfl, r, by rw [List.drop_zero]; exact hzr⟩, Below.refl _ _, Nat.le_refl _⟩
  · refine (make_new_walk A _ c n w (by omega) (by omega) hr.1).mono ?_
    rintro e w1 ⟨rfl, rfl⟩
    have hroom : n ≤ roomFor n ∧ roomFor n ≤ n + 4 := by unfold roomFor; split <;> omega
    refine ⟨w.heap.size, List.replicate (roomFor n) 0, by rw [List.length_replicate], row_made _ _ _ _, by simp; omega, by simp; omega, hB, .inr ⟨h.rd.below (below_a1 _ _), ?_⟩, below_new hB _, by rw [heap_size_alloc]; omega⟩
    intro a ha
    rcases h with ⟨h, _, _⟩ | ⟨g, zs, h, _, hrow, _⟩
    · rw [h] at ha; cases ha
    · rw [h] at ha
      cases ha
      exact Nat.ne_of_lt hrow.lt

theorem OwnNat.toZero {B : Nat} {w : World} {A : Option Addr} {c N : Nat} (h : OwnNat B w A c N) : OwnNat B w A c 0 := by
  rcases h with ⟨h1, h2, _⟩ | ⟨g, zs, h1, h2, hrow, _, h4, h5⟩
  · exact .inl ⟨h1, h2, rfl⟩
  · exact .inr ⟨g, zs, h1, h2, hrow, ⟨zs, by rw [wds_zero]; rfl⟩, h4, h5⟩
theorem wds_one {x : Nat} (h0 : x ≠ 0) (hx : x < 18446744073709551616) : wds x = [x] := by
  unfold wds
  rw [toD_pos (by decide) h0, Nat.mod_eq_of_lt hx, Nat.div_eq_of_lt hx, toD_zero]
theorem set_zero_eq {zs : List Nat} (h : 1 ≤ zs.length) (x : Nat) : zs.set 0 x = [x] ++ zs.drop 1 := by
  cases zs with
  | nil => simp at h
  | cons a t => rfl

set_option maxRecDepth 100000 in
set_option maxHeartbeats 1000000 in
theorem setWord_walk (B : Nat) (A : Option Addr) (c N x : Nat) (w : World) (h : OwnNat B w A c N) (hB : B ≤ w.heap.size) (hx : x < 18446744073709551616) :
    Calls Tryd.prog 65 #[.slice A (wds N).length c, .int .u64 x] w (OwnPost B w x) := by
  have hr := h.room
  by_cases h0 : x = 0
  · subst h0
    have hc0 : (0 : Int) ≤ c := by omega
    go_enter Tryd.func65, Tryd.ntmps65
    go_wp2_with fail
    go_ret
    exact ⟨A, c, by rw [wds_zero]; rfl, h.toZero, Below.refl _ _, Nat.le_refl _⟩
  · have h0b : ((x : Int) == 0) = false := beq_eq_false_iff_ne.2 (by omega)
    have hM := make_own_walk B A c N 1 w h hB (by decide) (by decide)
    have HM := Lib.hid hM
    clear hM h
    go_enter Tryd.func65, Tryd.ntmps65
    go_wp2_with fail
    refine HM.out.mono ?_
    rintro e w1 ⟨g, zs, rfl, hrow, hl1, hl2, hg, hsrc, hb, hs⟩
    have c0 := hrow.cell (j := 0) (by omega)
    have f0 := hrow.free 0
    have HR := Lib.hid hrow
    clear hrow hsrc
    go_wp2_with fail
    go_ret
    have hst := HR.out.set 0 x
    refine ⟨some ⟨g, 0, none⟩, zs.length, by rw [wds_one h0 hx]; rfl, .inr ⟨g, zs.set 0 x, rfl, by simp, hst, ⟨zs.drop 1, by rw [wds_one h0 hx, set_zero_eq hl1]⟩, hg, by simpa using hl2⟩, hb.setCell (p := ⟨g, 0, none⟩) hg _, by simpa [World.setCell] using hs⟩

set_option maxRecDepth 100000 in
set_option maxHeartbeats 1000000 in
/-- z.mulAddWW(z, y, r): the number times y, and r more. -/
theorem mulAddWW_walk (B : Nat) (A : Option Addr) (c N y r : Nat) (w : World) (h : OwnNat B w A c N) (hB : B ≤ w.heap.size) (hy0 : y ≠ 0) (hy : y < 18446744073709551616) (hr : r < 18446744073709551616) (hl : (wds N).length ≤ 80000) :
    Calls Tryd.prog 60 #[.slice A (wds N).length c, .slice A (wds N).length c, .int .u64 y, .int .u64 r] w (OwnPost B w (N * y + r)) := by
  have hrm := h.room
  by_cases h0 : N = 0
  · subst h0
    have hS := setWord_walk B A c 0 r w h hB hr
    rw [Nat.zero_mul, Nat.zero_add]
    rw [wds_zero] at hS ⊢
    have HS := Lib.hid hS
    clear hS h
    go_enter Tryd.func60, Tryd.ntmps60
    go_wp2_with fail
    refine HS.out.mono ?_
    rintro e w1 ⟨A1, c1, rfl, hp⟩
    go_wp2_with fail
    go_ret
    exact ⟨A1, c1, rfl, hp⟩
  · have hm0 : (wds N).length ≠ 0 := by
      intro h1
      exact h0 ((toD_nil_iff (by decide)).1 (List.length_eq_zero_iff.1 h1))
    have hM := make_own_walk B A c N ((wds N).length + 1) w h hB (by omega) (by omega)
    have hval := wds_val N
    have hwl := wds_lt N
    obtain ⟨xs, hxs⟩ : ∃ xs, wds N = xs := ⟨_, rfl⟩
    unfold MakePost at hM
    rw [hxs] at hM hm0 hl hrm hval hwl ⊢
    have HM := Lib.hid hM
    have HV := Lib.hid hval
    have HW := Lib.hid hwl
    have hml : ((xs.length : Int) == 0) = false := beq_eq_false_iff_ne.2 (by omega)
    have hyb : ((y : Int) == 0) = false := beq_eq_false_iff_ne.2 (by omega)
    have hi1 : ((xs.length + 1 : Nat) : Int) = (xs.length : Int) + 1 := by omega
    rw [hi1] at HM
    clear hM hval hwl h
    go_enter Tryd.func60, Tryd.ntmps60
    go_wp2_with fail
    refine HM.out.mono ?_
    rintro e w1 ⟨g, zs, rfl, hrow, hl1, hl2, hg, hsrc, hb, hs⟩
    have hi2 : (xs.length : Int) ≤ zs.length := by omega
    have hi3 : (0 : Int) ≤ xs.length := by omega
    have hi4 : (xs.length : Int) < (xs.length : Int) + 1 := by omega
    have HR := Lib.hid hrow
    have HSR := Lib.hid hsrc
    clear hrow hsrc
    go_wp2_with fail
    refine (mulAddVWW_walk g 0 zs xs A zs.length c y r w1 HR.out HSR.out (by omega) HW.out hy hr (by omega) (by omega)).mono ?_
    rintro e w2 ⟨cr, outs, rfl, hcr, hol, how, hrow2, hx2, hsz2, hv2⟩
    have hlen2 : (over zs 0 outs).length = zs.length := over_length (by omega)
    have c2 : ∃ old : Nat, w2.cell? ⟨g, xs.length, none⟩ = some (.int .u64 old) := ⟨_, hrow2.cell (j := xs.length) (by omega)⟩
    obtain ⟨old, c2⟩ := c2
    have f2 := hrow2.free xs.length
    have HR2 := Lib.hid hrow2
    have HV2 := Lib.hid hv2
    have HO := Lib.hid how
    have HOL := Lib.hid hol
    clear hrow2 hv2 how hol
    go_wp2_with fail
    have hset := over_set (zs := zs) (outs := outs) (o := 0) (v := cr) (by rw [HOL.out]; omega)
    rw [Nat.zero_add, HOL.out] at hset
    have hst : Row (w2.setCell ⟨g, xs.length, none⟩ (.int .u64 (cr : Int))) g .u64 90 (over zs 0 (outs ++ [cr])) := by rw [← hset]; exact HR2.out.set _ _
    have hrd := hst.rd 0
    rw [List.drop_zero] at hrd
    have hov : over zs 0 (outs ++ [cr]) = (outs ++ [cr]) ++ zs.drop (outs ++ [cr]).length := by simp [over]
    have htk := hrd.take (outs ++ [cr]).length
    rw [hov, List.take_left] at htk
    have hl3 : (outs ++ [cr]).length = xs.length + 1 := by rw [List.length_append, HOL.out]; rfl
    have hlt3 : ∀ d ∈ outs ++ [cr], d < 18446744073709551616 := by
      intro d hd
      rcases List.mem_append.1 hd with h | h
      · exact HO.out d h
      · simp at h; omega
    have hvv : valD 18446744073709551616 (outs ++ [cr]) = N * y + r := by
      rw [valD_append, HOL.out]
      have := HV2.out
      rw [HV.out] at this
      simpa [valD] using this
    have htr : trimN (outs ++ [cr]) = wds (N * y + r) := by rw [wds_trim hlt3, hvv]
    have hN := norm_walk (some ⟨g, 0, none⟩) zs.length (outs ++ [cr]) _ (by rw [hl3]; exact hl1) (by omega) htk
    rw [htr, hl3] at hN
    refine hN.mono ?_
    rintro e w3 ⟨rfl, rfl⟩
    go_wp2_with fail
    go_ret
    have hb2 : Below B w w2 := hb.trans (hx2.below (by have := hb.size; omega) (fun k hk => by rw [hk]; exact hg))
    obtain ⟨r0, hr0⟩ := trimN_prefix (outs ++ [cr])
    rw [htr] at hr0
    exact ⟨some ⟨g, 0, none⟩, zs.length, rfl, .inr ⟨g, _, rfl, by rw [over_length (by rw [hl3]; omega)], hst, ⟨r0 ++ zs.drop (outs ++ [cr]).length, by rw [hov, ← List.append_assoc, ← hr0]⟩, hg, by rw [over_length (by rw [hl3]; omega)]; exact hl2⟩, hb2.setCell (p := ⟨g, xs.length, none⟩) hg _, by simp [World.setCell]; omega⟩
end Go.Proofs.YtikacehcjaaamaaDoor
