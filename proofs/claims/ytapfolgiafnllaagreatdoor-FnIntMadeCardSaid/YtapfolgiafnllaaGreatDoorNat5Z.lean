/-
  math/big's mulAddVWW.
  math/big's setWord, mulAddWW on a number that the call owns.
  math/big's maxPow, pow.
-/
import Derived.Test.YtapfolgiafnllaaGreatDoorBn17Z
import Derived.StillTailTactics
namespace Go.Proofs.YtapfolgiafnllaaGreatDoor
open Go.RowKit

/-- The words xs are read at X: where block g's words from o on lie, or in another block. -/
def Src (w : World) (g o : Nat) (zs : List Nat) (X : Option Addr) (xs : List Nat) : Prop :=
  (X = some ⟨g, o, none⟩ ∧ ∃ r, zs.drop o = xs ++ r) ∨ (Rd w X (nums .u64 xs) ∧ ∀ a, X = some a → a.block ≠ g)
theorem add_none (g o j : Nat) : (⟨g, o, none⟩ : Addr).add j = ⟨g, o + j, none⟩ := add_off g o j

/-- A block's words, the first k from o on being new. -/
def over (zs : List Nat) (o : Nat) (outs : List Nat) : List Nat := zs.take o ++ outs ++ zs.drop (o + outs.length)
theorem over_nil (zs : List Nat) (o : Nat) : over zs o [] = zs := by simp [over]
theorem over_length {zs outs : List Nat} {o : Nat} (h : o + outs.length ≤ zs.length) : (over zs o outs).length = zs.length := by
  simp [over]; omega
theorem over_set {zs outs : List Nat} {o v : Nat} (h : o + outs.length < zs.length) : (over zs o outs).set (o + outs.length) v = over zs o (outs ++ [v]) := by
  have h1 : (zs.take o ++ outs).length = o + outs.length := by simp; omega
  unfold over
  rw [List.set_append_right _ _ (by rw [h1]; exact Nat.le_refl _), h1, Nat.sub_self, List.drop_eq_getElem_cons h, List.set_cons_zero]
  simp [Nat.add_assoc]
theorem over_get {zs outs : List Nat} {o j : Nat} (hj : outs.length ≤ j) (h : o + j < zs.length) (h2 : o + j < (over zs o outs).length) : (over zs o outs)[o + j] = zs[o + j] := by
  have h1 : (zs.take o ++ outs).length = o + outs.length := by simp; omega
  apply Option.some.inj
  rw [← List.getElem?_eq_getElem, ← List.getElem?_eq_getElem]
  unfold over
  rw [List.getElem?_append_right (by rw [h1]; omega), h1, List.getElem?_drop]
  congr 1
  omega
/-- A word of the source, read where k words have been written. -/
theorem Src.cell {w wr : World} {g o : Nat} {zs : List Nat} {T : TypeId} {X : Option Addr} {xs outs : List Nat} (h : Src w g o zs X xs) (hz : o + xs.length ≤ zs.length) (hrow : Row wr g .u64 T (over zs o outs)) (hx : Ext (fun b => b = g) w wr)
    (hk : outs.length < xs.length) : ∃ a, X = some a ∧ wr.cell? (a.add outs.length) = some (.int .u64 (xs[outs.length] : Int)) := by
  rcases h with ⟨rfl, r, hr⟩ | ⟨hr, hne⟩
  · refine ⟨_, rfl, ?_⟩
    rw [add_none]
    have hol := over_length (zs := zs) (outs := outs) (o := o) (by omega)
    rw [hrow.cell (j := o + outs.length) (by omega), over_get (Nat.le_refl _) (by omega)]
    congr 3
    have e : zs[o + outs.length]'(by omega) = (zs.drop o)[outs.length]'(by simp; omega) := by simp
    rw [e]
    simp only [hr]
    rw [List.getElem_append_left hk]
  · obtain ⟨a, rfl, ha⟩ := rd_cell hr hk
    refine ⟨a, rfl, ?_⟩
    have hb := hne a rfl
    have : (a.add outs.length).block = a.block := add_block a outs.length
    rw [World.cell?_of_block (w := w) (hx.block (a.add outs.length).block (World.block_lt_of_cell? w _ ha) (by rw [this]; exact hb))]
    exact ha

/-- The loop of mulAddVWW. -/
def MavRel (w : World) (g o : Nat) (zs xs : List Nat) (y r : Nat) (cv iv : Value) (wr : World) : Prop :=
  ∃ (c : Nat) (outs : List Nat), iv = .int .i64 (outs.length : Int) ∧ cv = .int .u64 c ∧ c < 18446744073709551616 ∧ outs.length ≤ xs.length ∧ (∀ d ∈ outs, d < 18446744073709551616) ∧
    Row wr g .u64 106 (over zs o outs) ∧ Ext (fun b => b = g) w wr ∧ wr.heap.size = w.heap.size ∧ valD 18446744073709551616 outs + 18446744073709551616 ^ outs.length * c = valD 18446744073709551616 (xs.take outs.length) * y + r
/-- What mulAddVWW leaves behind. -/
def MavPost (w : World) (g o : Nat) (zs xs : List Nat) (y r : Nat) (e : Ending) (w' : World) : Prop :=
  ∃ (c : Nat) (outs : List Nat), e = .returned (.int .u64 c) ∧ c < 18446744073709551616 ∧ outs.length = xs.length ∧ (∀ d ∈ outs, d < 18446744073709551616) ∧
    Row w' g .u64 106 (over zs o outs) ∧ Ext (fun b => b = g) w w' ∧ w'.heap.size = w.heap.size ∧ valD 18446744073709551616 outs + 18446744073709551616 ^ xs.length * c = valD 18446744073709551616 xs * y + r

theorem mav_step {outs xs : List Nat} {k c x y r q s : Nat} (hk : outs.length = k) (hl : k < xs.length) (hx : xs[k] = x) (hq : (x * y + c) / 18446744073709551616 = q) (hs : (x * y + c) % 18446744073709551616 = s)
    (h : valD 18446744073709551616 outs + 18446744073709551616 ^ k * c = valD 18446744073709551616 (xs.take k) * y + r) :
    valD 18446744073709551616 (outs ++ [s]) + 18446744073709551616 ^ (k + 1) * q = valD 18446744073709551616 (xs.take (k + 1)) * y + r := by
  rw [valD_take_succ hl, valD_append, hk, hx, Nat.pow_succ]
  generalize 18446744073709551616 ^ k = P at *
  generalize valD 18446744073709551616 outs = V at *
  generalize valD 18446744073709551616 (xs.take k) = U at *
  simp only [valD, Nat.mul_zero, Nat.add_zero]
  have e : s + 18446744073709551616 * q = x * y + c := by rw [← hq, ← hs]; exact Nat.mod_add_div _ _
  have e2 : P * s + P * 18446744073709551616 * q = P * (x * y) + P * c := by rw [← Nat.mul_add P (x * y) c, ← e, Nat.mul_add, Nat.mul_assoc]
  have e3 : (U + P * x) * y = U * y + P * (x * y) := by rw [Nat.add_mul, Nat.mul_assoc]
  omega

set_option maxRecDepth 100000 in
set_option maxHeartbeats 1000000 in
theorem mulAddVWW_g_walk (g o : Nat) (zs xs : List Nat) (X : Option Addr) (cz cx y r : Nat) (w : World) (hrow : Row w g .u64 106 zs) (hsrc : Src w g o zs X xs) (hz : o + xs.length ≤ zs.length)
    (hxw : ∀ d ∈ xs, d < 18446744073709551616) (hy : y < 18446744073709551616) (hr : r < 18446744073709551616) (hl : xs.length ≤ 1000000) (_ho : o ≤ 1000000) :
    Calls Tryz.prog 218 #[.slice (some ⟨g, o, none⟩) xs.length cz, .slice X xs.length cx, .int .u64 y, .int .u64 r] w (MavPost w g o zs xs y r) := by
  have HS := Lib.hid hsrc
  have HR := Lib.hid hrow
  have HX := Lib.hid hxw
  clear hsrc hrow hxw
  go_enter Tryz.func218, Tryz.ntmps218
  go_wp2_with fail
  go_loopw [8, 19] (fun cv iv wr => MavRel w g o zs xs y r cv iv wr) (fun _ iv _ => idxOf xs.length iv)
  case atStart => exact ⟨r, [], rfl, rfl, hr, Nat.zero_le _, by simp, by rw [over_nil]; exact HR.out, Ext.refl _ _, rfl, by simp [valD]⟩
  case round =>
    obtain ⟨c, outs, rfl, rfl, hc, hol, how, hrow, hx, hsz, hval⟩ := hrel
    have HOW := Lib.hid how
    have HROW := Lib.hid hrow
    have HV := Lib.hid hval
    clear how hval
    by_cases hlt : outs.length < xs.length
    · obtain ⟨k, hk⟩ : ∃ k, outs.length = k := ⟨_, rfl⟩
      obtain ⟨a, rfl, ha⟩ := HS.out.cell hz hrow hx hlt
      obtain ⟨x, hxk⟩ : ∃ x, xs[outs.length] = x := ⟨_, rfl⟩
      have hxw : x < 18446744073709551616 := by rw [← hxk]; exact HX.out _ (List.getElem_mem _)
      rw [hxk] at ha
      have hkl : k < xs.length := by omega
      have hkl' : (k : Int) < xs.length := by omega
      have hk0 : (0 : Int) ≤ (k : Int) := by omega
      have fR := hrow.free (o + k)
      have hcR := hrow.cell (j := o + k) (by rw [over_length (by omega)]; omega)
      obtain ⟨old, hold⟩ : ∃ old, (over zs o outs)[o + k]'(by rw [over_length (by omega)]; omega) = old := ⟨_, rfl⟩
      rw [hold] at hcR
      rw [hk] at ha ⊢
      clear hrow
      have hxy : x * y ≤ 18446744073709551615 * 18446744073709551615 := Nat.mul_le_mul (by omega) (by omega)
      have hW := mulAddWWW_walk x y c wr hxw hy hc
      obtain ⟨q, hq⟩ : ∃ q, (x * y + c) / 18446744073709551616 = q := ⟨_, rfl⟩
      obtain ⟨s, hs⟩ : ∃ s, (x * y + c) % 18446744073709551616 = s := ⟨_, rfl⟩
      have hqw : q < 18446744073709551616 := by omega
      have hsw : s < 18446744073709551616 := by rw [← hs]; exact Nat.mod_lt _ (by decide)
      rw [hq, hs] at hW
      have HW := Lib.hid hW
      clear hW hxy
      go_wp2_with fail
      refine HW.out.mono ?_
      rintro e w2 ⟨rfl, rfl⟩
      go_wp2_with fail
      have hset := over_set (zs := zs) (outs := outs) (o := o) (v := s) (by omega)
      rw [hk] at hset
      have hst : Row (wr.setCell ⟨g, o + k, none⟩ (.int .u64 (s : Int))) g .u64 106 (over zs o (outs ++ [s])) := by rw [← hset]; exact HROW.out.set _ _
      have hv := HV.out
      rw [hk] at hv
      refine ⟨⟨q, outs ++ [s], by rw [List.length_append, hk]; go_num, rfl, hqw, by simp; omega, ?_, hst, hx.setCell (p := ⟨g, o + k, none⟩) (fun _ => rfl) _, by simpa [World.setCell] using hsz, ?_⟩, by simp [idxOf]; omega⟩
      · intro d hd
        rcases List.mem_append.1 hd with h | h
        · exact HOW.out d h
        · simp at h; omega
      · rw [List.length_append, hk]
        exact mav_step hk hkl (by rw [← hxk]; simp only [hk]) hq hs hv
    · have hol2 : outs.length = xs.length := by omega
      have hlt' : ¬ (outs.length : Int) < xs.length := by omega
      have hv := HV.out
      rw [hol2, List.take_of_length_le (Nat.le_refl _)] at hv
      have HV2 := Lib.hid hv
      have HOL := Lib.hid hol2
      clear hv hol2 HV
      go_wp2_with fail
      go_ret
      exact ⟨c, outs, rfl, hc, HOL.out, HOW.out, HROW.out, hx, hsz, HV2.out⟩

set_option maxRecDepth 100000 in
set_option maxHeartbeats 1000000 in
theorem mulAddVWW_walk (g o : Nat) (zs xs : List Nat) (X : Option Addr) (cz cx y r : Nat) (w : World) (hrow : Row w g .u64 106 zs) (hsrc : Src w g o zs X xs) (hz : o + xs.length ≤ zs.length)
    (hxw : ∀ d ∈ xs, d < 18446744073709551616) (hy : y < 18446744073709551616) (hr : r < 18446744073709551616) (hl : xs.length ≤ 1000000) (ho : o ≤ 1000000) :
    Calls Tryz.prog 186 #[.slice (some ⟨g, o, none⟩) xs.length cz, .slice X xs.length cx, .int .u64 y, .int .u64 r] w (MavPost w g o zs xs y r) := by
  go_enter Tryz.func186, Tryz.ntmps186
  go_wp2_with fail
  refine (mulAddVWW_g_walk g o zs xs X cz cx y r w hrow hsrc hz hxw hy hr hl ho).mono ?_
  rintro e w1 ⟨c, outs, rfl, hp⟩
  go_wp2_with fail
  go_ret
  exact ⟨c, outs, rfl, hp⟩
end Go.Proofs.YtapfolgiafnllaaGreatDoor

namespace Go.Proofs.YtapfolgiafnllaaGreatDoor
open Go.RowKit

/-- The words of a number. -/
def wds (n : Nat) : List Nat := toD 18446744073709551616 n
theorem wds_lt (n : Nat) : ∀ d ∈ wds n, d < 18446744073709551616 := toD_lt (by decide) n
theorem wds_val (n : Nat) : valD 18446744073709551616 (wds n) = n := valD_toD (by decide) n
theorem wds_zero : wds 0 = [] := toD_zero _
theorem wds_trim {ws : List Nat} (h : ∀ d ∈ ws, d < 18446744073709551616) : trimN ws = wds (valD 18446744073709551616 ws) := trimN_toD (by decide) h
/-- A number whose words lie at the head of a block from B on. -/
def OwnNat (B : Nat) (w : World) (A : Option Addr) (c N : Nat) : Prop :=
  (A = none ∧ c = 0 ∧ N = 0) ∨ ∃ g zs, A = some ⟨g, 0, none⟩ ∧ c = zs.length ∧ Row w g .u64 106 zs ∧ (∃ r, zs = wds N ++ r) ∧ B ≤ g ∧ zs.length ≤ 100000
theorem OwnNat.room {B : Nat} {w : World} {A : Option Addr} {c N : Nat} (h : OwnNat B w A c N) : (wds N).length ≤ c ∧ c ≤ 100000 := by
  rcases h with ⟨_, rfl, rfl⟩ | ⟨g, zs, _, rfl, _, ⟨r, hr⟩, _, h⟩
  · rw [wds_zero]; exact ⟨Nat.le_refl _, by omega⟩
  · refine ⟨?_, h⟩
    have := congrArg List.length hr
    rw [List.length_append] at this
    omega
theorem OwnNat.rd {B : Nat} {w : World} {A : Option Addr} {c N : Nat} (h : OwnNat B w A c N) : Rd w A (nums .u64 (wds N)) := by
  rcases h with ⟨rfl, rfl, rfl⟩ | ⟨g, zs, rfl, rfl, hrow, ⟨r, hr⟩, _, h⟩
  · left; rw [wds_zero]; rfl
  · have := hrow.rd 0
    rw [List.drop_zero, hr] at this
    have h2 := this.take (wds N).length
    rwa [List.take_left] at h2
theorem OwnNat.ext {B : Nat} {D : Nat → Prop} {w w' : World} {A : Option Addr} {c N : Nat} (h : OwnNat B w A c N) (hx : Ext D w w') (hd : ∀ g, B ≤ g → ¬ D g) : OwnNat B w' A c N := by
  rcases h with h | ⟨g, zs, h1, h2, hrow, h3, h4, h5⟩
  · exact .inl h
  · exact .inr ⟨g, zs, h1, h2, (hx.block g hrow.lt (hd g h4)).trans hrow, h3, h4, h5⟩
/-- What a function hands back that makes a number the call owns. -/
def OwnPost (B : Nat) (w : World) (N : Nat) (e : Ending) (w' : World) : Prop := ∃ A c, e = .returned (.slice A (wds N).length c) ∧ OwnNat B w' A c N ∧ Below B w w' ∧ w.heap.size ≤ w'.heap.size
/-- What make hands back: room for n words, the old number still to be read. -/
def MakePost (B : Nat) (w : World) (A : Option Addr) (N n : Nat) (e : Ending) (w' : World) : Prop :=
  ∃ g zs, e = .returned (.slice (some ⟨g, 0, none⟩) n zs.length) ∧ Row w' g .u64 106 zs ∧ n ≤ zs.length ∧ zs.length ≤ 100000 ∧ B ≤ g ∧ Src w' g 0 zs A (wds N) ∧ Below B w w' ∧ w.heap.size ≤ w'.heap.size
theorem below_new {B : Nat} {w : World} (h : B ≤ w.heap.size) (o : Obj) : Below B w (w.alloc o) := (Below.refl _ _).alloc h _

set_option maxRecDepth 100000 in
theorem make_own_walk (B : Nat) (A : Option Addr) (c N n : Nat) (w : World) (h : OwnNat B w A c N) (hB : B ≤ w.heap.size) (hn : 1 ≤ n) (hn2 : n ≤ 90000) :
    Calls Tryz.prog 121 #[.slice A (wds N).length c, .int .i64 n] w (MakePost B w A N n) := by
  have hr := h.room
  by_cases hc : n ≤ c
  · refine (make_room_walk A _ c n w hc (by omega) hr.1).mono ?_
    rintro e w1 ⟨rfl, rfl⟩
    rcases h with ⟨_, rfl, _⟩ | ⟨g, zs, rfl, rfl, hrow, ⟨r, hzr⟩, hg, hl⟩
    · omega
    · exact ⟨g, zs, rfl, hrow, hc, hl, hg, .inl ⟨rfl, r, by rw [List.drop_zero]; exact hzr⟩, Below.refl _ _, Nat.le_refl _⟩
  · refine (make_new_walk A _ c n w (by omega) (by omega) hr.1).mono ?_
    rintro e w1 ⟨rfl, rfl⟩
    have hroom : n ≤ roomFor n ∧ roomFor n ≤ n + 4 := by unfold roomFor; split <;> omega
    refine ⟨w.heap.size, List.replicate (roomFor n) 0, by rw [List.length_replicate], row_made _ _ _ _, by simp; omega, by simp; omega, hB, .inr ⟨h.rd.below (below_a1 _ _), ?_⟩, below_new hB _, by rw [heap_size_alloc]; omega⟩
    intro a ha
    rcases h with ⟨h, _, _⟩ | ⟨g, zs, h, _, hrow, _⟩
    · rw [h] at ha; cases ha
    · rw [h] at ha
      cases ha
      exact Nat.ne_of_lt hrow.lt

theorem OwnNat.toZero {B : Nat} {w : World} {A : Option Addr} {c N : Nat} (h : OwnNat B w A c N) : OwnNat B w A c 0 := by
  rcases h with ⟨h1, h2, _⟩ | ⟨g, zs, h1, h2, hrow, _, h4, h5⟩
  · exact .inl ⟨h1, h2, rfl⟩
  · exact .inr ⟨g, zs, h1, h2, hrow, ⟨zs, by rw [wds_zero]; rfl⟩, h4, h5⟩
theorem wds_one {x : Nat} (h0 : x ≠ 0) (hx : x < 18446744073709551616) : wds x = [x] := by
  unfold wds
  rw [toD_pos (by decide) h0, Nat.mod_eq_of_lt hx, Nat.div_eq_of_lt hx, toD_zero]
theorem set_zero_eq {zs : List Nat} (h : 1 ≤ zs.length) (x : Nat) : zs.set 0 x = [x] ++ zs.drop 1 := by
  cases zs with
  | nil => simp at h
  | cons a t => rfl

set_option maxRecDepth 100000 in
set_option maxHeartbeats 1000000 in
theorem setWord_walk (B : Nat) (A : Option Addr) (c N x : Nat) (w : World) (h : OwnNat B w A c N) (hB : B ≤ w.heap.size) (hx : x < 18446744073709551616) :
    Calls Tryz.prog 136 #[.slice A (wds N).length c, .int .u64 x] w (OwnPost B w x) := by
  have hr := h.room
  by_cases h0 : x = 0
  · subst h0
    have hc0 : (0 : Int) ≤ c := by omega
    go_enter Tryz.func136, Tryz.ntmps136
    go_wp2_with fail
    go_ret
    exact ⟨A, c, by rw [wds_zero]; rfl, h.toZero, Below.refl _ _, Nat.le_refl _⟩
  · have h0b : ((x : Int) == 0) = false := beq_eq_false_iff_ne.2 (by omega)
    have hM := make_own_walk B A c N 1 w h hB (by decide) (by decide)
    have HM := Lib.hid hM
    clear hM h
    go_enter Tryz.func136, Tryz.ntmps136
    go_wp2_with fail
    refine HM.out.mono ?_
    rintro e w1 ⟨g, zs, rfl, hrow, hl1, hl2, hg, hsrc, hb, hs⟩
    have c0 := hrow.cell (j := 0) (by omega)
    have f0 := hrow.free 0
    have HR := Lib.hid hrow
    clear hrow hsrc
    go_wp2_with fail
    go_ret
    have hst := HR.out.set 0 x
    refine ⟨some ⟨g, 0, none⟩, zs.length, by rw [wds_one h0 hx]; rfl, .inr ⟨g, zs.set 0 x, rfl, by simp, hst, ⟨zs.drop 1, by rw [wds_one h0 hx, set_zero_eq hl1]⟩, hg, by simpa using hl2⟩, hb.setCell (p := ⟨g, 0, none⟩) hg _, by simpa [World.setCell] using hs⟩

set_option maxRecDepth 100000 in
set_option maxHeartbeats 1000000 in
/-- z.mulAddWW(z, y, r): the number times y, and r more. -/
theorem mulAddWW_walk (B : Nat) (A : Option Addr) (c N y r : Nat) (w : World) (h : OwnNat B w A c N) (hB : B ≤ w.heap.size) (hy0 : y ≠ 0) (hy : y < 18446744073709551616) (hr : r < 18446744073709551616) (hl : (wds N).length ≤ 80000) :
    Calls Tryz.prog 165 #[.slice A (wds N).length c, .slice A (wds N).length c, .int .u64 y, .int .u64 r] w (OwnPost B w (N * y + r)) := by
  have hrm := h.room
  by_cases h0 : N = 0
  · subst h0
    have hS := setWord_walk B A c 0 r w h hB hr
    rw [Nat.zero_mul, Nat.zero_add]
    rw [wds_zero] at hS ⊢
    have HS := Lib.hid hS
    clear hS h
    go_enter Tryz.func165, Tryz.ntmps165
    go_wp2_with fail
    refine HS.out.mono ?_
    rintro e w1 ⟨A1, c1, rfl, hp⟩
    go_wp2_with fail
    go_ret
    exact ⟨A1, c1, rfl, hp⟩
  · have hm0 : (wds N).length ≠ 0 := by
      intro h1
      exact h0 ((toD_nil_iff (by decide)).1 (List.length_eq_zero_iff.1 h1))
    have hM := make_own_walk B A c N ((wds N).length + 1) w h hB (by omega) (by omega)
    have hval := wds_val N
    have hwl := wds_lt N
    obtain ⟨xs, hxs⟩ : ∃ xs, wds N = xs := ⟨_, rfl⟩
    unfold MakePost at hM
    rw [hxs] at hM hm0 hl hrm hval hwl ⊢
    have HM := Lib.hid hM
    have HV := Lib.hid hval
    have HW := Lib.hid hwl
    have hml : ((xs.length : Int) == 0) = false := beq_eq_false_iff_ne.2 (by omega)
    have hyb : ((y : Int) == 0) = false := beq_eq_false_iff_ne.2 (by omega)
    have hi1 : ((xs.length + 1 : Nat) : Int) = (xs.length : Int) + 1 := by omega
    rw [hi1] at HM
    clear hM hval hwl h
    go_enter Tryz.func165, Tryz.ntmps165
    go_wp2_with fail
    refine HM.out.mono ?_
    rintro e w1 ⟨g, zs, rfl, hrow, hl1, hl2, hg, hsrc, hb, hs⟩
    have hi2 : (xs.length : Int) ≤ zs.length := by omega
    have hi3 : (0 : Int) ≤ xs.length := by omega
    have hi4 : (xs.length : Int) < (xs.length : Int) + 1 := by omega
    have HR := Lib.hid hrow
    have HSR := Lib.hid hsrc
    clear hrow hsrc
    go_wp2_with fail
    refine (mulAddVWW_walk g 0 zs xs A zs.length c y r w1 HR.out HSR.out (by omega) HW.out hy hr (by omega) (by omega)).mono ?_
    rintro e w2 ⟨cr, outs, rfl, hcr, hol, how, hrow2, hx2, hsz2, hv2⟩
    have hlen2 : (over zs 0 outs).length = zs.length := over_length (by omega)
    have c2 : ∃ old : Nat, w2.cell? ⟨g, xs.length, none⟩ = some (.int .u64 old) := ⟨_, hrow2.cell (j := xs.length) (by omega)⟩
    obtain ⟨old, c2⟩ := c2
    have f2 := hrow2.free xs.length
    have HR2 := Lib.hid hrow2
    have HV2 := Lib.hid hv2
    have HO := Lib.hid how
    have HOL := Lib.hid hol
    clear hrow2 hv2 how hol
    go_wp2_with fail
    have hset := over_set (zs := zs) (outs := outs) (o := 0) (v := cr) (by rw [HOL.out]; omega)
    rw [Nat.zero_add, HOL.out] at hset
    have hst : Row (w2.setCell ⟨g, xs.length, none⟩ (.int .u64 (cr : Int))) g .u64 106 (over zs 0 (outs ++ [cr])) := by rw [← hset]; exact HR2.out.set _ _
    have hrd := hst.rd 0
    rw [List.drop_zero] at hrd
    have hov : over zs 0 (outs ++ [cr]) = (outs ++ [cr]) ++ zs.drop (outs ++ [cr]).length := by simp [over]
    have htk := hrd.take (outs ++ [cr]).length
    rw [hov, List.take_left] at htk
    have hl3 : (outs ++ [cr]).length = xs.length + 1 := by rw [List.length_append, HOL.out]; rfl
    have hlt3 : ∀ d ∈ outs ++ [cr], d < 18446744073709551616 := by
      intro d hd
      rcases List.mem_append.1 hd with h | h
      · exact HO.out d h
      · simp at h; omega
    have hvv : valD 18446744073709551616 (outs ++ [cr]) = N * y + r := by
      rw [valD_append, HOL.out]
      have := HV2.out
      rw [HV.out] at this
      simpa [valD] using this
    have htr : trimN (outs ++ [cr]) = wds (N * y + r) := by rw [wds_trim hlt3, hvv]
    have hN := norm_walk (some ⟨g, 0, none⟩) zs.length (outs ++ [cr]) _ (by rw [hl3]; exact hl1) (by omega) htk
    rw [htr, hl3] at hN
    refine hN.mono ?_
    rintro e w3 ⟨rfl, rfl⟩
    go_wp2_with fail
    go_ret
    have hb2 : Below B w w2 := hb.trans (hx2.below (by have := hb.size; omega) (fun k hk => by rw [hk]; exact hg))
    obtain ⟨r0, hr0⟩ := trimN_prefix (outs ++ [cr])
    rw [htr] at hr0
    exact ⟨some ⟨g, 0, none⟩, zs.length, rfl, .inr ⟨g, _, rfl, by rw [over_length (by rw [hl3]; omega)], hst, ⟨r0 ++ zs.drop (outs ++ [cr]).length, by rw [hov, ← List.append_assoc, ← hr0]⟩, hg, by rw [over_length (by rw [hl3]; omega)]; exact hl2⟩, hb2.setCell (p := ⟨g, xs.length, none⟩) hg _, by simp [World.setCell]; omega⟩
end Go.Proofs.YtapfolgiafnllaaGreatDoor

namespace Go.Proofs.YtapfolgiafnllaaGreatDoor
open Go.RowKit

def MaxRel (b K : Nat) (pv nv : Value) : Prop := ∃ n : Nat, nv = .int .i64 n ∧ pv = .int .u64 ((b ^ n : Nat) : Int) ∧ 1 ≤ n ∧ n ≤ K

set_option maxRecDepth 100000 in
set_option maxHeartbeats 1000000 in
theorem maxPow_walk (b K : Nat) (w : World) (hb : 2 ≤ b) (hb2 : b < 18446744073709551616) (hK : 1 ≤ K) (hK2 : K ≤ 64) (h1 : b ^ (K - 1) ≤ 18446744073709551615 / b) (h2 : 18446744073709551615 / b < b ^ K) :
    Calls Tryz.prog 149 #[.int .u64 b] w fun e w' => e = .returned (.tuple #[.int .u64 ((b ^ K : Nat) : Int), .int .i64 K]) ∧ w = w' := by
  have hb0 : ((b : Int) == 0) = false := beq_eq_false_iff_ne.2 (by omega)
  obtain ⟨M, hM⟩ : ∃ M, 18446744073709551615 / b = M := ⟨_, rfl⟩
  have hMi : (18446744073709551615 : Int) / b = M := by rw [← hM]; exact (Int.natCast_ediv _ _).symm
  have hmul : M * b ≤ 18446744073709551615 := by rw [← hM]; exact Nat.div_mul_le_self _ _
  rw [hM] at h1 h2
  clear hM
  obtain ⟨R, hR⟩ : ∃ R, b ^ K = R := ⟨_, rfl⟩
  rw [hR]
  have HR := Lib.hid hR
  clear hR
  go_enter Tryz.func149, Tryz.ntmps149
  go_wp2_with fail
  rw [hMi]
  go_loop [2, 3] (fun pv nv => MaxRel b K pv nv) (fun _ nv => idxOf (K + 1) nv)
  case atStart => exact ⟨1, rfl, by simp, Nat.le_refl _, hK⟩
  case round =>
    obtain ⟨n, rfl, rfl, hn1, hnK⟩ := hrel
    have hpow : ((b ^ n : Nat) : Int) * b = ((b ^ (n + 1) : Nat) : Int) := by rw [Nat.pow_succ, Int.natCast_mul]
    by_cases hlt : n < K
    · have hle : b ^ n ≤ M := Nat.le_trans (Nat.pow_le_pow_right (by omega) (by omega)) h1
      have hpM : b ^ n * b ≤ 18446744073709551615 := Nat.le_trans (Nat.mul_le_mul_right b hle) hmul
      rw [← Nat.pow_succ] at hpM
      obtain ⟨p, hp⟩ : ∃ p, b ^ n = p := ⟨_, rfl⟩
      obtain ⟨p2, hp2⟩ : ∃ p2, b ^ (n + 1) = p2 := ⟨_, rfl⟩
      rw [hp, hp2] at hpow
      rw [hp] at hle ⊢
      rw [hp2] at hpM
      have hle' : (p : Int) ≤ M := by omega
      have hp2' : (p2 : Int) ≤ 18446744073709551615 := by omega
      have hp20 : (0 : Int) ≤ p2 := by omega
      have hw : IntKind.u64.wrap (p2 : Int) = p2 := by rw [IntKind.wrap_u64]; omega
      clear hp
      go_wp2_with fail
      exact ⟨⟨n + 1, by go_num, by rw [hp2], by omega, by omega⟩, by simp [idxOf]; omega⟩
    · obtain rfl : n = K := by omega
      rw [HR.out] at h2 ⊢
      have hle' : ¬ (R : Int) ≤ M := by omega
      clear hpow
      go_wp2_with fail
      go_ret2
      exact ⟨rfl, rfl⟩

theorem and_one (k : Nat) (h : k ≤ 1000000) : bits BinOp.and IntKind.i64 (k : Int) 1 = ((k % 2 : Nat) : Int) := by
  have h1 := bits_mask .i64 62 (by decide) (fun n h0 h1 => by rw [IntKind.wrap_i64]; omega) 1 (by decide) (k : Int) (by omega) (by omega)
  have e : ((2 : Int) ^ 1 - 1) = 1 := by decide
  have e2 : ((2 : Int) ^ 1) = 2 := by decide
  rw [e, e2] at h1
  rw [h1]
  omega
theorem wrap_mul (a b : Nat) : IntKind.u64.wrap ((a : Int) * b) = ((a * b % 18446744073709551616 : Nat) : Int) := by
  rw [← Int.natCast_mul, IntKind.wrap_u64]
  omega
theorem pow_half (p y k : Nat) : p * y ^ k % 18446744073709551616 = (if k % 2 = 0 then p else p * y % 18446744073709551616) * (y * y % 18446744073709551616) ^ (k / 2) % 18446744073709551616 := by
  have e : y ^ k = y ^ (k % 2) * (y * y) ^ (k / 2) := by
    rw [← Nat.pow_two, ← Nat.pow_mul, ← Nat.pow_add, Nat.add_comm, Nat.div_add_mod]
  rw [e, Nat.mul_mod (if k % 2 = 0 then p else p * y % 18446744073709551616), ← Nat.pow_mod, ← Nat.mul_assoc, Nat.mul_mod (p * y ^ (k % 2))]
  congr 2
  split
  · rename_i h; rw [h, Nat.pow_zero, Nat.mul_one]
  · rename_i h
    have : k % 2 = 1 := by omega
    rw [this, Nat.pow_one, Nat.mod_mod]

def PowRel (x0 n0 : Nat) (xv nv pv : Value) : Prop := ∃ x n p : Nat, xv = .int .u64 x ∧ nv = .int .i64 n ∧ pv = .int .u64 p ∧ n ≤ n0 ∧ x < 18446744073709551616 ∧ p < 18446744073709551616 ∧ (p * x ^ n) % 18446744073709551616 = x0 ^ n0 % 18446744073709551616

set_option maxRecDepth 100000 in
set_option maxHeartbeats 1000000 in
theorem pow_walk (x n : Nat) (w : World) (hx : x < 18446744073709551616) (hn : n ≤ 1000000) :
    Calls Tryz.prog 214 #[.int .u64 x, .int .i64 n] w fun e w' => e = .returned (.int .u64 ((x ^ n % 18446744073709551616 : Nat) : Int)) ∧ w = w' := by
  obtain ⟨R, hR⟩ : ∃ R, x ^ n % 18446744073709551616 = R := ⟨_, rfl⟩
  rw [hR]
  have HR := Lib.hid hR
  clear hR
  go_enter Tryz.func214, Tryz.ntmps214
  go_wp2_with fail
  go_loop [0, 1, 4] (fun xv nv pv => PowRel x n xv nv pv) (fun _ nv _ => natOf nv)
  case atStart => exact ⟨x, n, 1, rfl, rfl, rfl, Nat.le_refl _, hx, by decide, by rw [Nat.one_mul]⟩
  case round =>
    obtain ⟨y, k, p, rfl, rfl, rfl, hk, hy, hp, hv⟩ := hrel
    have HV := Lib.hid hv
    clear hv
    by_cases h0 : k = 0
    · subst h0
      have e : R = p := by rw [← HR.out, ← HV.out, Nat.pow_zero, Nat.mul_one, Nat.mod_eq_of_lt hp]
      subst e
      go_wp2_with fail
      go_ret
      exact ⟨rfl, rfl⟩
    · have hk0 : (0 : Int) < k := by omega
      have ha := and_one k (by omega)
      have hph := pow_half p y k
      have hyy := wrap_mul y y
      have hpy := wrap_mul p y
      obtain ⟨yy, hyy2⟩ : ∃ yy, y * y % 18446744073709551616 = yy := ⟨_, rfl⟩
      obtain ⟨py, hpy2⟩ : ∃ py, p * y % 18446744073709551616 = py := ⟨_, rfl⟩
      have hyl : yy < 18446744073709551616 := by rw [← hyy2]; exact Nat.mod_lt _ (by decide)
      have hpl : py < 18446744073709551616 := by rw [← hpy2]; exact Nat.mod_lt _ (by decide)
      rw [hyy2] at hyy hph
      rw [hpy2] at hpy hph
      rw [HV.out] at hph
      clear hyy2 hpy2
      by_cases hodd : k % 2 = 0
      · rw [hodd] at ha
        rw [if_pos hodd] at hph
        have HP := Lib.hid hph
        clear hph
        go_wp2_with fail
        exact ⟨⟨yy, k / 2, p, rfl, by go_num, rfl, by omega, hyl, hp, HP.out.symm⟩, by simp [natOf]; omega⟩
      · have h1 : k % 2 = 1 := by omega
        rw [h1] at ha
        rw [if_neg hodd] at hph
        have HP := Lib.hid hph
        clear hph
        go_wp2_with fail
        exact ⟨⟨yy, k / 2, py, rfl, by go_num, rfl, by omega, hyl, hpl, HP.out.symm⟩, by simp [natOf]; omega⟩
end Go.Proofs.YtapfolgiafnllaaGreatDoor
