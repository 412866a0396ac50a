/-
  The builtin copy over words.
-/
import Derived.Test.YtapfolgiafnllaaGreatDoorNat5Z
import Derived.Laws.CopyOwn
namespace Go.Proofs.YtapfolgiafnllaaGreatDoor
open Go.RowKit

theorem nums_one (k : IntKind) (xs : List Nat) : ∀ v ∈ nums k xs, v.oneCell' = true := by
  intro v hv
  simp only [nums, List.mem_map] at hv
  obtain ⟨d, _, rfl⟩ := hv
  rfl
theorem infoWordSize : (Tryz.prog.info? 106).map (·.size) = some 1 := by kernel_rfl
theorem over_nums (k : IntKind) (zs xs : List Nat) (o : Nat) : (nums k zs).take o ++ (nums k xs ++ (nums k zs).drop (o + (nums k xs).length)) = nums k (over zs o xs) := by
  simp [over, nums, List.map_take, List.map_drop]
theorem over_over (zs a b : List Nat) (o : Nat) (h : o + a.length ≤ zs.length) : over (over zs o a) (o + a.length) b = over zs o (a ++ b) := by
  have h1 : (zs.take o ++ a).length = o + a.length := by simp; omega
  have e1 : (zs.take o ++ a ++ zs.drop (o + a.length)).take (o + a.length) = zs.take o ++ a := by rw [← h1, List.take_left]
  have e2 : (zs.take o ++ a ++ zs.drop (o + a.length)).drop (o + a.length + b.length) = zs.drop (o + (a ++ b).length) := by
    rw [List.drop_append, List.drop_of_length_le (by omega), List.nil_append, h1, List.drop_drop, List.length_append]
    congr 1
    omega
  unfold over
  rw [e1, e2]
  simp

/-- copy(z[off..], x): words into block g. -/
theorem wpList_copy_words {P : Program} {w : World} {ops : Array Oper} {rest : List Oper} {o : Oper} {a : Act} {Q : Exit → Act → World → Prop} (hgd : o.guard = none) (d s : Operand) (dT sT : TypeId)
    (ho : o.op = .call { callee := .builtin .copy, args := #[d, s], argTypes := #[dT, sT] }) (elem : TypeId) (hu : P.underlying dT = some (.slice elem)) (hsz : (P.info? elem).map (·.size) = some 1)
    (dp sp : Option Addr) (dLen dCap sLen sCap : Nat) (hd : a.eval d = .slice dp dLen dCap) (hs : a.eval s = .slice sp sLen sCap)
    (g off : Nat) (zs : List Nat) (k : IntKind) (T : TypeId) (hg : Row w g k T zs) (xs : List Nat) (hn : xs.length = Nat.min sLen dLen)
    (hpos : 0 < xs.length → dp = some ⟨g, off, none⟩ ∧ Rd w sp (nums k xs)) (hfit : off + xs.length ≤ zs.length)
    (h : ∀ w', Hid (Row w' g k T (over zs off xs)) → Ext (fun b => b = g) w w' → w'.heap.size = w.heap.size → wpList P ops Q rest (a.put o.dst (goInt xs.length)) w') :
    wpList P ops Q (o :: rest) a w := by
  by_cases h0 : xs = []
  · subst h0
    refine wpList_copy_nothing hgd d s dT sT ho elem hu hsz dp sp dLen dCap sLen sCap hd hs (by simpa using hn.symm) ?_
    exact h w (Lib.hid (by simpa [over] using hg)) (Ext.refl _ _) rfl
  · have hl : 0 < xs.length := by cases xs with | nil => exact absurd rfl h0 | cons a b => simp
    obtain ⟨rfl, hr⟩ := hpos hl
    rcases hr with hr | ⟨ad, rfl, hsrc⟩
    · exact absurd (by simpa [nums] using hr) h0
    · refine wpList_copy_own hgd d s dT sT ho elem hu hsz g off dLen dCap ad sLen sCap hd hs (nums k zs).toArray T hg (nums k xs) (by rw [nums_length]; exact hn) hsrc (by simp [nums]; omega) (nums_one k xs) ?_
      have e : ((nums k zs).toArray.toList.take off ++ (nums k xs ++ (nums k zs).toArray.toList.drop (off + (nums k xs).length))) = nums k (over zs off xs) := over_nums k zs xs off
      rw [e, nums_length]
      refine h _ (Lib.hid (setRow_heap w g _ _ T _ hg)) ?_ (by simp [World.setRow])
      exact ⟨rfl, rfl, rfl, by simp [World.setRow], fun i hi hn => setRow_other w g i _ hn⟩
end Go.Proofs.YtapfolgiafnllaaGreatDoor
