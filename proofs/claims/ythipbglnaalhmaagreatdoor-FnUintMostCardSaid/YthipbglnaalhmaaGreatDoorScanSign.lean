/-
  scanSign.
-/
import Derived.Test.YthipbglnaalhmaaGreatDoorReader
namespace Go.Proofs.YthipbglnaalhmaaGreatDoor
open Go.RowKit

set_option maxRecDepth 100000 in
theorem met_read (g : Nat) (w : World) : (method 369 111 (.pointer (some ⟨g, 0, none⟩)) "ReadByte").run Tryz.prog w = .ok (327, .pointer (some ⟨g, 0, none⟩)) w := by kernel_rfl
set_option maxRecDepth 100000 in
theorem met_unread (g : Nat) (w : World) : (method 369 111 (.pointer (some ⟨g, 0, none⟩)) "UnreadByte").run Tryz.prog w = .ok (328, .pointer (some ⟨g, 0, none⟩)) w := by kernel_rfl

set_option maxRecDepth 100000 in
set_option maxHeartbeats 1000000 in
theorem scanSign_walk (g : Nat) (c : UInt8) (l : List UInt8) (p : Addr) (w : World) (hr : ReaderAt w g (c :: l) 0) (hl : (c :: l).length ≤ 140737488355328) (hp : EofIs w p) (hg : g ≠ 0) (hc : c ≠ 43) :
    Calls Tryz.prog 189 #[.iface 111 (.pointer (some ⟨g, 0, none⟩))] w
      (ReadPost w g (c :: l) (if c = 45 then 1 else 0) (.tuple #[.bool (c == 45), .nilIface])) := by
  have m1 := met_read g
  have hn : nextErr (c :: l) 0 p = .nilIface := if_pos (by simp)
  have m2 := met_unread g
  have hcb : ((c.toNat : Int) == 43) = false := by
    have : ¬ ((c.toNat : Int) = 43) := fun k => hc (UInt8.toNat_inj.1 (show c.toNat = 43 by omega))
    exact beq_eq_false_iff_ne.2 this
  by_cases h : c = 45
  · subst h
    rw [if_pos rfl]
    go_enter Tryz.func189, Tryz.ntmps189
    go_wp2_with fail
    refine (readByte_walk g _ 0 p _ hr hl hp hg (Nat.zero_le _)).mono ?_
    rw [hn]
    rintro e w1 ⟨rfl, hr1, hx1, hs1⟩
    go_wp2_with fail
    have e1 : min (0 + 1) (45 :: l).length = 1 := by simp
    rw [e1] at hr1
    exact bodyPost_ret (v := .tuple #[.bool true, .nilIface]) (by simp [results, Tryz.results189, go_sem]) rfl ⟨rfl, hr1, hx1, hs1⟩
  · have hcb2 : ((c.toNat : Int) == 45) = false := by
      have : ¬ ((c.toNat : Int) = 45) := fun k => h (UInt8.toNat_inj.1 (show c.toNat = 45 by omega))
      exact beq_eq_false_iff_ne.2 this
    have hcb3 : (c == 45) = false := beq_eq_false_iff_ne.2 h
    rw [if_neg h, hcb3]
    go_enter Tryz.func189, Tryz.ntmps189
    go_wp2_with fail
    refine (readByte_walk g _ 0 p _ hr hl hp hg (Nat.zero_le _)).mono ?_
    rw [hn]
    rintro e w1 ⟨rfl, hr1, hx1, hs1⟩
    go_wp2_with fail
    have e1 : min (0 + 1) (c :: l).length = 0 + 1 := by simp
    rw [e1] at hr1
    refine (unreadByte_walk g _ 0 _ hr1 hl (by simp)).mono ?_
    rintro e w2 ⟨rfl, hr2, hx2, hs2⟩
    go_wp2_with fail
    exact bodyPost_ret (v := .tuple #[.bool false, .nilIface]) (by simp [results, Tryz.results189, go_sem]) rfl ⟨rfl, hr2, hx1.trans hx2, hs2.trans hs1⟩
end Go.Proofs.YthipbglnaalhmaaGreatDoor
