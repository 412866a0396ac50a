/-
  No cell of these rows narrows 'for every input' (looked for: loops, veiled, ifaces, maps, wideKeys, modest, calm, conditions, laid).
  DERIVED. THE GIVEN ROWS OF THIS SEAT. 4 by the template 'for every input the law returns true; each argument reads behind the call as it read before'; 0 by the template 'total and deterministic' (their statements: YtfbaocoeiobolaaTotals.lean).
  GIVEN WITH THE SEED: the statements are not yours to turn. If you find one false, say at which input.
  Laid BY PROGRAM, IN A SANDBOX (cutbox-rows.mjs): the forced cells as the released guide's own fill.sh prints them over the translation 6d5ad8fbf239b611… (all of the seat's roots in one cut). By AI agents, Wed Nov 11 2026. No macro, syntax, notation, axiom, sorry.
-/
import Derived.Test.YtfbaocoeiobolaaChecked
import GoSem.Claim
import GoSem.ClaimJoined
import GoSem.ClaimMapViews
import Derived.JoinedTies
import Derived.KernelRfl
namespace Go.Proofs.Ytfbaocoeiobolaa
/- THE CELL 'sum', in the pinned program and in every row, IS THE sha256 OF THE DUMP (.gsa) THAT YtfbaocoeiobolaaProg.lean LOADS. Nothing in Lean hashes anything: it is a label: what it is worth is what the hold of that sum in a sandbox is worth. -/
noncomputable def Try.pinned : Pinned := { name := "ytfbaocoeiobolaa", sum := "6d5ad8fbf239b611dc139d4d0822a5f6a0648f6865c3d04b617b6e218fbc5102", checked := Try.checked }
namespace Rows
def none {H : Type} : Left H := { results := [], args := [] }

/-- 'laws.FnFormatBack': WHATEVER THE INPUT: true; the input reads as it did. -/
def fnFormatBackSpec : ChangeSpec := { name := "fnFormatBack", fn := fun _ => fun
  | [d1, d2] => { results := [.lit (.bool true)], args := [d1, d2] }
  | _ => none }
def fnFormatBackRow : OpenClaim := { program := "ytfbaocoeiobolaa", sum := "6d5ad8fbf239b611dc139d4d0822a5f6a0648f6865c3d04b617b6e218fbc5102", func := "pub-marlinspike/laws.FnFormatBack", spec := "fnFormatBack", inPlace := ["internal/abi.NoEscape", "internal/bytealg.MakeNoZero"], unfollowed := true, recurses := true, apart := false }
def FnFormatBackSaid : Prop := fnFormatBackRow.holds Try.pinned (OpenSpec.ofChange fnFormatBackSpec)

/-- ITS FALSE NEIGHBOUR: 'it returns false'. Refute it at one input. -/
def fnFormatBackWrong : ChangeSpec := { name := "fnFormatBack", fn := fun _ => fun
  | [d1, d2] => { results := [.lit (.bool false)], args := [d1, d2] }
  | _ => none }
def FnFormatBackWrongFalsely : Prop := fnFormatBackRow.holds Try.pinned (OpenSpec.ofChange fnFormatBackWrong)

/-- 'laws.FnFormatDec': WHATEVER THE INPUT: true; the input reads as it did. -/
def fnFormatDecSpec : ChangeSpec := { name := "fnFormatDec", fn := fun _ => fun
  | [d] => { results := [.lit (.bool true)], args := [d] }
  | _ => none }
def fnFormatDecRow : OpenClaim := { program := "ytfbaocoeiobolaa", sum := "6d5ad8fbf239b611dc139d4d0822a5f6a0648f6865c3d04b617b6e218fbc5102", func := "pub-marlinspike/laws.FnFormatDec", spec := "fnFormatDec", inPlace := ["internal/abi.NoEscape", "internal/bytealg.MakeNoZero"], unfollowed := true, recurses := true, apart := false }
def FnFormatDecSaid : Prop := fnFormatDecRow.holds Try.pinned (OpenSpec.ofChange fnFormatDecSpec)

/-- ITS FALSE NEIGHBOUR: 'it returns false'. Refute it at one input. -/
def fnFormatDecWrong : ChangeSpec := { name := "fnFormatDec", fn := fun _ => fun
  | [d] => { results := [.lit (.bool false)], args := [d] }
  | _ => none }
def FnFormatDecWrongFalsely : Prop := fnFormatDecRow.holds Try.pinned (OpenSpec.ofChange fnFormatDecWrong)

/-- 'laws.FnFormatInt': WHATEVER THE INPUT: true; the input reads as it did. -/
def fnFormatIntSpec : ChangeSpec := { name := "fnFormatInt", fn := fun _ => fun
  | [d] => { results := [.lit (.bool true)], args := [d] }
  | _ => none }
def fnFormatIntRow : OpenClaim := { program := "ytfbaocoeiobolaa", sum := "6d5ad8fbf239b611dc139d4d0822a5f6a0648f6865c3d04b617b6e218fbc5102", func := "pub-marlinspike/laws.FnFormatInt", spec := "fnFormatInt", inPlace := ["internal/abi.NoEscape", "internal/bytealg.MakeNoZero"], unfollowed := true, recurses := true, apart := false }
def FnFormatIntSaid : Prop := fnFormatIntRow.holds Try.pinned (OpenSpec.ofChange fnFormatIntSpec)

/-- ITS FALSE NEIGHBOUR: 'it returns false'. Refute it at one input. -/
def fnFormatIntWrong : ChangeSpec := { name := "fnFormatInt", fn := fun _ => fun
  | [d] => { results := [.lit (.bool false)], args := [d] }
  | _ => none }
def FnFormatIntWrongFalsely : Prop := fnFormatIntRow.holds Try.pinned (OpenSpec.ofChange fnFormatIntWrong)

/-- 'laws.FnMaxMin': WHATEVER THE INPUT: true; the input reads as it did. -/
def fnMaxMinSpec : ChangeSpec := { name := "fnMaxMin", fn := fun _ => fun
  | [d1, d2] => { results := [.lit (.bool true)], args := [d1, d2] }
  | _ => none }
def fnMaxMinRow : OpenClaim := { program := "ytfbaocoeiobolaa", sum := "6d5ad8fbf239b611dc139d4d0822a5f6a0648f6865c3d04b617b6e218fbc5102", func := "pub-marlinspike/laws.FnMaxMin", spec := "fnMaxMin", inPlace := ["internal/abi.NoEscape", "internal/bytealg.MakeNoZero"], unfollowed := true, recurses := true, apart := false }
def FnMaxMinSaid : Prop := fnMaxMinRow.holds Try.pinned (OpenSpec.ofChange fnMaxMinSpec)

/-- ITS FALSE NEIGHBOUR: 'it returns false'. Refute it at one input. -/
def fnMaxMinWrong : ChangeSpec := { name := "fnMaxMin", fn := fun _ => fun
  | [d1, d2] => { results := [.lit (.bool false)], args := [d1, d2] }
  | _ => none }
def FnMaxMinWrongFalsely : Prop := fnMaxMinRow.holds Try.pinned (OpenSpec.ofChange fnMaxMinWrong)

/- THE SECOND FORM. 'bulk': how many values and letters a reading holds, each counted each time it is reached (what is shared counts as often as it is met; a slice's spare places count too). A statement '..UptoSaid' is the law's where the arguments, and the package variables that the reading takes, are together of bulk at most 1048576: NARROWER than '..Said'. Prove '..Said' where nothing that the law and all that it calls make is longer than what came in: it says more and counts as full. Else prove '..UptoSaid'. A law counts once. -/
mutual
def uptoBulk {H : Type} : DataW H → Nat
  | .lit (.string bytes) => bytes.length + 1
  | .lit _ => 1
  | .nil => 1
  | .ptr d => uptoBulk d + 1
  | .slice elems spare => uptoBulkAll elems + uptoBulkAll spare + 1
  | .agg parts => uptoBulkAll parts + 1
  | .iface _ d => uptoBulk d + 1
  | .map entries => uptoBulkEntries entries + 1
  | .held _ => 1
def uptoBulkAll {H : Type} : List (DataW H) → Nat
  | [] => 0
  | d :: r => uptoBulk d + uptoBulkAll r
def uptoBulkEntries {H : Type} : List (Lit × DataW H) → Nat
  | [] => 0
  | x :: r => uptoBulkEntry x + uptoBulkEntries r
def uptoBulkEntry {H : Type} : Lit × DataW H → Nat
  | (.string bytes, d) => bytes.length + uptoBulk d + 1
  | (_, d) => uptoBulk d + 1
 end
def uptoSmall : (H : Type) → List (DataW H) → Bool := fun _ ds => decide (uptoBulkAll ds ≤ 1048576)
def OpenSpec.upto (s : _root_.Go.ChangeSpec) : _root_.Go.OpenSpec := { _root_.Go.OpenSpec.ofChange s with cond := some uptoSmall }

/-- 'laws.FnFormatBack', WHERE WHAT IT READS IS OF BULK AT MOST 1048576: true; the input reads as it did. -/
def fnFormatBackUptoRow : OpenClaim := { program := "ytfbaocoeiobolaa", sum := "6d5ad8fbf239b611dc139d4d0822a5f6a0648f6865c3d04b617b6e218fbc5102", func := "pub-marlinspike/laws.FnFormatBack", spec := "fnFormatBack", inPlace := ["internal/abi.NoEscape", "internal/bytealg.MakeNoZero"], unfollowed := true, recurses := true, apart := false, narrowed := true }
def FnFormatBackUptoSaid : Prop := fnFormatBackUptoRow.holds Try.pinned (OpenSpec.upto fnFormatBackSpec)

/-- 'laws.FnFormatDec', WHERE WHAT IT READS IS OF BULK AT MOST 1048576: true; the input reads as it did. -/
def fnFormatDecUptoRow : OpenClaim := { program := "ytfbaocoeiobolaa", sum := "6d5ad8fbf239b611dc139d4d0822a5f6a0648f6865c3d04b617b6e218fbc5102", func := "pub-marlinspike/laws.FnFormatDec", spec := "fnFormatDec", inPlace := ["internal/abi.NoEscape", "internal/bytealg.MakeNoZero"], unfollowed := true, recurses := true, apart := false, narrowed := true }
def FnFormatDecUptoSaid : Prop := fnFormatDecUptoRow.holds Try.pinned (OpenSpec.upto fnFormatDecSpec)

/-- 'laws.FnFormatInt', WHERE WHAT IT READS IS OF BULK AT MOST 1048576: true; the input reads as it did. -/
def fnFormatIntUptoRow : OpenClaim := { program := "ytfbaocoeiobolaa", sum := "6d5ad8fbf239b611dc139d4d0822a5f6a0648f6865c3d04b617b6e218fbc5102", func := "pub-marlinspike/laws.FnFormatInt", spec := "fnFormatInt", inPlace := ["internal/abi.NoEscape", "internal/bytealg.MakeNoZero"], unfollowed := true, recurses := true, apart := false, narrowed := true }
def FnFormatIntUptoSaid : Prop := fnFormatIntUptoRow.holds Try.pinned (OpenSpec.upto fnFormatIntSpec)

/-- 'laws.FnMaxMin', WHERE WHAT IT READS IS OF BULK AT MOST 1048576: true; the input reads as it did. -/
def fnMaxMinUptoRow : OpenClaim := { program := "ytfbaocoeiobolaa", sum := "6d5ad8fbf239b611dc139d4d0822a5f6a0648f6865c3d04b617b6e218fbc5102", func := "pub-marlinspike/laws.FnMaxMin", spec := "fnMaxMin", inPlace := ["internal/abi.NoEscape", "internal/bytealg.MakeNoZero"], unfollowed := true, recurses := true, apart := false, narrowed := true }
def FnMaxMinUptoSaid : Prop := fnMaxMinUptoRow.holds Try.pinned (OpenSpec.upto fnMaxMinSpec)

end Rows
end Go.Proofs.Ytfbaocoeiobolaa
