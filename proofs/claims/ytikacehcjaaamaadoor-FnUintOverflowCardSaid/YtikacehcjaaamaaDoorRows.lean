/-
  NARROWER THAN 'FOR EVERY INPUT', by the rows' own cells (each row's printed sentence says how): FnUintOverflow: laid.
  DERIVED. THE GIVEN ROWS OF THIS SEAT. 1 by the template 'for every input the law returns true; each argument reads behind the call as it read before'; 0 by the template 'total and deterministic' (their statements: YtikacehcjaaamaaDoorTotals.lean).
  GIVEN WITH THE SEED: the statements are not yours to turn. If you find one false, say at which input.
  Laid BY PROGRAM, IN A SANDBOX (cutbox-rows.mjs): the forced cells as the released guide's own fill.sh prints them over the translation 3f31949015d186b9… (all of the seat's roots in one cut). By AI agents, Wed Nov 11 2026. No macro, syntax, notation, axiom, sorry.
-/
import Derived.Test.YtikacehcjaaamaaDoorChecked
import GoSem.Claim
import GoSem.ClaimJoined
import GoSem.ClaimMapViews
import Derived.JoinedTies
import Derived.KernelRfl
namespace Go.Proofs.YtikacehcjaaamaaDoor
/- THE CELL 'sum', in the pinned program and in every row, IS THE sha256 OF THE DUMP (.gsa) THAT YtikacehcjaaamaaDoorProg.lean LOADS. Nothing in Lean hashes anything: it is a label: what it is worth is what the hold of that sum in a sandbox is worth. -/
noncomputable def Tryd.pinned : Pinned := { name := "ytikacehcjaaamaadoor", sum := "3f31949015d186b97a25eed49af9ad34ad959dff53e73757eefa393f8d8d0ba8", checked := Tryd.checked }
namespace Rows
def none {H : Type} : Left H := { results := [], args := [] }

/- WHAT THE LISTED PACKAGE-LEVEL VARIABLES READ AS WHEN THE CALL BEGINS. Each datum BY PROGRAM (the guide's laid-datum.mjs) off the statement by which the dump's own 'gosem.cut.vars' lays the variable. In a bare row this is a premise. The card (YtikacehcjaaamaaDoorCards.lean) ties it to the program's text. -/
def laid_io_EOF {H : Type} : DataW H := .iface "*errors.errorString" (.ptr (.agg [.lit (.string [69, 79, 70])]))
def laid_pub_marlinspike_pub_bigall_errNoDigits {H : Type} : DataW H := .iface "*errors.errorString" (.ptr (.agg [.lit (.string [110, 117, 109, 98, 101, 114, 32, 104, 97, 115, 32, 110, 111, 32, 100, 105, 103, 105, 116, 115])]))
def laid_pub_marlinspike_pub_bigall_errInvalSep {H : Type} : DataW H := .iface "*errors.errorString" (.ptr (.agg [.lit (.string [39, 95, 39, 32, 109, 117, 115, 116, 32, 115, 101, 112, 97, 114, 97, 116, 101, 32, 115, 117, 99, 99, 101, 115, 115, 105, 118, 101, 32, 100, 105, 103, 105, 116, 115])]))

/-- 'laws.FnUintOverflow': WHATEVER THE INPUT: true; the input reads as it did. -/
def fnUintOverflowSpec : ChangeSpec := { name := "fnUintOverflow", fn := fun _ => fun
  | [d] => { results := [.lit (.bool true)], args := [d] }
  | _ => none }
def fnUintOverflowRow : OpenClaim := { program := "ytikacehcjaaamaadoor", sum := "3f31949015d186b97a25eed49af9ad34ad959dff53e73757eefa393f8d8d0ba8", func := "pub-marlinspike/laws.FnUintOverflow", spec := "fnUintOverflow", inPlace := ["internal/abi.NoEscape", "internal/bytealg.MakeNoZero", "math/bits.Add64"], unfollowed := true, recurses := true, named := ["io.EOF", "pub-marlinspike/pub/bigall.errInvalSep", "pub-marlinspike/pub/bigall.errNoDigits"], apart := false, laid := [("io.EOF", laid_io_EOF), ("pub-marlinspike/pub/bigall.errNoDigits", laid_pub_marlinspike_pub_bigall_errNoDigits), ("pub-marlinspike/pub/bigall.errInvalSep", laid_pub_marlinspike_pub_bigall_errInvalSep)] }
def FnUintOverflowSaid : Prop := fnUintOverflowRow.holds Tryd.pinned (OpenSpec.ofChange fnUintOverflowSpec)

/-- ITS FALSE NEIGHBOUR: 'it returns false'. Refute it at one input. -/
def fnUintOverflowWrong : ChangeSpec := { name := "fnUintOverflow", fn := fun _ => fun
  | [d] => { results := [.lit (.bool false)], args := [d] }
  | _ => none }
def FnUintOverflowWrongFalsely : Prop := fnUintOverflowRow.holds Tryd.pinned (OpenSpec.ofChange fnUintOverflowWrong)

/- THE SECOND FORM. 'bulk': how many values and letters a reading holds, each counted each time it is reached (what is shared counts as often as it is met; a slice's spare places count too). A statement '..UptoSaid' is the law's where the arguments, and the package variables that the reading takes, are together of bulk at most 1048576: NARROWER than '..Said'. Prove '..Said' where nothing that the law and all that it calls make is longer than what came in: it says more and counts as full. Else prove '..UptoSaid'. A law counts once. -/
mutual
def uptoBulk {H : Type} : DataW H → Nat
  | .lit (.string bytes) => bytes.length + 1
  | .lit _ => 1
  | .nil => 1
  | .ptr d => uptoBulk d + 1
  | .slice elems spare => uptoBulkAll elems + uptoBulkAll spare + 1
  | .agg parts => uptoBulkAll parts + 1
  | .iface _ d => uptoBulk d + 1
  | .map entries => uptoBulkEntries entries + 1
  | .held _ => 1
def uptoBulkAll {H : Type} : List (DataW H) → Nat
  | [] => 0
  | d :: r => uptoBulk d + uptoBulkAll r
def uptoBulkEntries {H : Type} : List (Lit × DataW H) → Nat
  | [] => 0
  | x :: r => uptoBulkEntry x + uptoBulkEntries r
def uptoBulkEntry {H : Type} : Lit × DataW H → Nat
  | (.string bytes, d) => bytes.length + uptoBulk d + 1
  | (_, d) => uptoBulk d + 1
 end
def uptoSmall : (H : Type) → List (DataW H) → Bool := fun _ ds => decide (uptoBulkAll ds ≤ 1048576)
def OpenSpec.upto (s : _root_.Go.ChangeSpec) : _root_.Go.OpenSpec := { _root_.Go.OpenSpec.ofChange s with cond := some uptoSmall }

/-- 'laws.FnUintOverflow', WHERE WHAT IT READS IS OF BULK AT MOST 1048576: true; the input reads as it did. -/
def fnUintOverflowUptoRow : OpenClaim := { program := "ytikacehcjaaamaadoor", sum := "3f31949015d186b97a25eed49af9ad34ad959dff53e73757eefa393f8d8d0ba8", func := "pub-marlinspike/laws.FnUintOverflow", spec := "fnUintOverflow", inPlace := ["internal/abi.NoEscape", "internal/bytealg.MakeNoZero", "math/bits.Add64"], unfollowed := true, recurses := true, named := ["io.EOF", "pub-marlinspike/pub/bigall.errInvalSep", "pub-marlinspike/pub/bigall.errNoDigits"], apart := false, laid := [("io.EOF", laid_io_EOF), ("pub-marlinspike/pub/bigall.errNoDigits", laid_pub_marlinspike_pub_bigall_errNoDigits), ("pub-marlinspike/pub/bigall.errInvalSep", laid_pub_marlinspike_pub_bigall_errInvalSep)], narrowed := true }
def FnUintOverflowUptoSaid : Prop := fnUintOverflowUptoRow.holds Tryd.pinned (OpenSpec.upto fnUintOverflowSpec)

end Rows
end Go.Proofs.YtikacehcjaaamaaDoor
