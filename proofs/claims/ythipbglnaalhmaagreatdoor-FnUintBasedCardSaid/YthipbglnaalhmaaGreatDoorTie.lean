/-
  DERIVED. GIVEN WITH THE SEED: THE PROGRAM's TIES (one call each: nine closed facts by the kernel) AND EACH ROW's TIE, after the 31st guide's Derived/Test/Toyas{Tie, Card}.lean. No idea stands in it: it is a product of the set-up. Laid BY PROGRAM, IN A SANDBOX (cutbox-door.mjs). By AI agents, Wed Nov 11 2026. No macro, syntax, notation, axiom, sorry.
-/
import Derived.Test.YthipbglnaalhmaaGreatDoorRows
import Derived.LaidByTextLater
import Derived.SevenTiedAt
import Derived.LaidSub
import Derived.LaidOnce
namespace Go.Proofs.YthipbglnaalhmaaGreatDoor
open Go
set_option maxRecDepth 100000
theorem seatTie1 : Tryz.prog.laidByTextLater [("math/bits.deBruijn32tab", Rows.laid_math_bits_deBruijn32tab), ("math/bits.deBruijn64tab", Rows.laid_math_bits_deBruijn64tab), ("io.EOF", Rows.laid_io_EOF), ("pub-marlinspike/pub/bigall.errNoDigits", Rows.laid_pub_marlinspike_pub_bigall_errNoDigits), ("pub-marlinspike/pub/bigall.errInvalSep", Rows.laid_pub_marlinspike_pub_bigall_errInvalSep), ("pub-marlinspike/pub/bigall.leafSize", Rows.laid_pub_marlinspike_pub_bigall_leafSize), ("pub-marlinspike/pub/bigall.divRecursiveThreshold", Rows.laid_pub_marlinspike_pub_bigall_divRecursiveThreshold), ("pub-marlinspike/pub/bigall.karatsubaThreshold", Rows.laid_pub_marlinspike_pub_bigall_karatsubaThreshold), ("pub-marlinspike/pub/bigall.basicSqrThreshold", Rows.laid_pub_marlinspike_pub_bigall_basicSqrThreshold), ("pub-marlinspike/pub/bigall.karatsubaSqrThreshold", Rows.laid_pub_marlinspike_pub_bigall_karatsubaSqrThreshold), ("pub-marlinspike/pub/cosmosmath.ErrIntOverflow", Rows.laid_pub_marlinspike_pub_cosmosmath_ErrIntOverflow), ("pub-marlinspike/pub/cosmosmath.ErrDivideByZero", Rows.laid_pub_marlinspike_pub_cosmosmath_ErrDivideByZero)] [.data, .data, .sentinel, .sentinel, .sentinel, .data, .data, .data, .data, .data, .sentinel, .sentinel] true :=
  Program.laidByTextLater_by_one 134 8 65 (by kernel_rfl) (by kernel_rfl) (by kernel_rfl) (by kernel_rfl) (by kernel_rfl) (by kernel_rfl) (fun _ _ => by kernel_rfl)
theorem noOwnUnsafe : Tryz.pinned.checked.prog.headLifts.contains "ownunsafe" = false := by kernel_rfl
theorem tie : Tryz.prog.laidByTextLater [("math/bits.deBruijn32tab", Rows.laid_math_bits_deBruijn32tab), ("math/bits.deBruijn64tab", Rows.laid_math_bits_deBruijn64tab), ("io.EOF", Rows.laid_io_EOF), ("pub-marlinspike/pub/bigall.errNoDigits", Rows.laid_pub_marlinspike_pub_bigall_errNoDigits), ("pub-marlinspike/pub/bigall.errInvalSep", Rows.laid_pub_marlinspike_pub_bigall_errInvalSep), ("pub-marlinspike/pub/bigall.leafSize", Rows.laid_pub_marlinspike_pub_bigall_leafSize), ("pub-marlinspike/pub/bigall.divRecursiveThreshold", Rows.laid_pub_marlinspike_pub_bigall_divRecursiveThreshold), ("pub-marlinspike/pub/bigall.karatsubaThreshold", Rows.laid_pub_marlinspike_pub_bigall_karatsubaThreshold), ("pub-marlinspike/pub/bigall.basicSqrThreshold", Rows.laid_pub_marlinspike_pub_bigall_basicSqrThreshold), ("pub-marlinspike/pub/bigall.karatsubaSqrThreshold", Rows.laid_pub_marlinspike_pub_bigall_karatsubaSqrThreshold)] [.data, .data, .sentinel, .sentinel, .sentinel, .data, .data, .data, .data, .data] true :=
  Program.laidByTextLater.sub seatTie1 ["math/bits.deBruijn32tab", "math/bits.deBruijn64tab", "io.EOF", "pub-marlinspike/pub/bigall.errNoDigits", "pub-marlinspike/pub/bigall.errInvalSep", "pub-marlinspike/pub/bigall.leafSize", "pub-marlinspike/pub/bigall.divRecursiveThreshold", "pub-marlinspike/pub/bigall.karatsubaThreshold", "pub-marlinspike/pub/bigall.basicSqrThreshold", "pub-marlinspike/pub/bigall.karatsubaSqrThreshold"] (by kernel_rfl) (by kernel_rfl)
theorem fnUintBased_row_tie : Rows.fnUintBasedRow.laidByTextAt .later Tryz.pinned [.data, .data, .sentinel, .sentinel, .sentinel, .data, .data, .data, .data, .data] true :=
  OpenClaim.laidByTextAt_later rfl rfl tie noOwnUnsafe
theorem fnUintRead_row_tie : Rows.fnUintReadRow.laidByTextAt .later Tryz.pinned [.data, .data, .sentinel, .sentinel, .sentinel, .data, .data, .data, .data, .data] true :=
  OpenClaim.laidByTextAt_later rfl rfl tie noOwnUnsafe
theorem fnUintSteps_row_tie : Rows.fnUintStepsRow.laidByTextAt .later Tryz.pinned [.data, .data, .sentinel, .sentinel, .sentinel, .data, .data, .data, .data, .data] true :=
  OpenClaim.laidByTextAt_later rfl rfl tie noOwnUnsafe
theorem fnUintAbout_row_tie : Rows.fnUintAboutRow.laidByTextAt .later Tryz.pinned [.data, .data, .sentinel, .sentinel, .sentinel, .data, .data, .data, .data, .data] true :=
  OpenClaim.laidByTextAt_later rfl rfl tie noOwnUnsafe
theorem fnUintMost_row_tie : Rows.fnUintMostRow.laidByTextAt .later Tryz.pinned [.data, .data, .sentinel, .sentinel, .sentinel, .data, .data, .data, .data, .data] true :=
  OpenClaim.laidByTextAt_later rfl rfl tie noOwnUnsafe
theorem tie2 : Tryz.prog.laidByTextLater [("math/bits.deBruijn32tab", Rows.laid_math_bits_deBruijn32tab), ("math/bits.deBruijn64tab", Rows.laid_math_bits_deBruijn64tab), ("io.EOF", Rows.laid_io_EOF), ("pub-marlinspike/pub/bigall.errNoDigits", Rows.laid_pub_marlinspike_pub_bigall_errNoDigits), ("pub-marlinspike/pub/bigall.errInvalSep", Rows.laid_pub_marlinspike_pub_bigall_errInvalSep), ("pub-marlinspike/pub/bigall.leafSize", Rows.laid_pub_marlinspike_pub_bigall_leafSize), ("pub-marlinspike/pub/bigall.divRecursiveThreshold", Rows.laid_pub_marlinspike_pub_bigall_divRecursiveThreshold), ("pub-marlinspike/pub/bigall.karatsubaThreshold", Rows.laid_pub_marlinspike_pub_bigall_karatsubaThreshold), ("pub-marlinspike/pub/bigall.basicSqrThreshold", Rows.laid_pub_marlinspike_pub_bigall_basicSqrThreshold), ("pub-marlinspike/pub/bigall.karatsubaSqrThreshold", Rows.laid_pub_marlinspike_pub_bigall_karatsubaSqrThreshold), ("pub-marlinspike/pub/cosmosmath.ErrIntOverflow", Rows.laid_pub_marlinspike_pub_cosmosmath_ErrIntOverflow), ("pub-marlinspike/pub/cosmosmath.ErrDivideByZero", Rows.laid_pub_marlinspike_pub_cosmosmath_ErrDivideByZero)] [.data, .data, .sentinel, .sentinel, .sentinel, .data, .data, .data, .data, .data, .sentinel, .sentinel] true :=
  Program.laidByTextLater.sub seatTie1 ["math/bits.deBruijn32tab", "math/bits.deBruijn64tab", "io.EOF", "pub-marlinspike/pub/bigall.errNoDigits", "pub-marlinspike/pub/bigall.errInvalSep", "pub-marlinspike/pub/bigall.leafSize", "pub-marlinspike/pub/bigall.divRecursiveThreshold", "pub-marlinspike/pub/bigall.karatsubaThreshold", "pub-marlinspike/pub/bigall.basicSqrThreshold", "pub-marlinspike/pub/bigall.karatsubaSqrThreshold", "pub-marlinspike/pub/cosmosmath.ErrIntOverflow", "pub-marlinspike/pub/cosmosmath.ErrDivideByZero"] (by kernel_rfl) (by kernel_rfl)
theorem fnIntRead_row_tie : Rows.fnIntReadRow.laidByTextAt .later Tryz.pinned [.data, .data, .sentinel, .sentinel, .sentinel, .data, .data, .data, .data, .data, .sentinel, .sentinel] true :=
  OpenClaim.laidByTextAt_later rfl rfl tie2 noOwnUnsafe
theorem fnIntTurned_row_tie : Rows.fnIntTurnedRow.laidByTextAt .later Tryz.pinned [.data, .data, .sentinel, .sentinel, .sentinel, .data, .data, .data, .data, .data, .sentinel, .sentinel] true :=
  OpenClaim.laidByTextAt_later rfl rfl tie2 noOwnUnsafe
theorem fnIntAbout_row_tie : Rows.fnIntAboutRow.laidByTextAt .later Tryz.pinned [.data, .data, .sentinel, .sentinel, .sentinel, .data, .data, .data, .data, .data, .sentinel, .sentinel] true :=
  OpenClaim.laidByTextAt_later rfl rfl tie2 noOwnUnsafe
theorem fnUintBasedUpto_row_tie : Rows.fnUintBasedUptoRow.laidByTextAt .later Tryz.pinned [.data, .data, .sentinel, .sentinel, .sentinel, .data, .data, .data, .data, .data] true :=
  OpenClaim.laidByTextAt_later rfl rfl tie noOwnUnsafe
theorem fnUintReadUpto_row_tie : Rows.fnUintReadUptoRow.laidByTextAt .later Tryz.pinned [.data, .data, .sentinel, .sentinel, .sentinel, .data, .data, .data, .data, .data] true :=
  OpenClaim.laidByTextAt_later rfl rfl tie noOwnUnsafe
theorem fnUintStepsUpto_row_tie : Rows.fnUintStepsUptoRow.laidByTextAt .later Tryz.pinned [.data, .data, .sentinel, .sentinel, .sentinel, .data, .data, .data, .data, .data] true :=
  OpenClaim.laidByTextAt_later rfl rfl tie noOwnUnsafe
theorem fnUintAboutUpto_row_tie : Rows.fnUintAboutUptoRow.laidByTextAt .later Tryz.pinned [.data, .data, .sentinel, .sentinel, .sentinel, .data, .data, .data, .data, .data] true :=
  OpenClaim.laidByTextAt_later rfl rfl tie noOwnUnsafe
theorem fnIntReadUpto_row_tie : Rows.fnIntReadUptoRow.laidByTextAt .later Tryz.pinned [.data, .data, .sentinel, .sentinel, .sentinel, .data, .data, .data, .data, .data, .sentinel, .sentinel] true :=
  OpenClaim.laidByTextAt_later rfl rfl tie2 noOwnUnsafe
theorem fnIntTurnedUpto_row_tie : Rows.fnIntTurnedUptoRow.laidByTextAt .later Tryz.pinned [.data, .data, .sentinel, .sentinel, .sentinel, .data, .data, .data, .data, .data, .sentinel, .sentinel] true :=
  OpenClaim.laidByTextAt_later rfl rfl tie2 noOwnUnsafe
theorem fnIntAboutUpto_row_tie : Rows.fnIntAboutUptoRow.laidByTextAt .later Tryz.pinned [.data, .data, .sentinel, .sentinel, .sentinel, .data, .data, .data, .data, .data, .sentinel, .sentinel] true :=
  OpenClaim.laidByTextAt_later rfl rfl tie2 noOwnUnsafe
theorem fnUintMostUpto_row_tie : Rows.fnUintMostUptoRow.laidByTextAt .later Tryz.pinned [.data, .data, .sentinel, .sentinel, .sentinel, .data, .data, .data, .data, .data] true :=
  OpenClaim.laidByTextAt_later rfl rfl tie noOwnUnsafe
end Go.Proofs.YthipbglnaalhmaaGreatDoor
