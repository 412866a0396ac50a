/-
  DERIVED. GIVEN WITH THE SEED: THE PROGRAM's TIES (one call each: nine closed facts by the kernel) AND EACH ROW's TIE, after the 31st guide's Derived/Test/Toyas{Tie, Card}.lean. No idea stands in it: it is a product of the set-up. Laid BY PROGRAM, IN A SANDBOX (cutbox-door.mjs). By AI agents, Wed Nov 11 2026. No macro, syntax, notation, axiom, sorry.
-/
import Derived.Test.YtiohlcfdoleooaaGreatDoorRows
import Derived.LaidByTextLater
import Derived.SevenTiedAt
import Derived.LaidSub
import Derived.LaidOnce
namespace Go.Proofs.YtiohlcfdoleooaaGreatDoor
open Go
set_option maxRecDepth 100000
theorem seatTie1 : Tryz.prog.laidByTextLater [("math/bits.deBruijn32tab", Rows.laid_math_bits_deBruijn32tab), ("math/bits.deBruijn64tab", Rows.laid_math_bits_deBruijn64tab), ("io.EOF", Rows.laid_io_EOF), ("pub-marlinspike/pub/bigall.errNoDigits", Rows.laid_pub_marlinspike_pub_bigall_errNoDigits), ("pub-marlinspike/pub/bigall.errInvalSep", Rows.laid_pub_marlinspike_pub_bigall_errInvalSep), ("pub-marlinspike/pub/bigall.leafSize", Rows.laid_pub_marlinspike_pub_bigall_leafSize), ("pub-marlinspike/pub/bigall.divRecursiveThreshold", Rows.laid_pub_marlinspike_pub_bigall_divRecursiveThreshold), ("pub-marlinspike/pub/bigall.karatsubaThreshold", Rows.laid_pub_marlinspike_pub_bigall_karatsubaThreshold), ("pub-marlinspike/pub/bigall.basicSqrThreshold", Rows.laid_pub_marlinspike_pub_bigall_basicSqrThreshold), ("pub-marlinspike/pub/bigall.karatsubaSqrThreshold", Rows.laid_pub_marlinspike_pub_bigall_karatsubaSqrThreshold), ("pub-marlinspike/pub/cosmosmath.ErrIntOverflow", Rows.laid_pub_marlinspike_pub_cosmosmath_ErrIntOverflow), ("pub-marlinspike/pub/cosmosmath.ErrDivideByZero", Rows.laid_pub_marlinspike_pub_cosmosmath_ErrDivideByZero)] [.data, .data, .sentinel, .sentinel, .sentinel, .data, .data, .data, .data, .data, .sentinel, .sentinel] true :=
  Program.laidByTextLater_by_one 134 8 65 (by kernel_rfl) (by kernel_rfl) (by kernel_rfl) (by kernel_rfl) (by kernel_rfl) (by kernel_rfl) (fun _ _ => by kernel_rfl)
theorem noOwnUnsafe : Tryz.pinned.checked.prog.headLifts.contains "ownunsafe" = false := by kernel_rfl
theorem tie : Tryz.prog.laidByTextLater [("math/bits.deBruijn32tab", Rows.laid_math_bits_deBruijn32tab), ("math/bits.deBruijn64tab", Rows.laid_math_bits_deBruijn64tab), ("io.EOF", Rows.laid_io_EOF), ("pub-marlinspike/pub/bigall.errNoDigits", Rows.laid_pub_marlinspike_pub_bigall_errNoDigits), ("pub-marlinspike/pub/bigall.errInvalSep", Rows.laid_pub_marlinspike_pub_bigall_errInvalSep), ("pub-marlinspike/pub/bigall.leafSize", Rows.laid_pub_marlinspike_pub_bigall_leafSize), ("pub-marlinspike/pub/bigall.divRecursiveThreshold", Rows.laid_pub_marlinspike_pub_bigall_divRecursiveThreshold), ("pub-marlinspike/pub/bigall.karatsubaThreshold", Rows.laid_pub_marlinspike_pub_bigall_karatsubaThreshold), ("pub-marlinspike/pub/bigall.basicSqrThreshold", Rows.laid_pub_marlinspike_pub_bigall_basicSqrThreshold), ("pub-marlinspike/pub/bigall.karatsubaSqrThreshold", Rows.laid_pub_marlinspike_pub_bigall_karatsubaSqrThreshold)] [.data, .data, .sentinel, .sentinel, .sentinel, .data, .data, .data, .data, .data] true :=
  Program.laidByTextLater.sub seatTie1 ["math/bits.deBruijn32tab", "math/bits.deBruijn64tab", "io.EOF", "pub-marlinspike/pub/bigall.errNoDigits", "pub-marlinspike/pub/bigall.errInvalSep", "pub-marlinspike/pub/bigall.leafSize", "pub-marlinspike/pub/bigall.divRecursiveThreshold", "pub-marlinspike/pub/bigall.karatsubaThreshold", "pub-marlinspike/pub/bigall.basicSqrThreshold", "pub-marlinspike/pub/bigall.karatsubaSqrThreshold"] (by kernel_rfl) (by kernel_rfl)
theorem fnUintBytes_row_tie : Rows.fnUintBytesRow.laidByTextAt .later Tryz.pinned [.data, .data, .sentinel, .sentinel, .sentinel, .data, .data, .data, .data, .data] true :=
  OpenClaim.laidByTextAt_later rfl rfl tie noOwnUnsafe
theorem fnUintAlgebra_row_tie : Rows.fnUintAlgebraRow.laidByTextAt .later Tryz.pinned [.data, .data, .sentinel, .sentinel, .sentinel, .data, .data, .data, .data, .data] true :=
  OpenClaim.laidByTextAt_later rfl rfl tie noOwnUnsafe
theorem fnUintDo_row_tie : Rows.fnUintDoRow.laidByTextAt .later Tryz.pinned [.data, .data, .sentinel, .sentinel, .sentinel, .data, .data, .data, .data, .data] true :=
  OpenClaim.laidByTextAt_later rfl rfl tie noOwnUnsafe
theorem fnUintRaw_row_tie : Rows.fnUintRawRow.laidByTextAt .later Tryz.pinned [.data, .data, .sentinel, .sentinel, .sentinel, .data, .data, .data, .data, .data] true :=
  OpenClaim.laidByTextAt_later rfl rfl tie noOwnUnsafe
theorem fnUintPow_row_tie : Rows.fnUintPowRow.laidByTextAt .later Tryz.pinned [.data, .data, .sentinel, .sentinel, .sentinel, .data, .data, .data, .data, .data] true :=
  OpenClaim.laidByTextAt_later rfl rfl tie noOwnUnsafe
theorem tie2 : Tryz.prog.laidByTextLater [("math/bits.deBruijn32tab", Rows.laid_math_bits_deBruijn32tab), ("math/bits.deBruijn64tab", Rows.laid_math_bits_deBruijn64tab), ("io.EOF", Rows.laid_io_EOF), ("pub-marlinspike/pub/bigall.errNoDigits", Rows.laid_pub_marlinspike_pub_bigall_errNoDigits), ("pub-marlinspike/pub/bigall.errInvalSep", Rows.laid_pub_marlinspike_pub_bigall_errInvalSep), ("pub-marlinspike/pub/bigall.leafSize", Rows.laid_pub_marlinspike_pub_bigall_leafSize), ("pub-marlinspike/pub/bigall.divRecursiveThreshold", Rows.laid_pub_marlinspike_pub_bigall_divRecursiveThreshold), ("pub-marlinspike/pub/bigall.karatsubaThreshold", Rows.laid_pub_marlinspike_pub_bigall_karatsubaThreshold), ("pub-marlinspike/pub/bigall.basicSqrThreshold", Rows.laid_pub_marlinspike_pub_bigall_basicSqrThreshold), ("pub-marlinspike/pub/bigall.karatsubaSqrThreshold", Rows.laid_pub_marlinspike_pub_bigall_karatsubaSqrThreshold), ("pub-marlinspike/pub/cosmosmath.ErrIntOverflow", Rows.laid_pub_marlinspike_pub_cosmosmath_ErrIntOverflow), ("pub-marlinspike/pub/cosmosmath.ErrDivideByZero", Rows.laid_pub_marlinspike_pub_cosmosmath_ErrDivideByZero)] [.data, .data, .sentinel, .sentinel, .sentinel, .data, .data, .data, .data, .data, .sentinel, .sentinel] true :=
  Program.laidByTextLater.sub seatTie1 ["math/bits.deBruijn32tab", "math/bits.deBruijn64tab", "io.EOF", "pub-marlinspike/pub/bigall.errNoDigits", "pub-marlinspike/pub/bigall.errInvalSep", "pub-marlinspike/pub/bigall.leafSize", "pub-marlinspike/pub/bigall.divRecursiveThreshold", "pub-marlinspike/pub/bigall.karatsubaThreshold", "pub-marlinspike/pub/bigall.basicSqrThreshold", "pub-marlinspike/pub/bigall.karatsubaSqrThreshold", "pub-marlinspike/pub/cosmosmath.ErrIntOverflow", "pub-marlinspike/pub/cosmosmath.ErrDivideByZero"] (by kernel_rfl) (by kernel_rfl)
theorem fnIntBytes_row_tie : Rows.fnIntBytesRow.laidByTextAt .later Tryz.pinned [.data, .data, .sentinel, .sentinel, .sentinel, .data, .data, .data, .data, .data, .sentinel, .sentinel] true :=
  OpenClaim.laidByTextAt_later rfl rfl tie2 noOwnUnsafe
theorem fnIntDo_row_tie : Rows.fnIntDoRow.laidByTextAt .later Tryz.pinned [.data, .data, .sentinel, .sentinel, .sentinel, .data, .data, .data, .data, .data, .sentinel, .sentinel] true :=
  OpenClaim.laidByTextAt_later rfl rfl tie2 noOwnUnsafe
theorem fnIntRing_row_tie : Rows.fnIntRingRow.laidByTextAt .later Tryz.pinned [.data, .data, .sentinel, .sentinel, .sentinel, .data, .data, .data, .data, .data, .sentinel, .sentinel] true :=
  OpenClaim.laidByTextAt_later rfl rfl tie2 noOwnUnsafe
theorem fnIntSafe_row_tie : Rows.fnIntSafeRow.laidByTextAt .later Tryz.pinned [.data, .data, .sentinel, .sentinel, .sentinel, .data, .data, .data, .data, .data, .sentinel, .sentinel] true :=
  OpenClaim.laidByTextAt_later rfl rfl tie2 noOwnUnsafe
theorem fnIntRaw_row_tie : Rows.fnIntRawRow.laidByTextAt .later Tryz.pinned [.data, .data, .sentinel, .sentinel, .sentinel, .data, .data, .data, .data, .data, .sentinel, .sentinel] true :=
  OpenClaim.laidByTextAt_later rfl rfl tie2 noOwnUnsafe
theorem fnIntMade_row_tie : Rows.fnIntMadeRow.laidByTextAt .later Tryz.pinned [.data, .data, .sentinel, .sentinel, .sentinel, .data, .data, .data, .data, .data, .sentinel, .sentinel] true :=
  OpenClaim.laidByTextAt_later rfl rfl tie2 noOwnUnsafe
theorem fnUintBytesUpto_row_tie : Rows.fnUintBytesUptoRow.laidByTextAt .later Tryz.pinned [.data, .data, .sentinel, .sentinel, .sentinel, .data, .data, .data, .data, .data] true :=
  OpenClaim.laidByTextAt_later rfl rfl tie noOwnUnsafe
theorem fnUintAlgebraUpto_row_tie : Rows.fnUintAlgebraUptoRow.laidByTextAt .later Tryz.pinned [.data, .data, .sentinel, .sentinel, .sentinel, .data, .data, .data, .data, .data] true :=
  OpenClaim.laidByTextAt_later rfl rfl tie noOwnUnsafe
theorem fnUintDoUpto_row_tie : Rows.fnUintDoUptoRow.laidByTextAt .later Tryz.pinned [.data, .data, .sentinel, .sentinel, .sentinel, .data, .data, .data, .data, .data] true :=
  OpenClaim.laidByTextAt_later rfl rfl tie noOwnUnsafe
theorem fnIntBytesUpto_row_tie : Rows.fnIntBytesUptoRow.laidByTextAt .later Tryz.pinned [.data, .data, .sentinel, .sentinel, .sentinel, .data, .data, .data, .data, .data, .sentinel, .sentinel] true :=
  OpenClaim.laidByTextAt_later rfl rfl tie2 noOwnUnsafe
theorem fnUintRawUpto_row_tie : Rows.fnUintRawUptoRow.laidByTextAt .later Tryz.pinned [.data, .data, .sentinel, .sentinel, .sentinel, .data, .data, .data, .data, .data] true :=
  OpenClaim.laidByTextAt_later rfl rfl tie noOwnUnsafe
theorem fnUintPowUpto_row_tie : Rows.fnUintPowUptoRow.laidByTextAt .later Tryz.pinned [.data, .data, .sentinel, .sentinel, .sentinel, .data, .data, .data, .data, .data] true :=
  OpenClaim.laidByTextAt_later rfl rfl tie noOwnUnsafe
theorem fnIntDoUpto_row_tie : Rows.fnIntDoUptoRow.laidByTextAt .later Tryz.pinned [.data, .data, .sentinel, .sentinel, .sentinel, .data, .data, .data, .data, .data, .sentinel, .sentinel] true :=
  OpenClaim.laidByTextAt_later rfl rfl tie2 noOwnUnsafe
theorem fnIntRingUpto_row_tie : Rows.fnIntRingUptoRow.laidByTextAt .later Tryz.pinned [.data, .data, .sentinel, .sentinel, .sentinel, .data, .data, .data, .data, .data, .sentinel, .sentinel] true :=
  OpenClaim.laidByTextAt_later rfl rfl tie2 noOwnUnsafe
theorem fnIntSafeUpto_row_tie : Rows.fnIntSafeUptoRow.laidByTextAt .later Tryz.pinned [.data, .data, .sentinel, .sentinel, .sentinel, .data, .data, .data, .data, .data, .sentinel, .sentinel] true :=
  OpenClaim.laidByTextAt_later rfl rfl tie2 noOwnUnsafe
theorem fnIntRawUpto_row_tie : Rows.fnIntRawUptoRow.laidByTextAt .later Tryz.pinned [.data, .data, .sentinel, .sentinel, .sentinel, .data, .data, .data, .data, .data, .sentinel, .sentinel] true :=
  OpenClaim.laidByTextAt_later rfl rfl tie2 noOwnUnsafe
theorem fnIntMadeUpto_row_tie : Rows.fnIntMadeUptoRow.laidByTextAt .later Tryz.pinned [.data, .data, .sentinel, .sentinel, .sentinel, .data, .data, .data, .data, .data, .sentinel, .sentinel] true :=
  OpenClaim.laidByTextAt_later rfl rfl tie2 noOwnUnsafe
end Go.Proofs.YtiohlcfdoleooaaGreatDoor
