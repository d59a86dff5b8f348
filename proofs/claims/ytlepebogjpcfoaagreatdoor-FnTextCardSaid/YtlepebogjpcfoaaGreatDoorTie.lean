/-
  DERIVED. GIVEN WITH THE SEED: THE PROGRAM's TIES (one call each: nine closed facts by the kernel) AND EACH ROW's TIE, after the 31st guide's Derived/Test/Toyas{Tie, Card}.lean. No idea stands in it: it is a product of the set-up. Laid BY PROGRAM, IN A SANDBOX (cutbox-door.mjs). By AI agents, Wed Nov 11 2026. No macro, syntax, notation, axiom, sorry.
-/
import Derived.Test.YtlepebogjpcfoaaGreatDoorRows
import Derived.LaidByTextLater
import Derived.SevenTiedAt
import Derived.LaidSub
import Derived.LaidOnce
namespace Go.Proofs.YtlepebogjpcfoaaGreatDoor
open Go
set_option maxRecDepth 100000
theorem seatTie1 : Tryz.prog.laidByTextLater [("math/bits.deBruijn32tab", Rows.laid_math_bits_deBruijn32tab), ("math/bits.deBruijn64tab", Rows.laid_math_bits_deBruijn64tab), ("internal/strconv.uint64pow10", Rows.laid_internal_strconv_uint64pow10), ("loop.example/pub-g03241/pub/bigall.leafSize", Rows.laid_loop_example_pub_g03241_pub_bigall_leafSize), ("loop.example/pub-g03241/pub/bigall.divRecursiveThreshold", Rows.laid_loop_example_pub_g03241_pub_bigall_divRecursiveThreshold), ("loop.example/pub-g03241/pub/bigall.karatsubaThreshold", Rows.laid_loop_example_pub_g03241_pub_bigall_karatsubaThreshold), ("loop.example/pub-g03241/pub/bigall.basicSqrThreshold", Rows.laid_loop_example_pub_g03241_pub_bigall_basicSqrThreshold), ("loop.example/pub-g03241/pub/bigall.karatsubaSqrThreshold", Rows.laid_loop_example_pub_g03241_pub_bigall_karatsubaSqrThreshold)] [.data, .data, .data, .data, .data, .data, .data, .data] true :=
  Program.laidByTextLater_by_one 44 8 65 (by kernel_rfl) (by kernel_rfl) (by kernel_rfl) (by kernel_rfl) (by kernel_rfl) (by kernel_rfl) (fun _ _ => by kernel_rfl)
theorem noOwnUnsafe : Tryz.pinned.checked.prog.headLifts.contains "ownunsafe" = false := by kernel_rfl
theorem tie : Tryz.prog.laidByTextLater [("math/bits.deBruijn32tab", Rows.laid_math_bits_deBruijn32tab), ("math/bits.deBruijn64tab", Rows.laid_math_bits_deBruijn64tab), ("internal/strconv.uint64pow10", Rows.laid_internal_strconv_uint64pow10), ("loop.example/pub-g03241/pub/bigall.leafSize", Rows.laid_loop_example_pub_g03241_pub_bigall_leafSize), ("loop.example/pub-g03241/pub/bigall.divRecursiveThreshold", Rows.laid_loop_example_pub_g03241_pub_bigall_divRecursiveThreshold), ("loop.example/pub-g03241/pub/bigall.karatsubaThreshold", Rows.laid_loop_example_pub_g03241_pub_bigall_karatsubaThreshold), ("loop.example/pub-g03241/pub/bigall.basicSqrThreshold", Rows.laid_loop_example_pub_g03241_pub_bigall_basicSqrThreshold), ("loop.example/pub-g03241/pub/bigall.karatsubaSqrThreshold", Rows.laid_loop_example_pub_g03241_pub_bigall_karatsubaSqrThreshold)] [.data, .data, .data, .data, .data, .data, .data, .data] true :=
  Program.laidByTextLater.sub seatTie1 ["math/bits.deBruijn32tab", "math/bits.deBruijn64tab", "internal/strconv.uint64pow10", "loop.example/pub-g03241/pub/bigall.leafSize", "loop.example/pub-g03241/pub/bigall.divRecursiveThreshold", "loop.example/pub-g03241/pub/bigall.karatsubaThreshold", "loop.example/pub-g03241/pub/bigall.basicSqrThreshold", "loop.example/pub-g03241/pub/bigall.karatsubaSqrThreshold"] (by kernel_rfl) (by kernel_rfl)
theorem fnText_row_tie : Rows.fnTextRow.laidByTextAt .later Tryz.pinned [.data, .data, .data, .data, .data, .data, .data, .data] true :=
  OpenClaim.laidByTextAt_later rfl rfl tie noOwnUnsafe
theorem fnTextOther_row_tie : Rows.fnTextOtherRow.laidByTextAt .later Tryz.pinned [.data, .data, .data, .data, .data, .data, .data, .data] true :=
  OpenClaim.laidByTextAt_later rfl rfl tie noOwnUnsafe
theorem fnString_row_tie : Rows.fnStringRow.laidByTextAt .later Tryz.pinned [.data, .data, .data, .data, .data, .data, .data, .data] true :=
  OpenClaim.laidByTextAt_later rfl rfl tie noOwnUnsafe
theorem tie2 : Tryz.prog.laidByTextLater [("math/bits.deBruijn32tab", Rows.laid_math_bits_deBruijn32tab), ("math/bits.deBruijn64tab", Rows.laid_math_bits_deBruijn64tab), ("loop.example/pub-g03241/pub/bigall.leafSize", Rows.laid_loop_example_pub_g03241_pub_bigall_leafSize), ("loop.example/pub-g03241/pub/bigall.divRecursiveThreshold", Rows.laid_loop_example_pub_g03241_pub_bigall_divRecursiveThreshold), ("loop.example/pub-g03241/pub/bigall.karatsubaThreshold", Rows.laid_loop_example_pub_g03241_pub_bigall_karatsubaThreshold), ("loop.example/pub-g03241/pub/bigall.basicSqrThreshold", Rows.laid_loop_example_pub_g03241_pub_bigall_basicSqrThreshold), ("loop.example/pub-g03241/pub/bigall.karatsubaSqrThreshold", Rows.laid_loop_example_pub_g03241_pub_bigall_karatsubaSqrThreshold)] [.data, .data, .data, .data, .data, .data, .data] true :=
  Program.laidByTextLater.sub seatTie1 ["math/bits.deBruijn32tab", "math/bits.deBruijn64tab", "loop.example/pub-g03241/pub/bigall.leafSize", "loop.example/pub-g03241/pub/bigall.divRecursiveThreshold", "loop.example/pub-g03241/pub/bigall.karatsubaThreshold", "loop.example/pub-g03241/pub/bigall.basicSqrThreshold", "loop.example/pub-g03241/pub/bigall.karatsubaSqrThreshold"] (by kernel_rfl) (by kernel_rfl)
theorem fnTotal_row_tie : Rows.fnTotalRow.laidByTextAt .later Tryz.pinned [.data, .data, .data, .data, .data, .data, .data] true :=
  OpenClaim.laidByTextAt_later rfl rfl tie2 noOwnUnsafe
theorem fnReduced_row_tie : Rows.fnReducedRow.laidByTextAt .later Tryz.pinned [.data, .data, .data, .data, .data, .data, .data] true :=
  OpenClaim.laidByTextAt_later rfl rfl tie2 noOwnUnsafe
theorem fnTotalOrder_row_tie : Rows.fnTotalOrderRow.laidByTextAt .later Tryz.pinned [.data, .data, .data, .data, .data, .data, .data] true :=
  OpenClaim.laidByTextAt_later rfl rfl tie2 noOwnUnsafe
theorem fnCmp_row_tie : Rows.fnCmpRow.laidByTextAt .later Tryz.pinned [.data, .data, .data, .data, .data, .data, .data] true :=
  OpenClaim.laidByTextAt_later rfl rfl tie2 noOwnUnsafe
theorem fnTextUpto_row_tie : Rows.fnTextUptoRow.laidByTextAt .later Tryz.pinned [.data, .data, .data, .data, .data, .data, .data, .data] true :=
  OpenClaim.laidByTextAt_later rfl rfl tie noOwnUnsafe
theorem fnTextOtherUpto_row_tie : Rows.fnTextOtherUptoRow.laidByTextAt .later Tryz.pinned [.data, .data, .data, .data, .data, .data, .data, .data] true :=
  OpenClaim.laidByTextAt_later rfl rfl tie noOwnUnsafe
theorem fnStringUpto_row_tie : Rows.fnStringUptoRow.laidByTextAt .later Tryz.pinned [.data, .data, .data, .data, .data, .data, .data, .data] true :=
  OpenClaim.laidByTextAt_later rfl rfl tie noOwnUnsafe
theorem fnTotalUpto_row_tie : Rows.fnTotalUptoRow.laidByTextAt .later Tryz.pinned [.data, .data, .data, .data, .data, .data, .data] true :=
  OpenClaim.laidByTextAt_later rfl rfl tie2 noOwnUnsafe
theorem fnReducedUpto_row_tie : Rows.fnReducedUptoRow.laidByTextAt .later Tryz.pinned [.data, .data, .data, .data, .data, .data, .data] true :=
  OpenClaim.laidByTextAt_later rfl rfl tie2 noOwnUnsafe
theorem fnTotalOrderUpto_row_tie : Rows.fnTotalOrderUptoRow.laidByTextAt .later Tryz.pinned [.data, .data, .data, .data, .data, .data, .data] true :=
  OpenClaim.laidByTextAt_later rfl rfl tie2 noOwnUnsafe
theorem fnCmpUpto_row_tie : Rows.fnCmpUptoRow.laidByTextAt .later Tryz.pinned [.data, .data, .data, .data, .data, .data, .data] true :=
  OpenClaim.laidByTextAt_later rfl rfl tie2 noOwnUnsafe
end Go.Proofs.YtlepebogjpcfoaaGreatDoor
