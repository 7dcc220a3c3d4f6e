/-
  DERIVED. GIVEN WITH THE SEED: THE PROGRAM's TIES (one call each: nine closed facts by the kernel) AND EACH ROW's TIE, after the 31st guide's Derived/Test/Toyas{Tie, Card}.lean. No idea stands in it: it is a product of the set-up. Laid BY PROGRAM, IN A SANDBOX (cutbox-door.mjs). By AI agents, Wed Nov 11 2026. No macro, syntax, notation, axiom, sorry.
-/
import Derived.Test.YtffjgkghmdhlkaaGreatDoorRows
import Derived.LaidByTextLater
import Derived.SevenTiedAt
import Derived.LaidSub
import Derived.LaidOnce
namespace Go.Proofs.YtffjgkghmdhlkaaGreatDoor
open Go
set_option maxRecDepth 100000
theorem seatTie1 : Tryz.prog.laidByTextLater [("math/bits.deBruijn32tab", Rows.laid_math_bits_deBruijn32tab), ("math/bits.deBruijn64tab", Rows.laid_math_bits_deBruijn64tab), ("loop.example/pub-g03241/pub/bigall.leafSize", Rows.laid_loop_example_pub_g03241_pub_bigall_leafSize), ("loop.example/pub-g03241/pub/bigall.divRecursiveThreshold", Rows.laid_loop_example_pub_g03241_pub_bigall_divRecursiveThreshold), ("loop.example/pub-g03241/pub/bigall.karatsubaThreshold", Rows.laid_loop_example_pub_g03241_pub_bigall_karatsubaThreshold), ("loop.example/pub-g03241/pub/bigall.basicSqrThreshold", Rows.laid_loop_example_pub_g03241_pub_bigall_basicSqrThreshold), ("loop.example/pub-g03241/pub/bigall.karatsubaSqrThreshold", Rows.laid_loop_example_pub_g03241_pub_bigall_karatsubaSqrThreshold)] [.data, .data, .data, .data, .data, .data, .data] true :=
  Program.laidByTextLater_by_one 39 8 65 (by kernel_rfl) (by kernel_rfl) (by kernel_rfl) (by kernel_rfl) (by kernel_rfl) (by kernel_rfl) (fun _ _ => by kernel_rfl)
theorem noOwnUnsafe : Tryz.pinned.checked.prog.headLifts.contains "ownunsafe" = false := by kernel_rfl
theorem tie : Tryz.prog.laidByTextLater [("math/bits.deBruijn32tab", Rows.laid_math_bits_deBruijn32tab), ("math/bits.deBruijn64tab", Rows.laid_math_bits_deBruijn64tab), ("loop.example/pub-g03241/pub/bigall.leafSize", Rows.laid_loop_example_pub_g03241_pub_bigall_leafSize), ("loop.example/pub-g03241/pub/bigall.divRecursiveThreshold", Rows.laid_loop_example_pub_g03241_pub_bigall_divRecursiveThreshold), ("loop.example/pub-g03241/pub/bigall.karatsubaThreshold", Rows.laid_loop_example_pub_g03241_pub_bigall_karatsubaThreshold), ("loop.example/pub-g03241/pub/bigall.basicSqrThreshold", Rows.laid_loop_example_pub_g03241_pub_bigall_basicSqrThreshold), ("loop.example/pub-g03241/pub/bigall.karatsubaSqrThreshold", Rows.laid_loop_example_pub_g03241_pub_bigall_karatsubaSqrThreshold)] [.data, .data, .data, .data, .data, .data, .data] true :=
  Program.laidByTextLater.sub seatTie1 ["math/bits.deBruijn32tab", "math/bits.deBruijn64tab", "loop.example/pub-g03241/pub/bigall.leafSize", "loop.example/pub-g03241/pub/bigall.divRecursiveThreshold", "loop.example/pub-g03241/pub/bigall.karatsubaThreshold", "loop.example/pub-g03241/pub/bigall.basicSqrThreshold", "loop.example/pub-g03241/pub/bigall.karatsubaSqrThreshold"] (by kernel_rfl) (by kernel_rfl)
theorem fnOverflow_row_tie : Rows.fnOverflowRow.laidByTextAt .later Tryz.pinned [.data, .data, .data, .data, .data, .data, .data] true :=
  OpenClaim.laidByTextAt_later rfl rfl tie noOwnUnsafe
theorem fnSubnormal_row_tie : Rows.fnSubnormalRow.laidByTextAt .later Tryz.pinned [.data, .data, .data, .data, .data, .data, .data] true :=
  OpenClaim.laidByTextAt_later rfl rfl tie noOwnUnsafe
theorem fnRem_row_tie : Rows.fnRemRow.laidByTextAt .later Tryz.pinned [.data, .data, .data, .data, .data, .data, .data] true :=
  OpenClaim.laidByTextAt_later rfl rfl tie noOwnUnsafe
theorem fnQuo_row_tie : Rows.fnQuoRow.laidByTextAt .later Tryz.pinned [.data, .data, .data, .data, .data, .data, .data] true :=
  OpenClaim.laidByTextAt_later rfl rfl tie noOwnUnsafe
theorem fnQuoFigures_row_tie : Rows.fnQuoFiguresRow.laidByTextAt .later Tryz.pinned [.data, .data, .data, .data, .data, .data, .data] true :=
  OpenClaim.laidByTextAt_later rfl rfl tie noOwnUnsafe
theorem fnCommutes_row_tie : Rows.fnCommutesRow.laidByTextAt .later Tryz.pinned [.data, .data, .data, .data, .data, .data, .data] true :=
  OpenClaim.laidByTextAt_later rfl rfl tie noOwnUnsafe
theorem fnOverflowUpto_row_tie : Rows.fnOverflowUptoRow.laidByTextAt .later Tryz.pinned [.data, .data, .data, .data, .data, .data, .data] true :=
  OpenClaim.laidByTextAt_later rfl rfl tie noOwnUnsafe
theorem fnSubnormalUpto_row_tie : Rows.fnSubnormalUptoRow.laidByTextAt .later Tryz.pinned [.data, .data, .data, .data, .data, .data, .data] true :=
  OpenClaim.laidByTextAt_later rfl rfl tie noOwnUnsafe
theorem fnRemUpto_row_tie : Rows.fnRemUptoRow.laidByTextAt .later Tryz.pinned [.data, .data, .data, .data, .data, .data, .data] true :=
  OpenClaim.laidByTextAt_later rfl rfl tie noOwnUnsafe
theorem fnQuoUpto_row_tie : Rows.fnQuoUptoRow.laidByTextAt .later Tryz.pinned [.data, .data, .data, .data, .data, .data, .data] true :=
  OpenClaim.laidByTextAt_later rfl rfl tie noOwnUnsafe
theorem fnQuoFiguresUpto_row_tie : Rows.fnQuoFiguresUptoRow.laidByTextAt .later Tryz.pinned [.data, .data, .data, .data, .data, .data, .data] true :=
  OpenClaim.laidByTextAt_later rfl rfl tie noOwnUnsafe
theorem fnCommutesUpto_row_tie : Rows.fnCommutesUptoRow.laidByTextAt .later Tryz.pinned [.data, .data, .data, .data, .data, .data, .data] true :=
  OpenClaim.laidByTextAt_later rfl rfl tie noOwnUnsafe
end Go.Proofs.YtffjgkghmdhlkaaGreatDoor
