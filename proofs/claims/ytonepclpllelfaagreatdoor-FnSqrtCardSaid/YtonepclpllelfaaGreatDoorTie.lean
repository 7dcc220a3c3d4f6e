/-
  DERIVED. GIVEN WITH THE SEED: THE PROGRAM's TIES (one call each: nine closed facts by the kernel) AND EACH ROW's TIE, after the 31st guide's Derived/Test/Toyas{Tie, Card}.lean. No idea stands in it: it is a product of the set-up. Laid BY PROGRAM, IN A SANDBOX (cutbox-door.mjs). By AI agents, Wed Nov 11 2026. No macro, syntax, notation, axiom, sorry.
-/
import Derived.Test.YtonepclpllelfaaGreatDoorRows
import Derived.LaidByTextLater
import Derived.SevenTiedAt
import Derived.LaidSub
import Derived.LaidOnce
namespace Go.Proofs.YtonepclpllelfaaGreatDoor
open Go
set_option maxRecDepth 100000
theorem seatTie1 : Tryz.prog.laidByTextLater [("math/bits.deBruijn32tab", Rows.laid_math_bits_deBruijn32tab), ("math/bits.deBruijn64tab", Rows.laid_math_bits_deBruijn64tab), ("loop.example/pub-g03241/pub/bigall.leafSize", Rows.laid_loop_example_pub_g03241_pub_bigall_leafSize), ("loop.example/pub-g03241/pub/bigall.divRecursiveThreshold", Rows.laid_loop_example_pub_g03241_pub_bigall_divRecursiveThreshold), ("loop.example/pub-g03241/pub/bigall.karatsubaThreshold", Rows.laid_loop_example_pub_g03241_pub_bigall_karatsubaThreshold), ("loop.example/pub-g03241/pub/bigall.basicSqrThreshold", Rows.laid_loop_example_pub_g03241_pub_bigall_basicSqrThreshold), ("loop.example/pub-g03241/pub/bigall.karatsubaSqrThreshold", Rows.laid_loop_example_pub_g03241_pub_bigall_karatsubaSqrThreshold)] [.data, .data, .data, .data, .data, .data, .data] true :=
  Program.laidByTextLater_by_one 39 8 65 (by kernel_rfl) (by kernel_rfl) (by kernel_rfl) (by kernel_rfl) (by kernel_rfl) (by kernel_rfl) (fun _ _ => by kernel_rfl)
theorem noOwnUnsafe : Tryz.pinned.checked.prog.headLifts.contains "ownunsafe" = false := by kernel_rfl
theorem tie : Tryz.prog.laidByTextLater [("math/bits.deBruijn32tab", Rows.laid_math_bits_deBruijn32tab), ("math/bits.deBruijn64tab", Rows.laid_math_bits_deBruijn64tab), ("loop.example/pub-g03241/pub/bigall.leafSize", Rows.laid_loop_example_pub_g03241_pub_bigall_leafSize), ("loop.example/pub-g03241/pub/bigall.divRecursiveThreshold", Rows.laid_loop_example_pub_g03241_pub_bigall_divRecursiveThreshold), ("loop.example/pub-g03241/pub/bigall.karatsubaThreshold", Rows.laid_loop_example_pub_g03241_pub_bigall_karatsubaThreshold), ("loop.example/pub-g03241/pub/bigall.basicSqrThreshold", Rows.laid_loop_example_pub_g03241_pub_bigall_basicSqrThreshold), ("loop.example/pub-g03241/pub/bigall.karatsubaSqrThreshold", Rows.laid_loop_example_pub_g03241_pub_bigall_karatsubaSqrThreshold)] [.data, .data, .data, .data, .data, .data, .data] true :=
  Program.laidByTextLater.sub seatTie1 ["math/bits.deBruijn32tab", "math/bits.deBruijn64tab", "loop.example/pub-g03241/pub/bigall.leafSize", "loop.example/pub-g03241/pub/bigall.divRecursiveThreshold", "loop.example/pub-g03241/pub/bigall.karatsubaThreshold", "loop.example/pub-g03241/pub/bigall.basicSqrThreshold", "loop.example/pub-g03241/pub/bigall.karatsubaSqrThreshold"] (by kernel_rfl) (by kernel_rfl)
theorem fnSqrt_row_tie : Rows.fnSqrtRow.laidByTextAt .later Tryz.pinned [.data, .data, .data, .data, .data, .data, .data] true :=
  OpenClaim.laidByTextAt_later rfl rfl tie noOwnUnsafe
theorem fnSqrtUpto_row_tie : Rows.fnSqrtUptoRow.laidByTextAt .later Tryz.pinned [.data, .data, .data, .data, .data, .data, .data] true :=
  OpenClaim.laidByTextAt_later rfl rfl tie noOwnUnsafe
end Go.Proofs.YtonepclpllelfaaGreatDoor
