/-
  DERIVED. GIVEN WITH THE SEED: THE PROGRAM's TIES (one call each: nine closed facts by the kernel) AND EACH ROW's TIE, after the 31st guide's Derived/Test/Toyas{Tie, Card}.lean. No idea stands in it: it is a product of the set-up. Laid BY PROGRAM, IN A SANDBOX (cutbox-door.mjs). By AI agents, Wed Nov 11 2026. No macro, syntax, notation, axiom, sorry.
-/
import Derived.Test.YtgikfcmcgpcckaaGreatDoorRows
import Derived.LaidByTextLater
import Derived.SevenTiedAt
import Derived.LaidSub
import Derived.LaidOnce
namespace Go.Proofs.YtgikfcmcgpcckaaGreatDoor
open Go
set_option maxRecDepth 100000
theorem seatTie1 : Tryz.prog.laidByTextLater [("io.EOF", Rows.laid_io_EOF), ("loop.example/pub-sharesofsecrets/pub/bigall.errNoDigits", Rows.laid_loop_example_pub_sharesofsecrets_pub_bigall_errNoDigits), ("loop.example/pub-sharesofsecrets/pub/bigall.errInvalSep", Rows.laid_loop_example_pub_sharesofsecrets_pub_bigall_errInvalSep)] [.sentinel, .sentinel, .sentinel] true :=
  Program.laidByTextLater_by_one 66 8 2 (by kernel_rfl) (by kernel_rfl) (by kernel_rfl) (by kernel_rfl) (by kernel_rfl) (by kernel_rfl) (fun _ _ => by kernel_rfl)
theorem noOwnUnsafe : Tryz.pinned.checked.prog.headLifts.contains "ownunsafe" = false := by kernel_rfl
theorem tie : Tryz.prog.laidByTextLater [("io.EOF", Rows.laid_io_EOF), ("loop.example/pub-sharesofsecrets/pub/bigall.errNoDigits", Rows.laid_loop_example_pub_sharesofsecrets_pub_bigall_errNoDigits), ("loop.example/pub-sharesofsecrets/pub/bigall.errInvalSep", Rows.laid_loop_example_pub_sharesofsecrets_pub_bigall_errInvalSep)] [.sentinel, .sentinel, .sentinel] true :=
  Program.laidByTextLater.sub seatTie1 ["io.EOF", "loop.example/pub-sharesofsecrets/pub/bigall.errNoDigits", "loop.example/pub-sharesofsecrets/pub/bigall.errInvalSep"] (by kernel_rfl) (by kernel_rfl)
theorem fnExactDegree_row_tie : Rows.fnExactDegreeRow.laidByTextAt .later Tryz.pinned [.sentinel, .sentinel, .sentinel] true :=
  OpenClaim.laidByTextAt_later rfl rfl tie noOwnUnsafe
theorem fnExactCoefficient_row_tie : Rows.fnExactCoefficientRow.laidByTextAt .later Tryz.pinned [.sentinel, .sentinel, .sentinel] true :=
  OpenClaim.laidByTextAt_later rfl rfl tie noOwnUnsafe
theorem fnExactDegreeUpto_row_tie : Rows.fnExactDegreeUptoRow.laidByTextAt .later Tryz.pinned [.sentinel, .sentinel, .sentinel] true :=
  OpenClaim.laidByTextAt_later rfl rfl tie noOwnUnsafe
theorem fnExactCoefficientUpto_row_tie : Rows.fnExactCoefficientUptoRow.laidByTextAt .later Tryz.pinned [.sentinel, .sentinel, .sentinel] true :=
  OpenClaim.laidByTextAt_later rfl rfl tie noOwnUnsafe
end Go.Proofs.YtgikfcmcgpcckaaGreatDoor
