/-
  DERIVED. GIVEN WITH THE SEED: THE PROGRAM's TIES (one call each: nine closed facts by the kernel) AND EACH ROW's TIE, after the 31st guide's Derived/Test/Toyas{Tie, Card}.lean. No idea stands in it: it is a product of the set-up. Laid BY PROGRAM, IN A SANDBOX (cutbox-door.mjs). By AI agents, Wed Nov 11 2026. No macro, syntax, notation, axiom, sorry.
-/
import Derived.Test.YtmabidcocdflkaaDoorRows
import Derived.LaidByTextLater
import Derived.SevenTiedAt
import Derived.LaidSub
import Derived.LaidOnce
namespace Go.Proofs.YtmabidcocdflkaaDoor
open Go
set_option maxRecDepth 100000
theorem seatTie1 : Tryd.prog.laidByTextLater [("loop.example/pub-g03328/pub/field.feZero", Rows.laid_loop_example_pub_g03328_pub_field_feZero), ("loop.example/pub-g03328/pub/field.sqrtM1", Rows.laid_loop_example_pub_g03328_pub_field_sqrtM1)] [.widerDeep, .widerDeep] true :=
  Program.laidByTextLater_by_one 21 8 6 (by kernel_rfl) (by kernel_rfl) (by kernel_rfl) (by kernel_rfl) (by kernel_rfl) (by kernel_rfl) (fun _ _ => by kernel_rfl)
theorem noOwnUnsafe : Tryd.pinned.checked.prog.headLifts.contains "ownunsafe" = false := by kernel_rfl
theorem tie : Tryd.prog.laidByTextLater [("loop.example/pub-g03328/pub/field.feZero", Rows.laid_loop_example_pub_g03328_pub_field_feZero), ("loop.example/pub-g03328/pub/field.sqrtM1", Rows.laid_loop_example_pub_g03328_pub_field_sqrtM1)] [.widerDeep, .widerDeep] true :=
  Program.laidByTextLater.sub seatTie1 ["loop.example/pub-g03328/pub/field.feZero", "loop.example/pub-g03328/pub/field.sqrtM1"] (by kernel_rfl) (by kernel_rfl)
theorem fnFieldSquareOrNot_row_tie : Rows.fnFieldSquareOrNotRow.laidByTextAt .later Tryd.pinned [.widerDeep, .widerDeep] true :=
  OpenClaim.laidByTextAt_later rfl rfl tie noOwnUnsafe
theorem fnFieldRootSquares_row_tie : Rows.fnFieldRootSquaresRow.laidByTextAt .later Tryd.pinned [.widerDeep, .widerDeep] true :=
  OpenClaim.laidByTextAt_later rfl rfl tie noOwnUnsafe
theorem fnFieldSquareOrNotUpto_row_tie : Rows.fnFieldSquareOrNotUptoRow.laidByTextAt .later Tryd.pinned [.widerDeep, .widerDeep] true :=
  OpenClaim.laidByTextAt_later rfl rfl tie noOwnUnsafe
theorem fnFieldRootSquaresUpto_row_tie : Rows.fnFieldRootSquaresUptoRow.laidByTextAt .later Tryd.pinned [.widerDeep, .widerDeep] true :=
  OpenClaim.laidByTextAt_later rfl rfl tie noOwnUnsafe
end Go.Proofs.YtmabidcocdflkaaDoor
