/-
  DERIVED. GIVEN WITH THE SEED: THE PROGRAM's TIES (one call each: nine closed facts by the kernel) AND EACH ROW's TIE, after the 31st guide's Derived/Test/Toyas{Tie, Card}.lean. No idea stands in it: it is a product of the set-up. Laid BY PROGRAM, IN A SANDBOX (cutbox-door.mjs). By AI agents, Wed Nov 11 2026. No macro, syntax, notation, axiom, sorry.
-/
import Derived.Test.YtfkodiefldljgaaDoorRows
import Derived.LaidByTextLater
import Derived.SevenTiedAt
import Derived.LaidSub
import Derived.LaidOnce
namespace Go.Proofs.YtfkodiefldljgaaDoor
open Go
set_option maxRecDepth 100000
theorem seatTie1 : Tryd.prog.laidByTextLater [("loop.example/pub-g03328/pub/field.feZero", Rows.laid_loop_example_pub_g03328_pub_field_feZero), ("loop.example/pub-g03328/pub/field.feOne", Rows.laid_loop_example_pub_g03328_pub_field_feOne)] [.widerDeep, .widerDeep] true :=
  Program.laidByTextLater_by_one 21 8 6 (by kernel_rfl) (by kernel_rfl) (by kernel_rfl) (by kernel_rfl) (by kernel_rfl) (by kernel_rfl) (fun _ _ => by kernel_rfl)
theorem noOwnUnsafe : Tryd.pinned.checked.prog.headLifts.contains "ownunsafe" = false := by kernel_rfl
theorem tie : Tryd.prog.laidByTextLater [("loop.example/pub-g03328/pub/field.feZero", Rows.laid_loop_example_pub_g03328_pub_field_feZero), ("loop.example/pub-g03328/pub/field.feOne", Rows.laid_loop_example_pub_g03328_pub_field_feOne)] [.widerDeep, .widerDeep] true :=
  Program.laidByTextLater.sub seatTie1 ["loop.example/pub-g03328/pub/field.feZero", "loop.example/pub-g03328/pub/field.feOne"] (by kernel_rfl) (by kernel_rfl)
theorem fnExactFieldZeroOne_row_tie : Rows.fnExactFieldZeroOneRow.laidByTextAt .later Tryd.pinned [.widerDeep, .widerDeep] true :=
  OpenClaim.laidByTextAt_later rfl rfl tie noOwnUnsafe
theorem tie2 : Tryd.prog.laidByTextLater [("loop.example/pub-g03328/pub/field.feZero", Rows.laid_loop_example_pub_g03328_pub_field_feZero)] [.widerDeep] true :=
  Program.laidByTextLater.sub seatTie1 ["loop.example/pub-g03328/pub/field.feZero"] (by kernel_rfl) (by kernel_rfl)
theorem fnFieldNegates_row_tie : Rows.fnFieldNegatesRow.laidByTextAt .later Tryd.pinned [.widerDeep] true :=
  OpenClaim.laidByTextAt_later rfl rfl tie2 noOwnUnsafe
theorem fnExactFieldNegate_row_tie : Rows.fnExactFieldNegateRow.laidByTextAt .later Tryd.pinned [.widerDeep] true :=
  OpenClaim.laidByTextAt_later rfl rfl tie2 noOwnUnsafe
theorem fnFieldSigns_row_tie : Rows.fnFieldSignsRow.laidByTextAt .later Tryd.pinned [.widerDeep] true :=
  OpenClaim.laidByTextAt_later rfl rfl tie2 noOwnUnsafe
theorem fnExactFieldZeroOneUpto_row_tie : Rows.fnExactFieldZeroOneUptoRow.laidByTextAt .later Tryd.pinned [.widerDeep, .widerDeep] true :=
  OpenClaim.laidByTextAt_later rfl rfl tie noOwnUnsafe
theorem fnFieldNegatesUpto_row_tie : Rows.fnFieldNegatesUptoRow.laidByTextAt .later Tryd.pinned [.widerDeep] true :=
  OpenClaim.laidByTextAt_later rfl rfl tie2 noOwnUnsafe
theorem fnExactFieldNegateUpto_row_tie : Rows.fnExactFieldNegateUptoRow.laidByTextAt .later Tryd.pinned [.widerDeep] true :=
  OpenClaim.laidByTextAt_later rfl rfl tie2 noOwnUnsafe
theorem fnFieldSignsUpto_row_tie : Rows.fnFieldSignsUptoRow.laidByTextAt .later Tryd.pinned [.widerDeep] true :=
  OpenClaim.laidByTextAt_later rfl rfl tie2 noOwnUnsafe
end Go.Proofs.YtfkodiefldljgaaDoor
