/-
  DERIVED. GIVEN WITH THE SEED: THE PROGRAM's TIES (one call each: nine closed facts by the kernel) AND EACH ROW's TIE, after the 31st guide's Derived/Test/Toyas{Tie, Card}.lean. No idea stands in it: it is a product of the set-up. Laid BY PROGRAM, IN A SANDBOX (cutbox-door.mjs). By AI agents, Wed Nov 11 2026. No macro, syntax, notation, axiom, sorry.
-/
import Derived.Test.YtklgdgeeillpaaaDoorRows
import Derived.LaidByTextLater
import Derived.SevenTiedAt
import Derived.LaidSub
import Derived.LaidOnce
namespace Go.Proofs.YtklgdgeeillpaaaDoor
open Go
set_option maxRecDepth 100000
theorem seatTie1 : Tryd.prog.laidByTextLater [("loop.example/pub-g03328/pub/field.feZero", Rows.laid_loop_example_pub_g03328_pub_field_feZero), ("loop.example/pub-g03328/pub/field.feOne", Rows.laid_loop_example_pub_g03328_pub_field_feOne), ("loop.example/pub-g03328/pub/field.sqrtM1", Rows.laid_loop_example_pub_g03328_pub_field_sqrtM1)] [.widerDeep, .widerDeep, .widerDeep] true :=
  Program.laidByTextLater_by_one 27 8 6 (by kernel_rfl) (by kernel_rfl) (by kernel_rfl) (by kernel_rfl) (by kernel_rfl) (by kernel_rfl) (fun _ _ => by kernel_rfl)
theorem noOwnUnsafe : Tryd.pinned.checked.prog.headLifts.contains "ownunsafe" = false := by kernel_rfl
theorem tie : Tryd.prog.laidByTextLater [("loop.example/pub-g03328/pub/field.feZero", Rows.laid_loop_example_pub_g03328_pub_field_feZero)] [.widerDeep] true :=
  Program.laidByTextLater.sub seatTie1 ["loop.example/pub-g03328/pub/field.feZero"] (by kernel_rfl) (by kernel_rfl)
theorem fnFieldSubtractUndoes_row_tie : Rows.fnFieldSubtractUndoesRow.laidByTextAt .later Tryd.pinned [.widerDeep] true :=
  OpenClaim.laidByTextAt_later rfl rfl tie noOwnUnsafe
theorem fnExactFieldAbsolute_row_tie : Rows.fnExactFieldAbsoluteRow.laidByTextAt .later Tryd.pinned [.widerDeep] true :=
  OpenClaim.laidByTextAt_later rfl rfl tie noOwnUnsafe
theorem fnFieldAbsoluteOfOpposite_row_tie : Rows.fnFieldAbsoluteOfOppositeRow.laidByTextAt .later Tryd.pinned [.widerDeep] true :=
  OpenClaim.laidByTextAt_later rfl rfl tie noOwnUnsafe
theorem tie2 : Tryd.prog.laidByTextLater [("loop.example/pub-g03328/pub/field.feZero", Rows.laid_loop_example_pub_g03328_pub_field_feZero), ("loop.example/pub-g03328/pub/field.sqrtM1", Rows.laid_loop_example_pub_g03328_pub_field_sqrtM1)] [.widerDeep, .widerDeep] true :=
  Program.laidByTextLater.sub seatTie1 ["loop.example/pub-g03328/pub/field.feZero", "loop.example/pub-g03328/pub/field.sqrtM1"] (by kernel_rfl) (by kernel_rfl)
theorem fnExactFieldSqrtRatio_row_tie : Rows.fnExactFieldSqrtRatioRow.laidByTextAt .later Tryd.pinned [.widerDeep, .widerDeep] true :=
  OpenClaim.laidByTextAt_later rfl rfl tie2 noOwnUnsafe
theorem fnFieldRootOfSquare_row_tie : Rows.fnFieldRootOfSquareRow.laidByTextAt .later Tryd.pinned [.widerDeep, .widerDeep] true :=
  OpenClaim.laidByTextAt_later rfl rfl tie2 noOwnUnsafe
theorem tie3 : Tryd.prog.laidByTextLater [("loop.example/pub-g03328/pub/field.feZero", Rows.laid_loop_example_pub_g03328_pub_field_feZero), ("loop.example/pub-g03328/pub/field.feOne", Rows.laid_loop_example_pub_g03328_pub_field_feOne), ("loop.example/pub-g03328/pub/field.sqrtM1", Rows.laid_loop_example_pub_g03328_pub_field_sqrtM1)] [.widerDeep, .widerDeep, .widerDeep] true :=
  Program.laidByTextLater.sub seatTie1 ["loop.example/pub-g03328/pub/field.feZero", "loop.example/pub-g03328/pub/field.feOne", "loop.example/pub-g03328/pub/field.sqrtM1"] (by kernel_rfl) (by kernel_rfl)
theorem fnFieldRunParts_row_tie : Rows.fnFieldRunPartsRow.laidByTextAt .later Tryd.pinned [.widerDeep, .widerDeep, .widerDeep] true :=
  OpenClaim.laidByTextAt_later rfl rfl tie3 noOwnUnsafe
theorem fnFieldSubtractUndoesUpto_row_tie : Rows.fnFieldSubtractUndoesUptoRow.laidByTextAt .later Tryd.pinned [.widerDeep] true :=
  OpenClaim.laidByTextAt_later rfl rfl tie noOwnUnsafe
theorem fnExactFieldAbsoluteUpto_row_tie : Rows.fnExactFieldAbsoluteUptoRow.laidByTextAt .later Tryd.pinned [.widerDeep] true :=
  OpenClaim.laidByTextAt_later rfl rfl tie noOwnUnsafe
theorem fnFieldAbsoluteOfOppositeUpto_row_tie : Rows.fnFieldAbsoluteOfOppositeUptoRow.laidByTextAt .later Tryd.pinned [.widerDeep] true :=
  OpenClaim.laidByTextAt_later rfl rfl tie noOwnUnsafe
theorem fnExactFieldSqrtRatioUpto_row_tie : Rows.fnExactFieldSqrtRatioUptoRow.laidByTextAt .later Tryd.pinned [.widerDeep, .widerDeep] true :=
  OpenClaim.laidByTextAt_later rfl rfl tie2 noOwnUnsafe
theorem fnFieldRootOfSquareUpto_row_tie : Rows.fnFieldRootOfSquareUptoRow.laidByTextAt .later Tryd.pinned [.widerDeep, .widerDeep] true :=
  OpenClaim.laidByTextAt_later rfl rfl tie2 noOwnUnsafe
theorem fnFieldRunPartsUpto_row_tie : Rows.fnFieldRunPartsUptoRow.laidByTextAt .later Tryd.pinned [.widerDeep, .widerDeep, .widerDeep] true :=
  OpenClaim.laidByTextAt_later rfl rfl tie3 noOwnUnsafe
end Go.Proofs.YtklgdgeeillpaaaDoor
