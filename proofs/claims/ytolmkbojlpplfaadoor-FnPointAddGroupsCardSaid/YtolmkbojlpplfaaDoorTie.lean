/-
  DERIVED. GIVEN WITH THE SEED: THE PROGRAM's TIES (one call each: nine closed facts by the kernel) AND EACH ROW's TIE, after the 31st guide's Derived/Test/Toyas{Tie, Card}.lean. No idea stands in it: it is a product of the set-up. Laid BY PROGRAM, IN A SANDBOX (cutbox-door.mjs). By AI agents, Wed Nov 11 2026. No macro, syntax, notation, axiom, sorry.
-/
import Derived.Test.YtolmkbojlpplfaaDoorRows
import Derived.LaidByTextLater
import Derived.SevenTiedAt
import Derived.LaidSub
import Derived.LaidOnce
namespace Go.Proofs.YtolmkbojlpplfaaDoor
open Go
set_option maxRecDepth 100000
theorem seatTie1 : Tryd.prog.laidByTextLater [("loop.example/pub-g03328/pub/field.feZero", Rows.laid_loop_example_pub_g03328_pub_field_feZero), ("loop.example/pub-g03328/pub/field.feOne", Rows.laid_loop_example_pub_g03328_pub_field_feOne), ("loop.example/pub-g03328/pub/field.sqrtM1", Rows.laid_loop_example_pub_g03328_pub_field_sqrtM1)] [.widerDeep, .widerDeep, .widerDeep] true :=
  Program.laidByTextLater_by_one 27 8 6 (by kernel_rfl) (by kernel_rfl) (by kernel_rfl) (by kernel_rfl) (by kernel_rfl) (by kernel_rfl) (fun _ _ => by kernel_rfl)
theorem noOwnUnsafe : Tryd.pinned.checked.prog.headLifts.contains "ownunsafe" = false := by kernel_rfl
theorem tie : Tryd.prog.laidByTextLater [("loop.example/pub-g03328/pub/field.feZero", Rows.laid_loop_example_pub_g03328_pub_field_feZero), ("loop.example/pub-g03328/pub/field.feOne", Rows.laid_loop_example_pub_g03328_pub_field_feOne), ("loop.example/pub-g03328/pub/field.sqrtM1", Rows.laid_loop_example_pub_g03328_pub_field_sqrtM1)] [.widerDeep, .widerDeep, .widerDeep] true :=
  Program.laidByTextLater.sub seatTie1 ["loop.example/pub-g03328/pub/field.feZero", "loop.example/pub-g03328/pub/field.feOne", "loop.example/pub-g03328/pub/field.sqrtM1"] (by kernel_rfl) (by kernel_rfl)
theorem fnExactPointNegate_row_tie : Rows.fnExactPointNegateRow.laidByTextAt .later Tryd.pinned [.widerDeep, .widerDeep, .widerDeep] true :=
  OpenClaim.laidByTextAt_later rfl rfl tie noOwnUnsafe
theorem fnPointSign_row_tie : Rows.fnPointSignRow.laidByTextAt .later Tryd.pinned [.widerDeep, .widerDeep, .widerDeep] true :=
  OpenClaim.laidByTextAt_later rfl rfl tie noOwnUnsafe
theorem fnPointEqualBytes_row_tie : Rows.fnPointEqualBytesRow.laidByTextAt .later Tryd.pinned [.widerDeep, .widerDeep, .widerDeep] true :=
  OpenClaim.laidByTextAt_later rfl rfl tie noOwnUnsafe
theorem fnExactPointGenerator_row_tie : Rows.fnExactPointGeneratorRow.laidByTextAt .later Tryd.pinned [.widerDeep, .widerDeep, .widerDeep] true :=
  OpenClaim.laidByTextAt_later rfl rfl tie noOwnUnsafe
theorem fnExactPointAdd_row_tie : Rows.fnExactPointAddRow.laidByTextAt .later Tryd.pinned [.widerDeep, .widerDeep, .widerDeep] true :=
  OpenClaim.laidByTextAt_later rfl rfl tie noOwnUnsafe
theorem fnPointAddGroups_row_tie : Rows.fnPointAddGroupsRow.laidByTextAt .later Tryd.pinned [.widerDeep, .widerDeep, .widerDeep] true :=
  OpenClaim.laidByTextAt_later rfl rfl tie noOwnUnsafe
theorem fnPointNegates_row_tie : Rows.fnPointNegatesRow.laidByTextAt .later Tryd.pinned [.widerDeep, .widerDeep, .widerDeep] true :=
  OpenClaim.laidByTextAt_later rfl rfl tie noOwnUnsafe
theorem fnExactPointNegateUpto_row_tie : Rows.fnExactPointNegateUptoRow.laidByTextAt .later Tryd.pinned [.widerDeep, .widerDeep, .widerDeep] true :=
  OpenClaim.laidByTextAt_later rfl rfl tie noOwnUnsafe
theorem fnPointSignUpto_row_tie : Rows.fnPointSignUptoRow.laidByTextAt .later Tryd.pinned [.widerDeep, .widerDeep, .widerDeep] true :=
  OpenClaim.laidByTextAt_later rfl rfl tie noOwnUnsafe
theorem fnPointEqualBytesUpto_row_tie : Rows.fnPointEqualBytesUptoRow.laidByTextAt .later Tryd.pinned [.widerDeep, .widerDeep, .widerDeep] true :=
  OpenClaim.laidByTextAt_later rfl rfl tie noOwnUnsafe
theorem fnExactPointGeneratorUpto_row_tie : Rows.fnExactPointGeneratorUptoRow.laidByTextAt .later Tryd.pinned [.widerDeep, .widerDeep, .widerDeep] true :=
  OpenClaim.laidByTextAt_later rfl rfl tie noOwnUnsafe
theorem fnExactPointAddUpto_row_tie : Rows.fnExactPointAddUptoRow.laidByTextAt .later Tryd.pinned [.widerDeep, .widerDeep, .widerDeep] true :=
  OpenClaim.laidByTextAt_later rfl rfl tie noOwnUnsafe
theorem fnPointAddGroupsUpto_row_tie : Rows.fnPointAddGroupsUptoRow.laidByTextAt .later Tryd.pinned [.widerDeep, .widerDeep, .widerDeep] true :=
  OpenClaim.laidByTextAt_later rfl rfl tie noOwnUnsafe
theorem fnPointNegatesUpto_row_tie : Rows.fnPointNegatesUptoRow.laidByTextAt .later Tryd.pinned [.widerDeep, .widerDeep, .widerDeep] true :=
  OpenClaim.laidByTextAt_later rfl rfl tie noOwnUnsafe
end Go.Proofs.YtolmkbojlpplfaaDoor
