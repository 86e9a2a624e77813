/-
  DERIVED. GIVEN WITH THE SEED: THE CARDS: each row of YtklgdgeeillpaaaDoorRows.lean that lists a variable, with what it lists TIED to the program's text (the seventh form; the later family's looks); each row that meets fmt, with fmt's text TOLD by the authors' own Lean function (tested against real Go, not proved from fmt's source: count such statements apart). THE CARD IS WHAT COUNTS. Prove the row's statement (the work); the ties are given (YtklgdgeeillpaaaDoorTie.lean); close each card by the builder's one call (the guide's Derived/Test/ToyasCard.lean, 'card_holds'). Laid BY PROGRAM, IN A SANDBOX (cutbox-door.mjs). By AI agents, Wed Nov 11 2026. No macro, syntax, notation, axiom, sorry.
-/
import Derived.Test.YtklgdgeeillpaaaDoorRows
import GoSem.ClaimSeven
namespace Go.Proofs.YtklgdgeeillpaaaDoor
namespace Rows

/-- THE TIED CARD OF 'laws.FnFieldSubtractUndoes'. -/
def fnFieldSubtractUndoesCard : Claim7 := { stood := { row := fnFieldSubtractUndoesRow, standIns := [], harness := (true, "2697709f985b6997102be5fefd1224980323fe23cfb60b03c3149b6ef3bedf6a"), looks := false }, kinds := [], alts := [], laidByText := true, laidKinds := [.widerDeep], laidTests := true, laidLooks := .later }
def FnFieldSubtractUndoesCardSaid : Prop := Claim7.holds Tryd.pinned (.plain (OpenSpec.ofChange fnFieldSubtractUndoesSpec)) fnFieldSubtractUndoesCard

/-- THE TIED CARD OF 'laws.FnExactFieldAbsolute'. -/
def fnExactFieldAbsoluteCard : Claim7 := { stood := { row := fnExactFieldAbsoluteRow, standIns := [], harness := (true, "2697709f985b6997102be5fefd1224980323fe23cfb60b03c3149b6ef3bedf6a"), looks := false }, kinds := [], alts := [], laidByText := true, laidKinds := [.widerDeep], laidTests := true, laidLooks := .later }
def FnExactFieldAbsoluteCardSaid : Prop := Claim7.holds Tryd.pinned (.plain (OpenSpec.ofChange fnExactFieldAbsoluteSpec)) fnExactFieldAbsoluteCard

/-- THE TIED CARD OF 'laws.FnFieldAbsoluteOfOpposite'. -/
def fnFieldAbsoluteOfOppositeCard : Claim7 := { stood := { row := fnFieldAbsoluteOfOppositeRow, standIns := [], harness := (true, "2697709f985b6997102be5fefd1224980323fe23cfb60b03c3149b6ef3bedf6a"), looks := false }, kinds := [], alts := [], laidByText := true, laidKinds := [.widerDeep], laidTests := true, laidLooks := .later }
def FnFieldAbsoluteOfOppositeCardSaid : Prop := Claim7.holds Tryd.pinned (.plain (OpenSpec.ofChange fnFieldAbsoluteOfOppositeSpec)) fnFieldAbsoluteOfOppositeCard

/-- THE TIED CARD OF 'laws.FnExactFieldSqrtRatio'. -/
def fnExactFieldSqrtRatioCard : Claim7 := { stood := { row := fnExactFieldSqrtRatioRow, standIns := [], harness := (true, "2697709f985b6997102be5fefd1224980323fe23cfb60b03c3149b6ef3bedf6a"), looks := false }, kinds := [], alts := [], laidByText := true, laidKinds := [.widerDeep, .widerDeep], laidTests := true, laidLooks := .later }
def FnExactFieldSqrtRatioCardSaid : Prop := Claim7.holds Tryd.pinned (.plain (OpenSpec.ofChange fnExactFieldSqrtRatioSpec)) fnExactFieldSqrtRatioCard

/-- THE TIED CARD OF 'laws.FnFieldRootOfSquare'. -/
def fnFieldRootOfSquareCard : Claim7 := { stood := { row := fnFieldRootOfSquareRow, standIns := [], harness := (true, "2697709f985b6997102be5fefd1224980323fe23cfb60b03c3149b6ef3bedf6a"), looks := false }, kinds := [], alts := [], laidByText := true, laidKinds := [.widerDeep, .widerDeep], laidTests := true, laidLooks := .later }
def FnFieldRootOfSquareCardSaid : Prop := Claim7.holds Tryd.pinned (.plain (OpenSpec.ofChange fnFieldRootOfSquareSpec)) fnFieldRootOfSquareCard

/-- THE TIED CARD OF 'laws.FnFieldRunParts'. -/
def fnFieldRunPartsCard : Claim7 := { stood := { row := fnFieldRunPartsRow, standIns := [], harness := (true, "2697709f985b6997102be5fefd1224980323fe23cfb60b03c3149b6ef3bedf6a"), looks := false }, kinds := [], alts := [], laidByText := true, laidKinds := [.widerDeep, .widerDeep, .widerDeep], laidTests := true, laidLooks := .later }
def FnFieldRunPartsCardSaid : Prop := Claim7.holds Tryd.pinned (.plain (OpenSpec.ofChange fnFieldRunPartsSpec)) fnFieldRunPartsCard

/-- THE SECOND FORM's CARD OF 'laws.FnFieldSubtractUndoes'. -/
def fnFieldSubtractUndoesUptoCard : Claim7 := { stood := { row := fnFieldSubtractUndoesUptoRow, standIns := [], harness := (true, "2697709f985b6997102be5fefd1224980323fe23cfb60b03c3149b6ef3bedf6a"), looks := false }, kinds := [], alts := [], laidByText := true, laidKinds := [.widerDeep], laidTests := true, laidLooks := .later }
def FnFieldSubtractUndoesUptoCardSaid : Prop := Claim7.holds Tryd.pinned (.plain (OpenSpec.upto fnFieldSubtractUndoesSpec)) fnFieldSubtractUndoesUptoCard

/-- THE SECOND FORM's CARD OF 'laws.FnExactFieldAbsolute'. -/
def fnExactFieldAbsoluteUptoCard : Claim7 := { stood := { row := fnExactFieldAbsoluteUptoRow, standIns := [], harness := (true, "2697709f985b6997102be5fefd1224980323fe23cfb60b03c3149b6ef3bedf6a"), looks := false }, kinds := [], alts := [], laidByText := true, laidKinds := [.widerDeep], laidTests := true, laidLooks := .later }
def FnExactFieldAbsoluteUptoCardSaid : Prop := Claim7.holds Tryd.pinned (.plain (OpenSpec.upto fnExactFieldAbsoluteSpec)) fnExactFieldAbsoluteUptoCard

/-- THE SECOND FORM's CARD OF 'laws.FnFieldAbsoluteOfOpposite'. -/
def fnFieldAbsoluteOfOppositeUptoCard : Claim7 := { stood := { row := fnFieldAbsoluteOfOppositeUptoRow, standIns := [], harness := (true, "2697709f985b6997102be5fefd1224980323fe23cfb60b03c3149b6ef3bedf6a"), looks := false }, kinds := [], alts := [], laidByText := true, laidKinds := [.widerDeep], laidTests := true, laidLooks := .later }
def FnFieldAbsoluteOfOppositeUptoCardSaid : Prop := Claim7.holds Tryd.pinned (.plain (OpenSpec.upto fnFieldAbsoluteOfOppositeSpec)) fnFieldAbsoluteOfOppositeUptoCard

/-- THE SECOND FORM's CARD OF 'laws.FnExactFieldSqrtRatio'. -/
def fnExactFieldSqrtRatioUptoCard : Claim7 := { stood := { row := fnExactFieldSqrtRatioUptoRow, standIns := [], harness := (true, "2697709f985b6997102be5fefd1224980323fe23cfb60b03c3149b6ef3bedf6a"), looks := false }, kinds := [], alts := [], laidByText := true, laidKinds := [.widerDeep, .widerDeep], laidTests := true, laidLooks := .later }
def FnExactFieldSqrtRatioUptoCardSaid : Prop := Claim7.holds Tryd.pinned (.plain (OpenSpec.upto fnExactFieldSqrtRatioSpec)) fnExactFieldSqrtRatioUptoCard

/-- THE SECOND FORM's CARD OF 'laws.FnFieldRootOfSquare'. -/
def fnFieldRootOfSquareUptoCard : Claim7 := { stood := { row := fnFieldRootOfSquareUptoRow, standIns := [], harness := (true, "2697709f985b6997102be5fefd1224980323fe23cfb60b03c3149b6ef3bedf6a"), looks := false }, kinds := [], alts := [], laidByText := true, laidKinds := [.widerDeep, .widerDeep], laidTests := true, laidLooks := .later }
def FnFieldRootOfSquareUptoCardSaid : Prop := Claim7.holds Tryd.pinned (.plain (OpenSpec.upto fnFieldRootOfSquareSpec)) fnFieldRootOfSquareUptoCard

/-- THE SECOND FORM's CARD OF 'laws.FnFieldRunParts'. -/
def fnFieldRunPartsUptoCard : Claim7 := { stood := { row := fnFieldRunPartsUptoRow, standIns := [], harness := (true, "2697709f985b6997102be5fefd1224980323fe23cfb60b03c3149b6ef3bedf6a"), looks := false }, kinds := [], alts := [], laidByText := true, laidKinds := [.widerDeep, .widerDeep, .widerDeep], laidTests := true, laidLooks := .later }
def FnFieldRunPartsUptoCardSaid : Prop := Claim7.holds Tryd.pinned (.plain (OpenSpec.upto fnFieldRunPartsSpec)) fnFieldRunPartsUptoCard
end Rows
end Go.Proofs.YtklgdgeeillpaaaDoor
