/-
  DERIVED. GIVEN WITH THE SEED: THE CARDS: each row of YtolmkbojlpplfaaDoorRows.lean that lists a variable, with what it lists TIED to the program's text (the seventh form; the later family's looks); each row that meets fmt, with fmt's text TOLD by the authors' own Lean function (tested against real Go, not proved from fmt's source: count such statements apart). THE CARD IS WHAT COUNTS. Prove the row's statement (the work); the ties are given (YtolmkbojlpplfaaDoorTie.lean); close each card by the builder's one call (the guide's Derived/Test/ToyasCard.lean, 'card_holds'). Laid BY PROGRAM, IN A SANDBOX (cutbox-door.mjs). By AI agents, Wed Nov 11 2026. No macro, syntax, notation, axiom, sorry.
-/
import Derived.Test.YtolmkbojlpplfaaDoorRows
import GoSem.ClaimSeven
namespace Go.Proofs.YtolmkbojlpplfaaDoor
namespace Rows

/-- THE TIED CARD OF 'laws.FnExactPointNegate'. -/
def fnExactPointNegateCard : Claim7 := { stood := { row := fnExactPointNegateRow, standIns := [], harness := (true, "6e5399b3dacc77f24a64d83cce517e1d6c1168836c0ca0a600446d7d5350a287"), looks := false }, kinds := [], alts := [], laidByText := true, laidKinds := [.widerDeep, .widerDeep, .widerDeep], laidTests := true, laidLooks := .later }
def FnExactPointNegateCardSaid : Prop := Claim7.holds Tryd.pinned (.plain (OpenSpec.ofChange fnExactPointNegateSpec)) fnExactPointNegateCard

/-- THE TIED CARD OF 'laws.FnPointSign'. -/
def fnPointSignCard : Claim7 := { stood := { row := fnPointSignRow, standIns := [], harness := (true, "6e5399b3dacc77f24a64d83cce517e1d6c1168836c0ca0a600446d7d5350a287"), looks := false }, kinds := [], alts := [], laidByText := true, laidKinds := [.widerDeep, .widerDeep, .widerDeep], laidTests := true, laidLooks := .later }
def FnPointSignCardSaid : Prop := Claim7.holds Tryd.pinned (.plain (OpenSpec.ofChange fnPointSignSpec)) fnPointSignCard

/-- THE TIED CARD OF 'laws.FnPointEqualBytes'. -/
def fnPointEqualBytesCard : Claim7 := { stood := { row := fnPointEqualBytesRow, standIns := [], harness := (true, "6e5399b3dacc77f24a64d83cce517e1d6c1168836c0ca0a600446d7d5350a287"), looks := false }, kinds := [], alts := [], laidByText := true, laidKinds := [.widerDeep, .widerDeep, .widerDeep], laidTests := true, laidLooks := .later }
def FnPointEqualBytesCardSaid : Prop := Claim7.holds Tryd.pinned (.plain (OpenSpec.ofChange fnPointEqualBytesSpec)) fnPointEqualBytesCard

/-- THE TIED CARD OF 'laws.FnExactPointGenerator'. -/
def fnExactPointGeneratorCard : Claim7 := { stood := { row := fnExactPointGeneratorRow, standIns := [], harness := (true, "6e5399b3dacc77f24a64d83cce517e1d6c1168836c0ca0a600446d7d5350a287"), looks := false }, kinds := [], alts := [], laidByText := true, laidKinds := [.widerDeep, .widerDeep, .widerDeep], laidTests := true, laidLooks := .later }
def FnExactPointGeneratorCardSaid : Prop := Claim7.holds Tryd.pinned (.plain (OpenSpec.ofChange fnExactPointGeneratorSpec)) fnExactPointGeneratorCard

/-- THE TIED CARD OF 'laws.FnExactPointAdd'. -/
def fnExactPointAddCard : Claim7 := { stood := { row := fnExactPointAddRow, standIns := [], harness := (true, "6e5399b3dacc77f24a64d83cce517e1d6c1168836c0ca0a600446d7d5350a287"), looks := false }, kinds := [], alts := [], laidByText := true, laidKinds := [.widerDeep, .widerDeep, .widerDeep], laidTests := true, laidLooks := .later }
def FnExactPointAddCardSaid : Prop := Claim7.holds Tryd.pinned (.plain (OpenSpec.ofChange fnExactPointAddSpec)) fnExactPointAddCard

/-- THE TIED CARD OF 'laws.FnPointAddGroups'. -/
def fnPointAddGroupsCard : Claim7 := { stood := { row := fnPointAddGroupsRow, standIns := [], harness := (true, "6e5399b3dacc77f24a64d83cce517e1d6c1168836c0ca0a600446d7d5350a287"), looks := false }, kinds := [], alts := [], laidByText := true, laidKinds := [.widerDeep, .widerDeep, .widerDeep], laidTests := true, laidLooks := .later }
def FnPointAddGroupsCardSaid : Prop := Claim7.holds Tryd.pinned (.plain (OpenSpec.ofChange fnPointAddGroupsSpec)) fnPointAddGroupsCard

/-- THE TIED CARD OF 'laws.FnPointNegates'. -/
def fnPointNegatesCard : Claim7 := { stood := { row := fnPointNegatesRow, standIns := [], harness := (true, "6e5399b3dacc77f24a64d83cce517e1d6c1168836c0ca0a600446d7d5350a287"), looks := false }, kinds := [], alts := [], laidByText := true, laidKinds := [.widerDeep, .widerDeep, .widerDeep], laidTests := true, laidLooks := .later }
def FnPointNegatesCardSaid : Prop := Claim7.holds Tryd.pinned (.plain (OpenSpec.ofChange fnPointNegatesSpec)) fnPointNegatesCard

/-- THE SECOND FORM's CARD OF 'laws.FnExactPointNegate'. -/
def fnExactPointNegateUptoCard : Claim7 := { stood := { row := fnExactPointNegateUptoRow, standIns := [], harness := (true, "6e5399b3dacc77f24a64d83cce517e1d6c1168836c0ca0a600446d7d5350a287"), looks := false }, kinds := [], alts := [], laidByText := true, laidKinds := [.widerDeep, .widerDeep, .widerDeep], laidTests := true, laidLooks := .later }
def FnExactPointNegateUptoCardSaid : Prop := Claim7.holds Tryd.pinned (.plain (OpenSpec.upto fnExactPointNegateSpec)) fnExactPointNegateUptoCard

/-- THE SECOND FORM's CARD OF 'laws.FnPointSign'. -/
def fnPointSignUptoCard : Claim7 := { stood := { row := fnPointSignUptoRow, standIns := [], harness := (true, "6e5399b3dacc77f24a64d83cce517e1d6c1168836c0ca0a600446d7d5350a287"), looks := false }, kinds := [], alts := [], laidByText := true, laidKinds := [.widerDeep, .widerDeep, .widerDeep], laidTests := true, laidLooks := .later }
def FnPointSignUptoCardSaid : Prop := Claim7.holds Tryd.pinned (.plain (OpenSpec.upto fnPointSignSpec)) fnPointSignUptoCard

/-- THE SECOND FORM's CARD OF 'laws.FnPointEqualBytes'. -/
def fnPointEqualBytesUptoCard : Claim7 := { stood := { row := fnPointEqualBytesUptoRow, standIns := [], harness := (true, "6e5399b3dacc77f24a64d83cce517e1d6c1168836c0ca0a600446d7d5350a287"), looks := false }, kinds := [], alts := [], laidByText := true, laidKinds := [.widerDeep, .widerDeep, .widerDeep], laidTests := true, laidLooks := .later }
def FnPointEqualBytesUptoCardSaid : Prop := Claim7.holds Tryd.pinned (.plain (OpenSpec.upto fnPointEqualBytesSpec)) fnPointEqualBytesUptoCard

/-- THE SECOND FORM's CARD OF 'laws.FnExactPointGenerator'. -/
def fnExactPointGeneratorUptoCard : Claim7 := { stood := { row := fnExactPointGeneratorUptoRow, standIns := [], harness := (true, "6e5399b3dacc77f24a64d83cce517e1d6c1168836c0ca0a600446d7d5350a287"), looks := false }, kinds := [], alts := [], laidByText := true, laidKinds := [.widerDeep, .widerDeep, .widerDeep], laidTests := true, laidLooks := .later }
def FnExactPointGeneratorUptoCardSaid : Prop := Claim7.holds Tryd.pinned (.plain (OpenSpec.upto fnExactPointGeneratorSpec)) fnExactPointGeneratorUptoCard

/-- THE SECOND FORM's CARD OF 'laws.FnExactPointAdd'. -/
def fnExactPointAddUptoCard : Claim7 := { stood := { row := fnExactPointAddUptoRow, standIns := [], harness := (true, "6e5399b3dacc77f24a64d83cce517e1d6c1168836c0ca0a600446d7d5350a287"), looks := false }, kinds := [], alts := [], laidByText := true, laidKinds := [.widerDeep, .widerDeep, .widerDeep], laidTests := true, laidLooks := .later }
def FnExactPointAddUptoCardSaid : Prop := Claim7.holds Tryd.pinned (.plain (OpenSpec.upto fnExactPointAddSpec)) fnExactPointAddUptoCard

/-- THE SECOND FORM's CARD OF 'laws.FnPointAddGroups'. -/
def fnPointAddGroupsUptoCard : Claim7 := { stood := { row := fnPointAddGroupsUptoRow, standIns := [], harness := (true, "6e5399b3dacc77f24a64d83cce517e1d6c1168836c0ca0a600446d7d5350a287"), looks := false }, kinds := [], alts := [], laidByText := true, laidKinds := [.widerDeep, .widerDeep, .widerDeep], laidTests := true, laidLooks := .later }
def FnPointAddGroupsUptoCardSaid : Prop := Claim7.holds Tryd.pinned (.plain (OpenSpec.upto fnPointAddGroupsSpec)) fnPointAddGroupsUptoCard

/-- THE SECOND FORM's CARD OF 'laws.FnPointNegates'. -/
def fnPointNegatesUptoCard : Claim7 := { stood := { row := fnPointNegatesUptoRow, standIns := [], harness := (true, "6e5399b3dacc77f24a64d83cce517e1d6c1168836c0ca0a600446d7d5350a287"), looks := false }, kinds := [], alts := [], laidByText := true, laidKinds := [.widerDeep, .widerDeep, .widerDeep], laidTests := true, laidLooks := .later }
def FnPointNegatesUptoCardSaid : Prop := Claim7.holds Tryd.pinned (.plain (OpenSpec.upto fnPointNegatesSpec)) fnPointNegatesUptoCard
end Rows
end Go.Proofs.YtolmkbojlpplfaaDoor
