/-
  DERIVED. GIVEN WITH THE SEED: THE CARDS: each row of YtpaidbefbkokfaaDoorRows.lean that lists a variable, with what it lists TIED to the program's text (the seventh form; the later family's looks); each row that meets fmt, with fmt's text TOLD by the authors' own Lean function (tested against real Go, not proved from fmt's source: count such statements apart). THE CARD IS WHAT COUNTS. Prove the row's statement (the work); the ties are given (YtpaidbefbkokfaaDoorTie.lean); close each card by the builder's one call (the guide's Derived/Test/ToyasCard.lean, 'card_holds'). Laid BY PROGRAM, IN A SANDBOX (cutbox-door.mjs). By AI agents, Wed Nov 11 2026. No macro, syntax, notation, axiom, sorry.
-/
import Derived.Test.YtpaidbefbkokfaaDoorRows
import GoSem.ClaimSeven
namespace Go.Proofs.YtpaidbefbkokfaaDoor
namespace Rows

/-- THE TIED CARD OF 'laws.FnFieldRunParts'. -/
def fnFieldRunPartsCard : Claim7 := { stood := { row := fnFieldRunPartsRow, standIns := [], harness := (true, "f2ccc4737aaf3310b971cd2622a84974bebd13196781b735b9e9e398323ab56f"), looks := false }, kinds := [], alts := [], laidByText := true, laidKinds := [.widerDeep, .widerDeep, .widerDeep], laidTests := true, laidLooks := .later }
def FnFieldRunPartsCardSaid : Prop := Claim7.holds Tryd.pinned (.plain (OpenSpec.ofChange fnFieldRunPartsSpec)) fnFieldRunPartsCard

/-- THE SECOND FORM's CARD OF 'laws.FnFieldRunParts'. -/
def fnFieldRunPartsUptoCard : Claim7 := { stood := { row := fnFieldRunPartsUptoRow, standIns := [], harness := (true, "f2ccc4737aaf3310b971cd2622a84974bebd13196781b735b9e9e398323ab56f"), looks := false }, kinds := [], alts := [], laidByText := true, laidKinds := [.widerDeep, .widerDeep, .widerDeep], laidTests := true, laidLooks := .later }
def FnFieldRunPartsUptoCardSaid : Prop := Claim7.holds Tryd.pinned (.plain (OpenSpec.upto fnFieldRunPartsSpec)) fnFieldRunPartsUptoCard
end Rows
end Go.Proofs.YtpaidbefbkokfaaDoor
