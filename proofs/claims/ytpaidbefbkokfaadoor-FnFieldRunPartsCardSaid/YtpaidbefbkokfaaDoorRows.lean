/-
  NARROWER THAN 'FOR EVERY INPUT', by the rows' own cells (each row's printed sentence says how): FnFieldRunParts: laid.
  DERIVED. THE GIVEN ROWS OF THIS SEAT. 1 by the template 'for every input the law returns true; each argument reads behind the call as it read before'; 0 by the template 'total and deterministic' (their statements: YtpaidbefbkokfaaDoorTotals.lean).
  GIVEN WITH THE SEED: the statements are not yours to turn. If you find one false, say at which input.
  Laid BY PROGRAM, IN A SANDBOX (cutbox-rows.mjs): the forced cells as the released guide's own fill.sh prints them over the translation 132857e3f5c273e1… (all of the seat's roots in one cut). By AI agents, Wed Nov 11 2026. No macro, syntax, notation, axiom, sorry.
-/
import Derived.Test.YtpaidbefbkokfaaDoorChecked
import GoSem.Claim
import GoSem.ClaimJoined
import GoSem.ClaimMapViews
import Derived.JoinedTies
import Derived.KernelRfl
namespace Go.Proofs.YtpaidbefbkokfaaDoor
/- THE CELL 'sum', in the pinned program and in every row, IS THE sha256 OF THE DUMP (.gsa) THAT YtpaidbefbkokfaaDoorProg.lean LOADS. Nothing in Lean hashes anything: it is a label: what it is worth is what the hold of that sum in a sandbox is worth. -/
noncomputable def Tryd.pinned : Pinned := { name := "ytpaidbefbkokfaadoor", sum := "132857e3f5c273e1ba3d1a03d824b90ac8ec5023479af4ed3173a26c7780f35b", checked := Tryd.checked }
namespace Rows
def none {H : Type} : Left H := { results := [], args := [] }

/- WHAT THE LISTED PACKAGE-LEVEL VARIABLES READ AS WHEN THE CALL BEGINS. Each datum BY PROGRAM (the guide's laid-datum.mjs) off the statement by which the dump's own 'gosem.cut.vars' lays the variable. In a bare row this is a premise. The card (YtpaidbefbkokfaaDoorCards.lean) ties it to the program's text. -/
def laid_loop_example_pub_g03328_pub_field_feZero {H : Type} : DataW H := .ptr (.agg [.lit (.int .u64 0), .lit (.int .u64 0), .lit (.int .u64 0), .lit (.int .u64 0), .lit (.int .u64 0)])
def laid_loop_example_pub_g03328_pub_field_feOne {H : Type} : DataW H := .ptr (.agg [.lit (.int .u64 1), .lit (.int .u64 0), .lit (.int .u64 0), .lit (.int .u64 0), .lit (.int .u64 0)])
def laid_loop_example_pub_g03328_pub_field_sqrtM1 {H : Type} : DataW H := .ptr (.agg [.lit (.int .u64 1718705420411056), .lit (.int .u64 234908883556509), .lit (.int .u64 2233514472574048), .lit (.int .u64 2117202627021982), .lit (.int .u64 765476049583133)])

/-- 'laws.FnFieldRunParts': WHATEVER THE INPUT: true; the input reads as it did. -/
def fnFieldRunPartsSpec : ChangeSpec := { name := "fnFieldRunParts", vars := ["loop.example/pub-g03328/pub/field.feZero", "loop.example/pub-g03328/pub/field.sqrtM1", "loop.example/pub-g03328/pub/field.feOne"], fn := fun _ => fun
  | [d1, d2, d3, g1, g2, g3] => { results := [.lit (.bool true)], args := [d1, d2, d3], vars := [g1, g2, g3] }
  | _ => none }
def fnFieldRunPartsRow : OpenClaim := { program := "ytpaidbefbkokfaadoor", sum := "132857e3f5c273e1ba3d1a03d824b90ac8ec5023479af4ed3173a26c7780f35b", func := "loop.example/pub-g03328/laws.FnFieldRunParts", spec := "fnFieldRunParts", inPlace := ["math/bits.Add64"], named := ["loop.example/pub-g03328/pub/field.feZero", "loop.example/pub-g03328/pub/field.sqrtM1", "loop.example/pub-g03328/pub/field.feOne"], apart := false, laid := [("loop.example/pub-g03328/pub/field.feZero", laid_loop_example_pub_g03328_pub_field_feZero), ("loop.example/pub-g03328/pub/field.feOne", laid_loop_example_pub_g03328_pub_field_feOne), ("loop.example/pub-g03328/pub/field.sqrtM1", laid_loop_example_pub_g03328_pub_field_sqrtM1)] }
def FnFieldRunPartsSaid : Prop := fnFieldRunPartsRow.holds Tryd.pinned (OpenSpec.ofChange fnFieldRunPartsSpec)

/-- ITS FALSE NEIGHBOUR: 'it returns false'. Refute it at one input. -/
def fnFieldRunPartsWrong : ChangeSpec := { name := "fnFieldRunParts", vars := ["loop.example/pub-g03328/pub/field.feZero", "loop.example/pub-g03328/pub/field.sqrtM1", "loop.example/pub-g03328/pub/field.feOne"], fn := fun _ => fun
  | [d1, d2, d3, g1, g2, g3] => { results := [.lit (.bool false)], args := [d1, d2, d3], vars := [g1, g2, g3] }
  | _ => none }
def FnFieldRunPartsWrongFalsely : Prop := fnFieldRunPartsRow.holds Tryd.pinned (OpenSpec.ofChange fnFieldRunPartsWrong)

/- THE SECOND FORM. 'bulk': how many values and letters a reading holds, each counted each time it is reached (what is shared counts as often as it is met; a slice's spare places count too). A statement '..UptoSaid' is the law's where the arguments, and the package variables that the reading takes, are together of bulk at most 1048576: NARROWER than '..Said'. Prove '..Said' where nothing that the law and all that it calls make is longer than what came in: it says more and counts as full. Else prove '..UptoSaid'. A law counts once. -/
mutual
def uptoBulk {H : Type} : DataW H → Nat
  | .lit (.string bytes) => bytes.length + 1
  | .lit _ => 1
  | .nil => 1
  | .ptr d => uptoBulk d + 1
  | .slice elems spare => uptoBulkAll elems + uptoBulkAll spare + 1
  | .agg parts => uptoBulkAll parts + 1
  | .iface _ d => uptoBulk d + 1
  | .map entries => uptoBulkEntries entries + 1
  | .held _ => 1
def uptoBulkAll {H : Type} : List (DataW H) → Nat
  | [] => 0
  | d :: r => uptoBulk d + uptoBulkAll r
def uptoBulkEntries {H : Type} : List (Lit × DataW H) → Nat
  | [] => 0
  | x :: r => uptoBulkEntry x + uptoBulkEntries r
def uptoBulkEntry {H : Type} : Lit × DataW H → Nat
  | (.string bytes, d) => bytes.length + uptoBulk d + 1
  | (_, d) => uptoBulk d + 1
 end
def uptoSmall : (H : Type) → List (DataW H) → Bool := fun _ ds => decide (uptoBulkAll ds ≤ 1048576)
def OpenSpec.upto (s : _root_.Go.ChangeSpec) : _root_.Go.OpenSpec := { _root_.Go.OpenSpec.ofChange s with cond := some uptoSmall }

/-- 'laws.FnFieldRunParts', WHERE WHAT IT READS IS OF BULK AT MOST 1048576: true; the input reads as it did. -/
def fnFieldRunPartsUptoRow : OpenClaim := { program := "ytpaidbefbkokfaadoor", sum := "132857e3f5c273e1ba3d1a03d824b90ac8ec5023479af4ed3173a26c7780f35b", func := "loop.example/pub-g03328/laws.FnFieldRunParts", spec := "fnFieldRunParts", inPlace := ["math/bits.Add64"], named := ["loop.example/pub-g03328/pub/field.feZero", "loop.example/pub-g03328/pub/field.sqrtM1", "loop.example/pub-g03328/pub/field.feOne"], apart := false, laid := [("loop.example/pub-g03328/pub/field.feZero", laid_loop_example_pub_g03328_pub_field_feZero), ("loop.example/pub-g03328/pub/field.feOne", laid_loop_example_pub_g03328_pub_field_feOne), ("loop.example/pub-g03328/pub/field.sqrtM1", laid_loop_example_pub_g03328_pub_field_sqrtM1)], narrowed := true }
def FnFieldRunPartsUptoSaid : Prop := fnFieldRunPartsUptoRow.holds Tryd.pinned (OpenSpec.upto fnFieldRunPartsSpec)

end Rows
end Go.Proofs.YtpaidbefbkokfaaDoor
