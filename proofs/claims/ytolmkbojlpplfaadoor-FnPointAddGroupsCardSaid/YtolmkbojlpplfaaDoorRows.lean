/-
  NARROWER THAN 'FOR EVERY INPUT', by the rows' own cells (each row's printed sentence says how): FnExactPointNegate: laid · FnPointSign: laid · FnPointEqualBytes: laid · FnExactPointGenerator: laid · FnExactPointAdd: laid · FnPointAddGroups: laid · FnPointNegates: laid.
  DERIVED. THE GIVEN ROWS OF THIS SEAT. 7 by the template 'for every input the law returns true; each argument reads behind the call as it read before'; 0 by the template 'total and deterministic' (their statements: YtolmkbojlpplfaaDoorTotals.lean).
  GIVEN WITH THE SEED: the statements are not yours to turn. If you find one false, say at which input.
  Laid BY PROGRAM, IN A SANDBOX (cutbox-rows.mjs): the forced cells as the released guide's own fill.sh prints them over the translation ab43e6cc87d699cc… (all of the seat's roots in one cut). By AI agents, Wed Nov 11 2026. No macro, syntax, notation, axiom, sorry.
-/
import Derived.Test.YtolmkbojlpplfaaDoorChecked
import GoSem.Claim
import GoSem.ClaimJoined
import GoSem.ClaimMapViews
import Derived.JoinedTies
import Derived.KernelRfl
namespace Go.Proofs.YtolmkbojlpplfaaDoor
/- THE CELL 'sum', in the pinned program and in every row, IS THE sha256 OF THE DUMP (.gsa) THAT YtolmkbojlpplfaaDoorProg.lean LOADS. Nothing in Lean hashes anything: it is a label: what it is worth is what the hold of that sum in a sandbox is worth. -/
noncomputable def Tryd.pinned : Pinned := { name := "ytolmkbojlpplfaadoor", sum := "ab43e6cc87d699cc1df0c0c53ab43c5334e4e595f4a57dc0a37580170213d11b", checked := Tryd.checked }
namespace Rows
def none {H : Type} : Left H := { results := [], args := [] }

/- WHAT THE LISTED PACKAGE-LEVEL VARIABLES READ AS WHEN THE CALL BEGINS. Each datum BY PROGRAM (the guide's laid-datum.mjs) off the statement by which the dump's own 'gosem.cut.vars' lays the variable. In a bare row this is a premise. The card (YtolmkbojlpplfaaDoorCards.lean) ties it to the program's text. -/
def laid_loop_example_pub_g03328_pub_field_feZero {H : Type} : DataW H := .ptr (.agg [.lit (.int .u64 0), .lit (.int .u64 0), .lit (.int .u64 0), .lit (.int .u64 0), .lit (.int .u64 0)])
def laid_loop_example_pub_g03328_pub_field_feOne {H : Type} : DataW H := .ptr (.agg [.lit (.int .u64 1), .lit (.int .u64 0), .lit (.int .u64 0), .lit (.int .u64 0), .lit (.int .u64 0)])
def laid_loop_example_pub_g03328_pub_field_sqrtM1 {H : Type} : DataW H := .ptr (.agg [.lit (.int .u64 1718705420411056), .lit (.int .u64 234908883556509), .lit (.int .u64 2233514472574048), .lit (.int .u64 2117202627021982), .lit (.int .u64 765476049583133)])

/-- 'laws.FnExactPointNegate': WHATEVER THE INPUT: true; the input reads as it did. -/
def fnExactPointNegateSpec : ChangeSpec := { name := "fnExactPointNegate", vars := ["loop.example/pub-g03328/pub/field.feOne", "loop.example/pub-g03328/pub/field.sqrtM1", "loop.example/pub-g03328/pub/field.feZero"], fn := fun _ => fun
  | [d, g1, g2, g3] => { results := [.lit (.bool true)], args := [d], vars := [g1, g2, g3] }
  | _ => none }
def fnExactPointNegateRow : OpenClaim := { program := "ytolmkbojlpplfaadoor", sum := "ab43e6cc87d699cc1df0c0c53ab43c5334e4e595f4a57dc0a37580170213d11b", func := "loop.example/pub-g03328/laws.FnExactPointNegate", spec := "fnExactPointNegate", inPlace := ["math/bits.Add64", "math/bits.Sub64"], named := ["loop.example/pub-g03328/pub/field.feOne", "loop.example/pub-g03328/pub/field.sqrtM1", "loop.example/pub-g03328/pub/field.feZero"], apart := false, laid := [("loop.example/pub-g03328/pub/field.feZero", laid_loop_example_pub_g03328_pub_field_feZero), ("loop.example/pub-g03328/pub/field.feOne", laid_loop_example_pub_g03328_pub_field_feOne), ("loop.example/pub-g03328/pub/field.sqrtM1", laid_loop_example_pub_g03328_pub_field_sqrtM1)] }
def FnExactPointNegateSaid : Prop := fnExactPointNegateRow.holds Tryd.pinned (OpenSpec.ofChange fnExactPointNegateSpec)

/-- ITS FALSE NEIGHBOUR: 'it returns false'. Refute it at one input. -/
def fnExactPointNegateWrong : ChangeSpec := { name := "fnExactPointNegate", vars := ["loop.example/pub-g03328/pub/field.feOne", "loop.example/pub-g03328/pub/field.sqrtM1", "loop.example/pub-g03328/pub/field.feZero"], fn := fun _ => fun
  | [d, g1, g2, g3] => { results := [.lit (.bool false)], args := [d], vars := [g1, g2, g3] }
  | _ => none }
def FnExactPointNegateWrongFalsely : Prop := fnExactPointNegateRow.holds Tryd.pinned (OpenSpec.ofChange fnExactPointNegateWrong)

/-- 'laws.FnPointSign': WHATEVER THE INPUT: true; the input reads as it did. -/
def fnPointSignSpec : ChangeSpec := { name := "fnPointSign", vars := ["loop.example/pub-g03328/pub/field.feOne", "loop.example/pub-g03328/pub/field.sqrtM1", "loop.example/pub-g03328/pub/field.feZero"], fn := fun _ => fun
  | [d, g1, g2, g3] => { results := [.lit (.bool true)], args := [d], vars := [g1, g2, g3] }
  | _ => none }
def fnPointSignRow : OpenClaim := { program := "ytolmkbojlpplfaadoor", sum := "ab43e6cc87d699cc1df0c0c53ab43c5334e4e595f4a57dc0a37580170213d11b", func := "loop.example/pub-g03328/laws.FnPointSign", spec := "fnPointSign", inPlace := ["math/bits.Add64", "math/bits.Sub64"], named := ["loop.example/pub-g03328/pub/field.feOne", "loop.example/pub-g03328/pub/field.sqrtM1", "loop.example/pub-g03328/pub/field.feZero"], apart := false, laid := [("loop.example/pub-g03328/pub/field.feZero", laid_loop_example_pub_g03328_pub_field_feZero), ("loop.example/pub-g03328/pub/field.feOne", laid_loop_example_pub_g03328_pub_field_feOne), ("loop.example/pub-g03328/pub/field.sqrtM1", laid_loop_example_pub_g03328_pub_field_sqrtM1)] }
def FnPointSignSaid : Prop := fnPointSignRow.holds Tryd.pinned (OpenSpec.ofChange fnPointSignSpec)

/-- ITS FALSE NEIGHBOUR: 'it returns false'. Refute it at one input. -/
def fnPointSignWrong : ChangeSpec := { name := "fnPointSign", vars := ["loop.example/pub-g03328/pub/field.feOne", "loop.example/pub-g03328/pub/field.sqrtM1", "loop.example/pub-g03328/pub/field.feZero"], fn := fun _ => fun
  | [d, g1, g2, g3] => { results := [.lit (.bool false)], args := [d], vars := [g1, g2, g3] }
  | _ => none }
def FnPointSignWrongFalsely : Prop := fnPointSignRow.holds Tryd.pinned (OpenSpec.ofChange fnPointSignWrong)

/-- 'laws.FnPointEqualBytes': WHATEVER THE INPUT: true; the input reads as it did. -/
def fnPointEqualBytesSpec : ChangeSpec := { name := "fnPointEqualBytes", vars := ["loop.example/pub-g03328/pub/field.feOne", "loop.example/pub-g03328/pub/field.sqrtM1", "loop.example/pub-g03328/pub/field.feZero"], fn := fun _ => fun
  | [d1, d2, g1, g2, g3] => { results := [.lit (.bool true)], args := [d1, d2], vars := [g1, g2, g3] }
  | _ => none }
def fnPointEqualBytesRow : OpenClaim := { program := "ytolmkbojlpplfaadoor", sum := "ab43e6cc87d699cc1df0c0c53ab43c5334e4e595f4a57dc0a37580170213d11b", func := "loop.example/pub-g03328/laws.FnPointEqualBytes", spec := "fnPointEqualBytes", inPlace := ["math/bits.Add64", "math/bits.Sub64"], named := ["loop.example/pub-g03328/pub/field.feOne", "loop.example/pub-g03328/pub/field.sqrtM1", "loop.example/pub-g03328/pub/field.feZero"], apart := false, laid := [("loop.example/pub-g03328/pub/field.feZero", laid_loop_example_pub_g03328_pub_field_feZero), ("loop.example/pub-g03328/pub/field.feOne", laid_loop_example_pub_g03328_pub_field_feOne), ("loop.example/pub-g03328/pub/field.sqrtM1", laid_loop_example_pub_g03328_pub_field_sqrtM1)] }
def FnPointEqualBytesSaid : Prop := fnPointEqualBytesRow.holds Tryd.pinned (OpenSpec.ofChange fnPointEqualBytesSpec)

/-- ITS FALSE NEIGHBOUR: 'it returns false'. Refute it at one input. -/
def fnPointEqualBytesWrong : ChangeSpec := { name := "fnPointEqualBytes", vars := ["loop.example/pub-g03328/pub/field.feOne", "loop.example/pub-g03328/pub/field.sqrtM1", "loop.example/pub-g03328/pub/field.feZero"], fn := fun _ => fun
  | [d1, d2, g1, g2, g3] => { results := [.lit (.bool false)], args := [d1, d2], vars := [g1, g2, g3] }
  | _ => none }
def FnPointEqualBytesWrongFalsely : Prop := fnPointEqualBytesRow.holds Tryd.pinned (OpenSpec.ofChange fnPointEqualBytesWrong)

/-- 'laws.FnExactPointGenerator': WHATEVER THE INPUT: true; the input reads as it did. -/
def fnExactPointGeneratorSpec : ChangeSpec := { name := "fnExactPointGenerator", vars := ["loop.example/pub-g03328/pub/field.feOne", "loop.example/pub-g03328/pub/field.sqrtM1", "loop.example/pub-g03328/pub/field.feZero"], fn := fun _ => fun
  | [d, g1, g2, g3] => { results := [.lit (.bool true)], args := [d], vars := [g1, g2, g3] }
  | _ => none }
def fnExactPointGeneratorRow : OpenClaim := { program := "ytolmkbojlpplfaadoor", sum := "ab43e6cc87d699cc1df0c0c53ab43c5334e4e595f4a57dc0a37580170213d11b", func := "loop.example/pub-g03328/laws.FnExactPointGenerator", spec := "fnExactPointGenerator", inPlace := ["math/bits.Add64", "math/bits.Sub64"], named := ["loop.example/pub-g03328/pub/field.feOne", "loop.example/pub-g03328/pub/field.sqrtM1", "loop.example/pub-g03328/pub/field.feZero"], apart := false, laid := [("loop.example/pub-g03328/pub/field.feZero", laid_loop_example_pub_g03328_pub_field_feZero), ("loop.example/pub-g03328/pub/field.feOne", laid_loop_example_pub_g03328_pub_field_feOne), ("loop.example/pub-g03328/pub/field.sqrtM1", laid_loop_example_pub_g03328_pub_field_sqrtM1)] }
def FnExactPointGeneratorSaid : Prop := fnExactPointGeneratorRow.holds Tryd.pinned (OpenSpec.ofChange fnExactPointGeneratorSpec)

/-- ITS FALSE NEIGHBOUR: 'it returns false'. Refute it at one input. -/
def fnExactPointGeneratorWrong : ChangeSpec := { name := "fnExactPointGenerator", vars := ["loop.example/pub-g03328/pub/field.feOne", "loop.example/pub-g03328/pub/field.sqrtM1", "loop.example/pub-g03328/pub/field.feZero"], fn := fun _ => fun
  | [d, g1, g2, g3] => { results := [.lit (.bool false)], args := [d], vars := [g1, g2, g3] }
  | _ => none }
def FnExactPointGeneratorWrongFalsely : Prop := fnExactPointGeneratorRow.holds Tryd.pinned (OpenSpec.ofChange fnExactPointGeneratorWrong)

/-- 'laws.FnExactPointAdd': WHATEVER THE INPUT: true; the input reads as it did. -/
def fnExactPointAddSpec : ChangeSpec := { name := "fnExactPointAdd", vars := ["loop.example/pub-g03328/pub/field.feOne", "loop.example/pub-g03328/pub/field.sqrtM1", "loop.example/pub-g03328/pub/field.feZero"], fn := fun _ => fun
  | [d1, d2, g1, g2, g3] => { results := [.lit (.bool true)], args := [d1, d2], vars := [g1, g2, g3] }
  | _ => none }
def fnExactPointAddRow : OpenClaim := { program := "ytolmkbojlpplfaadoor", sum := "ab43e6cc87d699cc1df0c0c53ab43c5334e4e595f4a57dc0a37580170213d11b", func := "loop.example/pub-g03328/laws.FnExactPointAdd", spec := "fnExactPointAdd", inPlace := ["math/bits.Add64", "math/bits.Sub64"], named := ["loop.example/pub-g03328/pub/field.feOne", "loop.example/pub-g03328/pub/field.sqrtM1", "loop.example/pub-g03328/pub/field.feZero"], apart := false, laid := [("loop.example/pub-g03328/pub/field.feZero", laid_loop_example_pub_g03328_pub_field_feZero), ("loop.example/pub-g03328/pub/field.feOne", laid_loop_example_pub_g03328_pub_field_feOne), ("loop.example/pub-g03328/pub/field.sqrtM1", laid_loop_example_pub_g03328_pub_field_sqrtM1)] }
def FnExactPointAddSaid : Prop := fnExactPointAddRow.holds Tryd.pinned (OpenSpec.ofChange fnExactPointAddSpec)

/-- ITS FALSE NEIGHBOUR: 'it returns false'. Refute it at one input. -/
def fnExactPointAddWrong : ChangeSpec := { name := "fnExactPointAdd", vars := ["loop.example/pub-g03328/pub/field.feOne", "loop.example/pub-g03328/pub/field.sqrtM1", "loop.example/pub-g03328/pub/field.feZero"], fn := fun _ => fun
  | [d1, d2, g1, g2, g3] => { results := [.lit (.bool false)], args := [d1, d2], vars := [g1, g2, g3] }
  | _ => none }
def FnExactPointAddWrongFalsely : Prop := fnExactPointAddRow.holds Tryd.pinned (OpenSpec.ofChange fnExactPointAddWrong)

/-- 'laws.FnPointAddGroups': WHATEVER THE INPUT: true; the input reads as it did. -/
def fnPointAddGroupsSpec : ChangeSpec := { name := "fnPointAddGroups", vars := ["loop.example/pub-g03328/pub/field.feOne", "loop.example/pub-g03328/pub/field.sqrtM1", "loop.example/pub-g03328/pub/field.feZero"], fn := fun _ => fun
  | [d1, d2, d3, g1, g2, g3] => { results := [.lit (.bool true)], args := [d1, d2, d3], vars := [g1, g2, g3] }
  | _ => none }
def fnPointAddGroupsRow : OpenClaim := { program := "ytolmkbojlpplfaadoor", sum := "ab43e6cc87d699cc1df0c0c53ab43c5334e4e595f4a57dc0a37580170213d11b", func := "loop.example/pub-g03328/laws.FnPointAddGroups", spec := "fnPointAddGroups", inPlace := ["math/bits.Add64", "math/bits.Sub64"], named := ["loop.example/pub-g03328/pub/field.feOne", "loop.example/pub-g03328/pub/field.sqrtM1", "loop.example/pub-g03328/pub/field.feZero"], apart := false, laid := [("loop.example/pub-g03328/pub/field.feZero", laid_loop_example_pub_g03328_pub_field_feZero), ("loop.example/pub-g03328/pub/field.feOne", laid_loop_example_pub_g03328_pub_field_feOne), ("loop.example/pub-g03328/pub/field.sqrtM1", laid_loop_example_pub_g03328_pub_field_sqrtM1)] }
def FnPointAddGroupsSaid : Prop := fnPointAddGroupsRow.holds Tryd.pinned (OpenSpec.ofChange fnPointAddGroupsSpec)

/-- ITS FALSE NEIGHBOUR: 'it returns false'. Refute it at one input. -/
def fnPointAddGroupsWrong : ChangeSpec := { name := "fnPointAddGroups", vars := ["loop.example/pub-g03328/pub/field.feOne", "loop.example/pub-g03328/pub/field.sqrtM1", "loop.example/pub-g03328/pub/field.feZero"], fn := fun _ => fun
  | [d1, d2, d3, g1, g2, g3] => { results := [.lit (.bool false)], args := [d1, d2, d3], vars := [g1, g2, g3] }
  | _ => none }
def FnPointAddGroupsWrongFalsely : Prop := fnPointAddGroupsRow.holds Tryd.pinned (OpenSpec.ofChange fnPointAddGroupsWrong)

/-- 'laws.FnPointNegates': WHATEVER THE INPUT: true; the input reads as it did. -/
def fnPointNegatesSpec : ChangeSpec := { name := "fnPointNegates", vars := ["loop.example/pub-g03328/pub/field.feOne", "loop.example/pub-g03328/pub/field.sqrtM1", "loop.example/pub-g03328/pub/field.feZero"], fn := fun _ => fun
  | [d, g1, g2, g3] => { results := [.lit (.bool true)], args := [d], vars := [g1, g2, g3] }
  | _ => none }
def fnPointNegatesRow : OpenClaim := { program := "ytolmkbojlpplfaadoor", sum := "ab43e6cc87d699cc1df0c0c53ab43c5334e4e595f4a57dc0a37580170213d11b", func := "loop.example/pub-g03328/laws.FnPointNegates", spec := "fnPointNegates", inPlace := ["math/bits.Add64", "math/bits.Sub64"], named := ["loop.example/pub-g03328/pub/field.feOne", "loop.example/pub-g03328/pub/field.sqrtM1", "loop.example/pub-g03328/pub/field.feZero"], apart := false, laid := [("loop.example/pub-g03328/pub/field.feZero", laid_loop_example_pub_g03328_pub_field_feZero), ("loop.example/pub-g03328/pub/field.feOne", laid_loop_example_pub_g03328_pub_field_feOne), ("loop.example/pub-g03328/pub/field.sqrtM1", laid_loop_example_pub_g03328_pub_field_sqrtM1)] }
def FnPointNegatesSaid : Prop := fnPointNegatesRow.holds Tryd.pinned (OpenSpec.ofChange fnPointNegatesSpec)

/-- ITS FALSE NEIGHBOUR: 'it returns false'. Refute it at one input. -/
def fnPointNegatesWrong : ChangeSpec := { name := "fnPointNegates", vars := ["loop.example/pub-g03328/pub/field.feOne", "loop.example/pub-g03328/pub/field.sqrtM1", "loop.example/pub-g03328/pub/field.feZero"], fn := fun _ => fun
  | [d, g1, g2, g3] => { results := [.lit (.bool false)], args := [d], vars := [g1, g2, g3] }
  | _ => none }
def FnPointNegatesWrongFalsely : Prop := fnPointNegatesRow.holds Tryd.pinned (OpenSpec.ofChange fnPointNegatesWrong)

/- THE SECOND FORM. 'bulk': how many values and letters a reading holds, each counted each time it is reached (what is shared counts as often as it is met; a slice's spare places count too). A statement '..UptoSaid' is the law's where the arguments, and the package variables that the reading takes, are together of bulk at most 1048576: NARROWER than '..Said'. Prove '..Said' where nothing that the law and all that it calls make is longer than what came in: it says more and counts as full. Else prove '..UptoSaid'. A law counts once. -/
mutual
def uptoBulk {H : Type} : DataW H → Nat
  | .lit (.string bytes) => bytes.length + 1
  | .lit _ => 1
  | .nil => 1
  | .ptr d => uptoBulk d + 1
  | .slice elems spare => uptoBulkAll elems + uptoBulkAll spare + 1
  | .agg parts => uptoBulkAll parts + 1
  | .iface _ d => uptoBulk d + 1
  | .map entries => uptoBulkEntries entries + 1
  | .held _ => 1
def uptoBulkAll {H : Type} : List (DataW H) → Nat
  | [] => 0
  | d :: r => uptoBulk d + uptoBulkAll r
def uptoBulkEntries {H : Type} : List (Lit × DataW H) → Nat
  | [] => 0
  | x :: r => uptoBulkEntry x + uptoBulkEntries r
def uptoBulkEntry {H : Type} : Lit × DataW H → Nat
  | (.string bytes, d) => bytes.length + uptoBulk d + 1
  | (_, d) => uptoBulk d + 1
 end
def uptoSmall : (H : Type) → List (DataW H) → Bool := fun _ ds => decide (uptoBulkAll ds ≤ 1048576)
def OpenSpec.upto (s : _root_.Go.ChangeSpec) : _root_.Go.OpenSpec := { _root_.Go.OpenSpec.ofChange s with cond := some uptoSmall }

/-- 'laws.FnExactPointNegate', WHERE WHAT IT READS IS OF BULK AT MOST 1048576: true; the input reads as it did. -/
def fnExactPointNegateUptoRow : OpenClaim := { program := "ytolmkbojlpplfaadoor", sum := "ab43e6cc87d699cc1df0c0c53ab43c5334e4e595f4a57dc0a37580170213d11b", func := "loop.example/pub-g03328/laws.FnExactPointNegate", spec := "fnExactPointNegate", inPlace := ["math/bits.Add64", "math/bits.Sub64"], named := ["loop.example/pub-g03328/pub/field.feOne", "loop.example/pub-g03328/pub/field.sqrtM1", "loop.example/pub-g03328/pub/field.feZero"], apart := false, laid := [("loop.example/pub-g03328/pub/field.feZero", laid_loop_example_pub_g03328_pub_field_feZero), ("loop.example/pub-g03328/pub/field.feOne", laid_loop_example_pub_g03328_pub_field_feOne), ("loop.example/pub-g03328/pub/field.sqrtM1", laid_loop_example_pub_g03328_pub_field_sqrtM1)], narrowed := true }
def FnExactPointNegateUptoSaid : Prop := fnExactPointNegateUptoRow.holds Tryd.pinned (OpenSpec.upto fnExactPointNegateSpec)

/-- 'laws.FnPointSign', WHERE WHAT IT READS IS OF BULK AT MOST 1048576: true; the input reads as it did. -/
def fnPointSignUptoRow : OpenClaim := { program := "ytolmkbojlpplfaadoor", sum := "ab43e6cc87d699cc1df0c0c53ab43c5334e4e595f4a57dc0a37580170213d11b", func := "loop.example/pub-g03328/laws.FnPointSign", spec := "fnPointSign", inPlace := ["math/bits.Add64", "math/bits.Sub64"], named := ["loop.example/pub-g03328/pub/field.feOne", "loop.example/pub-g03328/pub/field.sqrtM1", "loop.example/pub-g03328/pub/field.feZero"], apart := false, laid := [("loop.example/pub-g03328/pub/field.feZero", laid_loop_example_pub_g03328_pub_field_feZero), ("loop.example/pub-g03328/pub/field.feOne", laid_loop_example_pub_g03328_pub_field_feOne), ("loop.example/pub-g03328/pub/field.sqrtM1", laid_loop_example_pub_g03328_pub_field_sqrtM1)], narrowed := true }
def FnPointSignUptoSaid : Prop := fnPointSignUptoRow.holds Tryd.pinned (OpenSpec.upto fnPointSignSpec)

/-- 'laws.FnPointEqualBytes', WHERE WHAT IT READS IS OF BULK AT MOST 1048576: true; the input reads as it did. -/
def fnPointEqualBytesUptoRow : OpenClaim := { program := "ytolmkbojlpplfaadoor", sum := "ab43e6cc87d699cc1df0c0c53ab43c5334e4e595f4a57dc0a37580170213d11b", func := "loop.example/pub-g03328/laws.FnPointEqualBytes", spec := "fnPointEqualBytes", inPlace := ["math/bits.Add64", "math/bits.Sub64"], named := ["loop.example/pub-g03328/pub/field.feOne", "loop.example/pub-g03328/pub/field.sqrtM1", "loop.example/pub-g03328/pub/field.feZero"], apart := false, laid := [("loop.example/pub-g03328/pub/field.feZero", laid_loop_example_pub_g03328_pub_field_feZero), ("loop.example/pub-g03328/pub/field.feOne", laid_loop_example_pub_g03328_pub_field_feOne), ("loop.example/pub-g03328/pub/field.sqrtM1", laid_loop_example_pub_g03328_pub_field_sqrtM1)], narrowed := true }
def FnPointEqualBytesUptoSaid : Prop := fnPointEqualBytesUptoRow.holds Tryd.pinned (OpenSpec.upto fnPointEqualBytesSpec)

/-- 'laws.FnExactPointGenerator', WHERE WHAT IT READS IS OF BULK AT MOST 1048576: true; the input reads as it did. -/
def fnExactPointGeneratorUptoRow : OpenClaim := { program := "ytolmkbojlpplfaadoor", sum := "ab43e6cc87d699cc1df0c0c53ab43c5334e4e595f4a57dc0a37580170213d11b", func := "loop.example/pub-g03328/laws.FnExactPointGenerator", spec := "fnExactPointGenerator", inPlace := ["math/bits.Add64", "math/bits.Sub64"], named := ["loop.example/pub-g03328/pub/field.feOne", "loop.example/pub-g03328/pub/field.sqrtM1", "loop.example/pub-g03328/pub/field.feZero"], apart := false, laid := [("loop.example/pub-g03328/pub/field.feZero", laid_loop_example_pub_g03328_pub_field_feZero), ("loop.example/pub-g03328/pub/field.feOne", laid_loop_example_pub_g03328_pub_field_feOne), ("loop.example/pub-g03328/pub/field.sqrtM1", laid_loop_example_pub_g03328_pub_field_sqrtM1)], narrowed := true }
def FnExactPointGeneratorUptoSaid : Prop := fnExactPointGeneratorUptoRow.holds Tryd.pinned (OpenSpec.upto fnExactPointGeneratorSpec)

/-- 'laws.FnExactPointAdd', WHERE WHAT IT READS IS OF BULK AT MOST 1048576: true; the input reads as it did. -/
def fnExactPointAddUptoRow : OpenClaim := { program := "ytolmkbojlpplfaadoor", sum := "ab43e6cc87d699cc1df0c0c53ab43c5334e4e595f4a57dc0a37580170213d11b", func := "loop.example/pub-g03328/laws.FnExactPointAdd", spec := "fnExactPointAdd", inPlace := ["math/bits.Add64", "math/bits.Sub64"], named := ["loop.example/pub-g03328/pub/field.feOne", "loop.example/pub-g03328/pub/field.sqrtM1", "loop.example/pub-g03328/pub/field.feZero"], apart := false, laid := [("loop.example/pub-g03328/pub/field.feZero", laid_loop_example_pub_g03328_pub_field_feZero), ("loop.example/pub-g03328/pub/field.feOne", laid_loop_example_pub_g03328_pub_field_feOne), ("loop.example/pub-g03328/pub/field.sqrtM1", laid_loop_example_pub_g03328_pub_field_sqrtM1)], narrowed := true }
def FnExactPointAddUptoSaid : Prop := fnExactPointAddUptoRow.holds Tryd.pinned (OpenSpec.upto fnExactPointAddSpec)

/-- 'laws.FnPointAddGroups', WHERE WHAT IT READS IS OF BULK AT MOST 1048576: true; the input reads as it did. -/
def fnPointAddGroupsUptoRow : OpenClaim := { program := "ytolmkbojlpplfaadoor", sum := "ab43e6cc87d699cc1df0c0c53ab43c5334e4e595f4a57dc0a37580170213d11b", func := "loop.example/pub-g03328/laws.FnPointAddGroups", spec := "fnPointAddGroups", inPlace := ["math/bits.Add64", "math/bits.Sub64"], named := ["loop.example/pub-g03328/pub/field.feOne", "loop.example/pub-g03328/pub/field.sqrtM1", "loop.example/pub-g03328/pub/field.feZero"], apart := false, laid := [("loop.example/pub-g03328/pub/field.feZero", laid_loop_example_pub_g03328_pub_field_feZero), ("loop.example/pub-g03328/pub/field.feOne", laid_loop_example_pub_g03328_pub_field_feOne), ("loop.example/pub-g03328/pub/field.sqrtM1", laid_loop_example_pub_g03328_pub_field_sqrtM1)], narrowed := true }
def FnPointAddGroupsUptoSaid : Prop := fnPointAddGroupsUptoRow.holds Tryd.pinned (OpenSpec.upto fnPointAddGroupsSpec)

/-- 'laws.FnPointNegates', WHERE WHAT IT READS IS OF BULK AT MOST 1048576: true; the input reads as it did. -/
def fnPointNegatesUptoRow : OpenClaim := { program := "ytolmkbojlpplfaadoor", sum := "ab43e6cc87d699cc1df0c0c53ab43c5334e4e595f4a57dc0a37580170213d11b", func := "loop.example/pub-g03328/laws.FnPointNegates", spec := "fnPointNegates", inPlace := ["math/bits.Add64", "math/bits.Sub64"], named := ["loop.example/pub-g03328/pub/field.feOne", "loop.example/pub-g03328/pub/field.sqrtM1", "loop.example/pub-g03328/pub/field.feZero"], apart := false, laid := [("loop.example/pub-g03328/pub/field.feZero", laid_loop_example_pub_g03328_pub_field_feZero), ("loop.example/pub-g03328/pub/field.feOne", laid_loop_example_pub_g03328_pub_field_feOne), ("loop.example/pub-g03328/pub/field.sqrtM1", laid_loop_example_pub_g03328_pub_field_sqrtM1)], narrowed := true }
def FnPointNegatesUptoSaid : Prop := fnPointNegatesUptoRow.holds Tryd.pinned (OpenSpec.upto fnPointNegatesSpec)

end Rows
end Go.Proofs.YtolmkbojlpplfaaDoor
