/-
  No cell of these rows narrows 'for every input' (looked for: loops, veiled, ifaces, maps, wideKeys, modest, calm, conditions, laid).
  DERIVED. THE GIVEN ROWS OF THIS SEAT. 17 by the template 'for every input the law returns true; each argument reads behind the call as it read before'; 0 by the template 'total and deterministic' (their statements: YtachbdnefnnmfaaTotals.lean).
  GIVEN WITH THE SEED: the statements are not yours to turn. If you find one false, say at which input.
  Laid BY PROGRAM, IN A SANDBOX (cutbox-rows.mjs): the forced cells as the released guide's own fill.sh prints them over the translation b0933c29004a8d5d… (all of the seat's roots in one cut). By AI agents, Wed Nov 11 2026. No macro, syntax, notation, axiom, sorry.
-/
import Derived.Test.YtachbdnefnnmfaaChecked
import GoSem.Claim
import GoSem.ClaimJoined
import GoSem.ClaimMapViews
import Derived.JoinedTies
import Derived.KernelRfl
namespace Go.Proofs.Ytachbdnefnnmfaa
/- THE CELL 'sum', in the pinned program and in every row, IS THE sha256 OF THE DUMP (.gsa) THAT YtachbdnefnnmfaaProg.lean LOADS. Nothing in Lean hashes anything: it is a label: what it is worth is what the hold of that sum in a sandbox is worth. -/
noncomputable def Try.pinned : Pinned := { name := "ytachbdnefnnmfaa", sum := "b0933c29004a8d5d225dbfaa713c734c10d98ef855cec80b49f152c799642138", checked := Try.checked }
namespace Rows
def none {H : Type} : Left H := { results := [], args := [] }

/-- 'laws.FnFieldRoundTrip': WHATEVER THE INPUT: true; the input reads as it did. -/
def fnFieldRoundTripSpec : ChangeSpec := { name := "fnFieldRoundTrip", fn := fun _ => fun
  | [d] => { results := [.lit (.bool true)], args := [d] }
  | _ => none }
def fnFieldRoundTripRow : OpenClaim := { program := "ytachbdnefnnmfaa", sum := "b0933c29004a8d5d225dbfaa713c734c10d98ef855cec80b49f152c799642138", func := "loop.example/pub-g03328/laws.FnFieldRoundTrip", spec := "fnFieldRoundTrip", apart := false }
def FnFieldRoundTripSaid : Prop := fnFieldRoundTripRow.holds Try.pinned (OpenSpec.ofChange fnFieldRoundTripSpec)

/-- ITS FALSE NEIGHBOUR: 'it returns false'. Refute it at one input. -/
def fnFieldRoundTripWrong : ChangeSpec := { name := "fnFieldRoundTrip", fn := fun _ => fun
  | [d] => { results := [.lit (.bool false)], args := [d] }
  | _ => none }
def FnFieldRoundTripWrongFalsely : Prop := fnFieldRoundTripRow.holds Try.pinned (OpenSpec.ofChange fnFieldRoundTripWrong)

/-- 'laws.FnFieldAddOrder': WHATEVER THE INPUT: true; the input reads as it did. -/
def fnFieldAddOrderSpec : ChangeSpec := { name := "fnFieldAddOrder", fn := fun _ => fun
  | [d1, d2] => { results := [.lit (.bool true)], args := [d1, d2] }
  | _ => none }
def fnFieldAddOrderRow : OpenClaim := { program := "ytachbdnefnnmfaa", sum := "b0933c29004a8d5d225dbfaa713c734c10d98ef855cec80b49f152c799642138", func := "loop.example/pub-g03328/laws.FnFieldAddOrder", spec := "fnFieldAddOrder", apart := false }
def FnFieldAddOrderSaid : Prop := fnFieldAddOrderRow.holds Try.pinned (OpenSpec.ofChange fnFieldAddOrderSpec)

/-- ITS FALSE NEIGHBOUR: 'it returns false'. Refute it at one input. -/
def fnFieldAddOrderWrong : ChangeSpec := { name := "fnFieldAddOrder", fn := fun _ => fun
  | [d1, d2] => { results := [.lit (.bool false)], args := [d1, d2] }
  | _ => none }
def FnFieldAddOrderWrongFalsely : Prop := fnFieldAddOrderRow.holds Try.pinned (OpenSpec.ofChange fnFieldAddOrderWrong)

/-- 'laws.FnExactFieldSetBytes': WHATEVER THE INPUT: true; the input reads as it did. -/
def fnExactFieldSetBytesSpec : ChangeSpec := { name := "fnExactFieldSetBytes", fn := fun _ => fun
  | [d1, d2] => { results := [.lit (.bool true)], args := [d1, d2] }
  | _ => none }
def fnExactFieldSetBytesRow : OpenClaim := { program := "ytachbdnefnnmfaa", sum := "b0933c29004a8d5d225dbfaa713c734c10d98ef855cec80b49f152c799642138", func := "loop.example/pub-g03328/laws.FnExactFieldSetBytes", spec := "fnExactFieldSetBytes", inPlace := ["math/bits.Add64", "math/bits.Sub64"], apart := false }
def FnExactFieldSetBytesSaid : Prop := fnExactFieldSetBytesRow.holds Try.pinned (OpenSpec.ofChange fnExactFieldSetBytesSpec)

/-- ITS FALSE NEIGHBOUR: 'it returns false'. Refute it at one input. -/
def fnExactFieldSetBytesWrong : ChangeSpec := { name := "fnExactFieldSetBytes", fn := fun _ => fun
  | [d1, d2] => { results := [.lit (.bool false)], args := [d1, d2] }
  | _ => none }
def FnExactFieldSetBytesWrongFalsely : Prop := fnExactFieldSetBytesRow.holds Try.pinned (OpenSpec.ofChange fnExactFieldSetBytesWrong)

/-- 'laws.FnExactFieldAdd': WHATEVER THE INPUT: true; the input reads as it did. -/
def fnExactFieldAddSpec : ChangeSpec := { name := "fnExactFieldAdd", fn := fun _ => fun
  | [d1, d2] => { results := [.lit (.bool true)], args := [d1, d2] }
  | _ => none }
def fnExactFieldAddRow : OpenClaim := { program := "ytachbdnefnnmfaa", sum := "b0933c29004a8d5d225dbfaa713c734c10d98ef855cec80b49f152c799642138", func := "loop.example/pub-g03328/laws.FnExactFieldAdd", spec := "fnExactFieldAdd", inPlace := ["math/bits.Add64", "math/bits.Sub64"], apart := false }
def FnExactFieldAddSaid : Prop := fnExactFieldAddRow.holds Try.pinned (OpenSpec.ofChange fnExactFieldAddSpec)

/-- ITS FALSE NEIGHBOUR: 'it returns false'. Refute it at one input. -/
def fnExactFieldAddWrong : ChangeSpec := { name := "fnExactFieldAdd", fn := fun _ => fun
  | [d1, d2] => { results := [.lit (.bool false)], args := [d1, d2] }
  | _ => none }
def FnExactFieldAddWrongFalsely : Prop := fnExactFieldAddRow.holds Try.pinned (OpenSpec.ofChange fnExactFieldAddWrong)

/-- 'laws.FnExactFieldEqual': WHATEVER THE INPUT: true; the input reads as it did. -/
def fnExactFieldEqualSpec : ChangeSpec := { name := "fnExactFieldEqual", fn := fun _ => fun
  | [d1, d2] => { results := [.lit (.bool true)], args := [d1, d2] }
  | _ => none }
def fnExactFieldEqualRow : OpenClaim := { program := "ytachbdnefnnmfaa", sum := "b0933c29004a8d5d225dbfaa713c734c10d98ef855cec80b49f152c799642138", func := "loop.example/pub-g03328/laws.FnExactFieldEqual", spec := "fnExactFieldEqual", inPlace := ["math/bits.Add64", "math/bits.Sub64"], apart := false }
def FnExactFieldEqualSaid : Prop := fnExactFieldEqualRow.holds Try.pinned (OpenSpec.ofChange fnExactFieldEqualSpec)

/-- ITS FALSE NEIGHBOUR: 'it returns false'. Refute it at one input. -/
def fnExactFieldEqualWrong : ChangeSpec := { name := "fnExactFieldEqual", fn := fun _ => fun
  | [d1, d2] => { results := [.lit (.bool false)], args := [d1, d2] }
  | _ => none }
def FnExactFieldEqualWrongFalsely : Prop := fnExactFieldEqualRow.holds Try.pinned (OpenSpec.ofChange fnExactFieldEqualWrong)

/-- 'laws.FnExactFieldSelect': WHATEVER THE INPUT: true; the input reads as it did. -/
def fnExactFieldSelectSpec : ChangeSpec := { name := "fnExactFieldSelect", fn := fun _ => fun
  | [d1, d2, d3] => { results := [.lit (.bool true)], args := [d1, d2, d3] }
  | _ => none }
def fnExactFieldSelectRow : OpenClaim := { program := "ytachbdnefnnmfaa", sum := "b0933c29004a8d5d225dbfaa713c734c10d98ef855cec80b49f152c799642138", func := "loop.example/pub-g03328/laws.FnExactFieldSelect", spec := "fnExactFieldSelect", inPlace := ["math/bits.Add64", "math/bits.Sub64"], apart := false }
def FnExactFieldSelectSaid : Prop := fnExactFieldSelectRow.holds Try.pinned (OpenSpec.ofChange fnExactFieldSelectSpec)

/-- ITS FALSE NEIGHBOUR: 'it returns false'. Refute it at one input. -/
def fnExactFieldSelectWrong : ChangeSpec := { name := "fnExactFieldSelect", fn := fun _ => fun
  | [d1, d2, d3] => { results := [.lit (.bool false)], args := [d1, d2, d3] }
  | _ => none }
def FnExactFieldSelectWrongFalsely : Prop := fnExactFieldSelectRow.holds Try.pinned (OpenSpec.ofChange fnExactFieldSelectWrong)

/-- 'laws.FnFieldSwapSelects': WHATEVER THE INPUT: true; the input reads as it did. -/
def fnFieldSwapSelectsSpec : ChangeSpec := { name := "fnFieldSwapSelects", fn := fun _ => fun
  | [d1, d2, d3] => { results := [.lit (.bool true)], args := [d1, d2, d3] }
  | _ => none }
def fnFieldSwapSelectsRow : OpenClaim := { program := "ytachbdnefnnmfaa", sum := "b0933c29004a8d5d225dbfaa713c734c10d98ef855cec80b49f152c799642138", func := "loop.example/pub-g03328/laws.FnFieldSwapSelects", spec := "fnFieldSwapSelects", apart := false }
def FnFieldSwapSelectsSaid : Prop := fnFieldSwapSelectsRow.holds Try.pinned (OpenSpec.ofChange fnFieldSwapSelectsSpec)

/-- ITS FALSE NEIGHBOUR: 'it returns false'. Refute it at one input. -/
def fnFieldSwapSelectsWrong : ChangeSpec := { name := "fnFieldSwapSelects", fn := fun _ => fun
  | [d1, d2, d3] => { results := [.lit (.bool false)], args := [d1, d2, d3] }
  | _ => none }
def FnFieldSwapSelectsWrongFalsely : Prop := fnFieldSwapSelectsRow.holds Try.pinned (OpenSpec.ofChange fnFieldSwapSelectsWrong)

/-- 'laws.FnExactFieldSquareN': WHATEVER THE INPUT: true; the input reads as it did. -/
def fnExactFieldSquareNSpec : ChangeSpec := { name := "fnExactFieldSquareN", fn := fun _ => fun
  | [d1, d2] => { results := [.lit (.bool true)], args := [d1, d2] }
  | _ => none }
def fnExactFieldSquareNRow : OpenClaim := { program := "ytachbdnefnnmfaa", sum := "b0933c29004a8d5d225dbfaa713c734c10d98ef855cec80b49f152c799642138", func := "loop.example/pub-g03328/laws.FnExactFieldSquareN", spec := "fnExactFieldSquareN", inPlace := ["math/bits.Add64", "math/bits.Sub64"], apart := false }
def FnExactFieldSquareNSaid : Prop := fnExactFieldSquareNRow.holds Try.pinned (OpenSpec.ofChange fnExactFieldSquareNSpec)

/-- ITS FALSE NEIGHBOUR: 'it returns false'. Refute it at one input. -/
def fnExactFieldSquareNWrong : ChangeSpec := { name := "fnExactFieldSquareN", fn := fun _ => fun
  | [d1, d2] => { results := [.lit (.bool false)], args := [d1, d2] }
  | _ => none }
def FnExactFieldSquareNWrongFalsely : Prop := fnExactFieldSquareNRow.holds Try.pinned (OpenSpec.ofChange fnExactFieldSquareNWrong)

/-- 'laws.FnExactFieldSquare': WHATEVER THE INPUT: true; the input reads as it did. -/
def fnExactFieldSquareSpec : ChangeSpec := { name := "fnExactFieldSquare", fn := fun _ => fun
  | [d] => { results := [.lit (.bool true)], args := [d] }
  | _ => none }
def fnExactFieldSquareRow : OpenClaim := { program := "ytachbdnefnnmfaa", sum := "b0933c29004a8d5d225dbfaa713c734c10d98ef855cec80b49f152c799642138", func := "loop.example/pub-g03328/laws.FnExactFieldSquare", spec := "fnExactFieldSquare", inPlace := ["math/bits.Add64", "math/bits.Sub64"], apart := false }
def FnExactFieldSquareSaid : Prop := fnExactFieldSquareRow.holds Try.pinned (OpenSpec.ofChange fnExactFieldSquareSpec)

/-- ITS FALSE NEIGHBOUR: 'it returns false'. Refute it at one input. -/
def fnExactFieldSquareWrong : ChangeSpec := { name := "fnExactFieldSquare", fn := fun _ => fun
  | [d] => { results := [.lit (.bool false)], args := [d] }
  | _ => none }
def FnExactFieldSquareWrongFalsely : Prop := fnExactFieldSquareRow.holds Try.pinned (OpenSpec.ofChange fnExactFieldSquareWrong)

/-- 'laws.FnFieldMultiplyOrder': WHATEVER THE INPUT: true; the input reads as it did. -/
def fnFieldMultiplyOrderSpec : ChangeSpec := { name := "fnFieldMultiplyOrder", fn := fun _ => fun
  | [d1, d2] => { results := [.lit (.bool true)], args := [d1, d2] }
  | _ => none }
def fnFieldMultiplyOrderRow : OpenClaim := { program := "ytachbdnefnnmfaa", sum := "b0933c29004a8d5d225dbfaa713c734c10d98ef855cec80b49f152c799642138", func := "loop.example/pub-g03328/laws.FnFieldMultiplyOrder", spec := "fnFieldMultiplyOrder", inPlace := ["math/bits.Add64"], apart := false }
def FnFieldMultiplyOrderSaid : Prop := fnFieldMultiplyOrderRow.holds Try.pinned (OpenSpec.ofChange fnFieldMultiplyOrderSpec)

/-- ITS FALSE NEIGHBOUR: 'it returns false'. Refute it at one input. -/
def fnFieldMultiplyOrderWrong : ChangeSpec := { name := "fnFieldMultiplyOrder", fn := fun _ => fun
  | [d1, d2] => { results := [.lit (.bool false)], args := [d1, d2] }
  | _ => none }
def FnFieldMultiplyOrderWrongFalsely : Prop := fnFieldMultiplyOrderRow.holds Try.pinned (OpenSpec.ofChange fnFieldMultiplyOrderWrong)

/-- 'laws.FnExactFieldMultiply': WHATEVER THE INPUT: true; the input reads as it did. -/
def fnExactFieldMultiplySpec : ChangeSpec := { name := "fnExactFieldMultiply", fn := fun _ => fun
  | [d1, d2] => { results := [.lit (.bool true)], args := [d1, d2] }
  | _ => none }
def fnExactFieldMultiplyRow : OpenClaim := { program := "ytachbdnefnnmfaa", sum := "b0933c29004a8d5d225dbfaa713c734c10d98ef855cec80b49f152c799642138", func := "loop.example/pub-g03328/laws.FnExactFieldMultiply", spec := "fnExactFieldMultiply", inPlace := ["math/bits.Add64", "math/bits.Sub64"], apart := false }
def FnExactFieldMultiplySaid : Prop := fnExactFieldMultiplyRow.holds Try.pinned (OpenSpec.ofChange fnExactFieldMultiplySpec)

/-- ITS FALSE NEIGHBOUR: 'it returns false'. Refute it at one input. -/
def fnExactFieldMultiplyWrong : ChangeSpec := { name := "fnExactFieldMultiply", fn := fun _ => fun
  | [d1, d2] => { results := [.lit (.bool false)], args := [d1, d2] }
  | _ => none }
def FnExactFieldMultiplyWrongFalsely : Prop := fnExactFieldMultiplyRow.holds Try.pinned (OpenSpec.ofChange fnExactFieldMultiplyWrong)

/-- 'laws.FnFieldDistributes': WHATEVER THE INPUT: true; the input reads as it did. -/
def fnFieldDistributesSpec : ChangeSpec := { name := "fnFieldDistributes", fn := fun _ => fun
  | [d1, d2, d3] => { results := [.lit (.bool true)], args := [d1, d2, d3] }
  | _ => none }
def fnFieldDistributesRow : OpenClaim := { program := "ytachbdnefnnmfaa", sum := "b0933c29004a8d5d225dbfaa713c734c10d98ef855cec80b49f152c799642138", func := "loop.example/pub-g03328/laws.FnFieldDistributes", spec := "fnFieldDistributes", inPlace := ["math/bits.Add64"], apart := false }
def FnFieldDistributesSaid : Prop := fnFieldDistributesRow.holds Try.pinned (OpenSpec.ofChange fnFieldDistributesSpec)

/-- ITS FALSE NEIGHBOUR: 'it returns false'. Refute it at one input. -/
def fnFieldDistributesWrong : ChangeSpec := { name := "fnFieldDistributes", fn := fun _ => fun
  | [d1, d2, d3] => { results := [.lit (.bool false)], args := [d1, d2, d3] }
  | _ => none }
def FnFieldDistributesWrongFalsely : Prop := fnFieldDistributesRow.holds Try.pinned (OpenSpec.ofChange fnFieldDistributesWrong)

/-- 'laws.FnFieldNoDivisorsOfZero': WHATEVER THE INPUT: true; the input reads as it did. -/
def fnFieldNoDivisorsOfZeroSpec : ChangeSpec := { name := "fnFieldNoDivisorsOfZero", fn := fun _ => fun
  | [d1, d2] => { results := [.lit (.bool true)], args := [d1, d2] }
  | _ => none }
def fnFieldNoDivisorsOfZeroRow : OpenClaim := { program := "ytachbdnefnnmfaa", sum := "b0933c29004a8d5d225dbfaa713c734c10d98ef855cec80b49f152c799642138", func := "loop.example/pub-g03328/laws.FnFieldNoDivisorsOfZero", spec := "fnFieldNoDivisorsOfZero", inPlace := ["math/bits.Add64"], apart := false }
def FnFieldNoDivisorsOfZeroSaid : Prop := fnFieldNoDivisorsOfZeroRow.holds Try.pinned (OpenSpec.ofChange fnFieldNoDivisorsOfZeroSpec)

/-- ITS FALSE NEIGHBOUR: 'it returns false'. Refute it at one input. -/
def fnFieldNoDivisorsOfZeroWrong : ChangeSpec := { name := "fnFieldNoDivisorsOfZero", fn := fun _ => fun
  | [d1, d2] => { results := [.lit (.bool false)], args := [d1, d2] }
  | _ => none }
def FnFieldNoDivisorsOfZeroWrongFalsely : Prop := fnFieldNoDivisorsOfZeroRow.holds Try.pinned (OpenSpec.ofChange fnFieldNoDivisorsOfZeroWrong)

/-- 'laws.FnFieldSquareNSteps': WHATEVER THE INPUT: true; the input reads as it did. -/
def fnFieldSquareNStepsSpec : ChangeSpec := { name := "fnFieldSquareNSteps", fn := fun _ => fun
  | [d1, d2, d3] => { results := [.lit (.bool true)], args := [d1, d2, d3] }
  | _ => none }
def fnFieldSquareNStepsRow : OpenClaim := { program := "ytachbdnefnnmfaa", sum := "b0933c29004a8d5d225dbfaa713c734c10d98ef855cec80b49f152c799642138", func := "loop.example/pub-g03328/laws.FnFieldSquareNSteps", spec := "fnFieldSquareNSteps", inPlace := ["math/bits.Add64"], apart := false }
def FnFieldSquareNStepsSaid : Prop := fnFieldSquareNStepsRow.holds Try.pinned (OpenSpec.ofChange fnFieldSquareNStepsSpec)

/-- ITS FALSE NEIGHBOUR: 'it returns false'. Refute it at one input. -/
def fnFieldSquareNStepsWrong : ChangeSpec := { name := "fnFieldSquareNSteps", fn := fun _ => fun
  | [d1, d2, d3] => { results := [.lit (.bool false)], args := [d1, d2, d3] }
  | _ => none }
def FnFieldSquareNStepsWrongFalsely : Prop := fnFieldSquareNStepsRow.holds Try.pinned (OpenSpec.ofChange fnFieldSquareNStepsWrong)

/-- 'laws.FnFieldSquareProduct': WHATEVER THE INPUT: true; the input reads as it did. -/
def fnFieldSquareProductSpec : ChangeSpec := { name := "fnFieldSquareProduct", fn := fun _ => fun
  | [d] => { results := [.lit (.bool true)], args := [d] }
  | _ => none }
def fnFieldSquareProductRow : OpenClaim := { program := "ytachbdnefnnmfaa", sum := "b0933c29004a8d5d225dbfaa713c734c10d98ef855cec80b49f152c799642138", func := "loop.example/pub-g03328/laws.FnFieldSquareProduct", spec := "fnFieldSquareProduct", inPlace := ["math/bits.Add64"], apart := false }
def FnFieldSquareProductSaid : Prop := fnFieldSquareProductRow.holds Try.pinned (OpenSpec.ofChange fnFieldSquareProductSpec)

/-- ITS FALSE NEIGHBOUR: 'it returns false'. Refute it at one input. -/
def fnFieldSquareProductWrong : ChangeSpec := { name := "fnFieldSquareProduct", fn := fun _ => fun
  | [d] => { results := [.lit (.bool false)], args := [d] }
  | _ => none }
def FnFieldSquareProductWrongFalsely : Prop := fnFieldSquareProductRow.holds Try.pinned (OpenSpec.ofChange fnFieldSquareProductWrong)

/-- 'laws.FnFieldInvertTwice': WHATEVER THE INPUT: true; the input reads as it did. -/
def fnFieldInvertTwiceSpec : ChangeSpec := { name := "fnFieldInvertTwice", fn := fun _ => fun
  | [d] => { results := [.lit (.bool true)], args := [d] }
  | _ => none }
def fnFieldInvertTwiceRow : OpenClaim := { program := "ytachbdnefnnmfaa", sum := "b0933c29004a8d5d225dbfaa713c734c10d98ef855cec80b49f152c799642138", func := "loop.example/pub-g03328/laws.FnFieldInvertTwice", spec := "fnFieldInvertTwice", inPlace := ["math/bits.Add64"], apart := false }
def FnFieldInvertTwiceSaid : Prop := fnFieldInvertTwiceRow.holds Try.pinned (OpenSpec.ofChange fnFieldInvertTwiceSpec)

/-- ITS FALSE NEIGHBOUR: 'it returns false'. Refute it at one input. -/
def fnFieldInvertTwiceWrong : ChangeSpec := { name := "fnFieldInvertTwice", fn := fun _ => fun
  | [d] => { results := [.lit (.bool false)], args := [d] }
  | _ => none }
def FnFieldInvertTwiceWrongFalsely : Prop := fnFieldInvertTwiceRow.holds Try.pinned (OpenSpec.ofChange fnFieldInvertTwiceWrong)

/-- 'laws.FnFieldPower': WHATEVER THE INPUT: true; the input reads as it did. -/
def fnFieldPowerSpec : ChangeSpec := { name := "fnFieldPower", fn := fun _ => fun
  | [d] => { results := [.lit (.bool true)], args := [d] }
  | _ => none }
def fnFieldPowerRow : OpenClaim := { program := "ytachbdnefnnmfaa", sum := "b0933c29004a8d5d225dbfaa713c734c10d98ef855cec80b49f152c799642138", func := "loop.example/pub-g03328/laws.FnFieldPower", spec := "fnFieldPower", inPlace := ["math/bits.Add64"], apart := false }
def FnFieldPowerSaid : Prop := fnFieldPowerRow.holds Try.pinned (OpenSpec.ofChange fnFieldPowerSpec)

/-- ITS FALSE NEIGHBOUR: 'it returns false'. Refute it at one input. -/
def fnFieldPowerWrong : ChangeSpec := { name := "fnFieldPower", fn := fun _ => fun
  | [d] => { results := [.lit (.bool false)], args := [d] }
  | _ => none }
def FnFieldPowerWrongFalsely : Prop := fnFieldPowerRow.holds Try.pinned (OpenSpec.ofChange fnFieldPowerWrong)

/- THE SECOND FORM. 'bulk': how many values and letters a reading holds, each counted each time it is reached (what is shared counts as often as it is met; a slice's spare places count too). A statement '..UptoSaid' is the law's where the arguments, and the package variables that the reading takes, are together of bulk at most 1048576: NARROWER than '..Said'. Prove '..Said' where nothing that the law and all that it calls make is longer than what came in: it says more and counts as full. Else prove '..UptoSaid'. A law counts once. -/
mutual
def uptoBulk {H : Type} : DataW H → Nat
  | .lit (.string bytes) => bytes.length + 1
  | .lit _ => 1
  | .nil => 1
  | .ptr d => uptoBulk d + 1
  | .slice elems spare => uptoBulkAll elems + uptoBulkAll spare + 1
  | .agg parts => uptoBulkAll parts + 1
  | .iface _ d => uptoBulk d + 1
  | .map entries => uptoBulkEntries entries + 1
  | .held _ => 1
def uptoBulkAll {H : Type} : List (DataW H) → Nat
  | [] => 0
  | d :: r => uptoBulk d + uptoBulkAll r
def uptoBulkEntries {H : Type} : List (Lit × DataW H) → Nat
  | [] => 0
  | x :: r => uptoBulkEntry x + uptoBulkEntries r
def uptoBulkEntry {H : Type} : Lit × DataW H → Nat
  | (.string bytes, d) => bytes.length + uptoBulk d + 1
  | (_, d) => uptoBulk d + 1
 end
def uptoSmall : (H : Type) → List (DataW H) → Bool := fun _ ds => decide (uptoBulkAll ds ≤ 1048576)
def OpenSpec.upto (s : _root_.Go.ChangeSpec) : _root_.Go.OpenSpec := { _root_.Go.OpenSpec.ofChange s with cond := some uptoSmall }

/-- 'laws.FnFieldRoundTrip', WHERE WHAT IT READS IS OF BULK AT MOST 1048576: true; the input reads as it did. -/
def fnFieldRoundTripUptoRow : OpenClaim := { program := "ytachbdnefnnmfaa", sum := "b0933c29004a8d5d225dbfaa713c734c10d98ef855cec80b49f152c799642138", func := "loop.example/pub-g03328/laws.FnFieldRoundTrip", spec := "fnFieldRoundTrip", apart := false, narrowed := true }
def FnFieldRoundTripUptoSaid : Prop := fnFieldRoundTripUptoRow.holds Try.pinned (OpenSpec.upto fnFieldRoundTripSpec)

/-- 'laws.FnFieldAddOrder', WHERE WHAT IT READS IS OF BULK AT MOST 1048576: true; the input reads as it did. -/
def fnFieldAddOrderUptoRow : OpenClaim := { program := "ytachbdnefnnmfaa", sum := "b0933c29004a8d5d225dbfaa713c734c10d98ef855cec80b49f152c799642138", func := "loop.example/pub-g03328/laws.FnFieldAddOrder", spec := "fnFieldAddOrder", apart := false, narrowed := true }
def FnFieldAddOrderUptoSaid : Prop := fnFieldAddOrderUptoRow.holds Try.pinned (OpenSpec.upto fnFieldAddOrderSpec)

/-- 'laws.FnExactFieldSetBytes', WHERE WHAT IT READS IS OF BULK AT MOST 1048576: true; the input reads as it did. -/
def fnExactFieldSetBytesUptoRow : OpenClaim := { program := "ytachbdnefnnmfaa", sum := "b0933c29004a8d5d225dbfaa713c734c10d98ef855cec80b49f152c799642138", func := "loop.example/pub-g03328/laws.FnExactFieldSetBytes", spec := "fnExactFieldSetBytes", inPlace := ["math/bits.Add64", "math/bits.Sub64"], apart := false, narrowed := true }
def FnExactFieldSetBytesUptoSaid : Prop := fnExactFieldSetBytesUptoRow.holds Try.pinned (OpenSpec.upto fnExactFieldSetBytesSpec)

/-- 'laws.FnExactFieldAdd', WHERE WHAT IT READS IS OF BULK AT MOST 1048576: true; the input reads as it did. -/
def fnExactFieldAddUptoRow : OpenClaim := { program := "ytachbdnefnnmfaa", sum := "b0933c29004a8d5d225dbfaa713c734c10d98ef855cec80b49f152c799642138", func := "loop.example/pub-g03328/laws.FnExactFieldAdd", spec := "fnExactFieldAdd", inPlace := ["math/bits.Add64", "math/bits.Sub64"], apart := false, narrowed := true }
def FnExactFieldAddUptoSaid : Prop := fnExactFieldAddUptoRow.holds Try.pinned (OpenSpec.upto fnExactFieldAddSpec)

/-- 'laws.FnExactFieldEqual', WHERE WHAT IT READS IS OF BULK AT MOST 1048576: true; the input reads as it did. -/
def fnExactFieldEqualUptoRow : OpenClaim := { program := "ytachbdnefnnmfaa", sum := "b0933c29004a8d5d225dbfaa713c734c10d98ef855cec80b49f152c799642138", func := "loop.example/pub-g03328/laws.FnExactFieldEqual", spec := "fnExactFieldEqual", inPlace := ["math/bits.Add64", "math/bits.Sub64"], apart := false, narrowed := true }
def FnExactFieldEqualUptoSaid : Prop := fnExactFieldEqualUptoRow.holds Try.pinned (OpenSpec.upto fnExactFieldEqualSpec)

/-- 'laws.FnExactFieldSelect', WHERE WHAT IT READS IS OF BULK AT MOST 1048576: true; the input reads as it did. -/
def fnExactFieldSelectUptoRow : OpenClaim := { program := "ytachbdnefnnmfaa", sum := "b0933c29004a8d5d225dbfaa713c734c10d98ef855cec80b49f152c799642138", func := "loop.example/pub-g03328/laws.FnExactFieldSelect", spec := "fnExactFieldSelect", inPlace := ["math/bits.Add64", "math/bits.Sub64"], apart := false, narrowed := true }
def FnExactFieldSelectUptoSaid : Prop := fnExactFieldSelectUptoRow.holds Try.pinned (OpenSpec.upto fnExactFieldSelectSpec)

/-- 'laws.FnFieldSwapSelects', WHERE WHAT IT READS IS OF BULK AT MOST 1048576: true; the input reads as it did. -/
def fnFieldSwapSelectsUptoRow : OpenClaim := { program := "ytachbdnefnnmfaa", sum := "b0933c29004a8d5d225dbfaa713c734c10d98ef855cec80b49f152c799642138", func := "loop.example/pub-g03328/laws.FnFieldSwapSelects", spec := "fnFieldSwapSelects", apart := false, narrowed := true }
def FnFieldSwapSelectsUptoSaid : Prop := fnFieldSwapSelectsUptoRow.holds Try.pinned (OpenSpec.upto fnFieldSwapSelectsSpec)

/-- 'laws.FnExactFieldSquareN', WHERE WHAT IT READS IS OF BULK AT MOST 1048576: true; the input reads as it did. -/
def fnExactFieldSquareNUptoRow : OpenClaim := { program := "ytachbdnefnnmfaa", sum := "b0933c29004a8d5d225dbfaa713c734c10d98ef855cec80b49f152c799642138", func := "loop.example/pub-g03328/laws.FnExactFieldSquareN", spec := "fnExactFieldSquareN", inPlace := ["math/bits.Add64", "math/bits.Sub64"], apart := false, narrowed := true }
def FnExactFieldSquareNUptoSaid : Prop := fnExactFieldSquareNUptoRow.holds Try.pinned (OpenSpec.upto fnExactFieldSquareNSpec)

/-- 'laws.FnExactFieldSquare', WHERE WHAT IT READS IS OF BULK AT MOST 1048576: true; the input reads as it did. -/
def fnExactFieldSquareUptoRow : OpenClaim := { program := "ytachbdnefnnmfaa", sum := "b0933c29004a8d5d225dbfaa713c734c10d98ef855cec80b49f152c799642138", func := "loop.example/pub-g03328/laws.FnExactFieldSquare", spec := "fnExactFieldSquare", inPlace := ["math/bits.Add64", "math/bits.Sub64"], apart := false, narrowed := true }
def FnExactFieldSquareUptoSaid : Prop := fnExactFieldSquareUptoRow.holds Try.pinned (OpenSpec.upto fnExactFieldSquareSpec)

/-- 'laws.FnFieldMultiplyOrder', WHERE WHAT IT READS IS OF BULK AT MOST 1048576: true; the input reads as it did. -/
def fnFieldMultiplyOrderUptoRow : OpenClaim := { program := "ytachbdnefnnmfaa", sum := "b0933c29004a8d5d225dbfaa713c734c10d98ef855cec80b49f152c799642138", func := "loop.example/pub-g03328/laws.FnFieldMultiplyOrder", spec := "fnFieldMultiplyOrder", inPlace := ["math/bits.Add64"], apart := false, narrowed := true }
def FnFieldMultiplyOrderUptoSaid : Prop := fnFieldMultiplyOrderUptoRow.holds Try.pinned (OpenSpec.upto fnFieldMultiplyOrderSpec)

/-- 'laws.FnExactFieldMultiply', WHERE WHAT IT READS IS OF BULK AT MOST 1048576: true; the input reads as it did. -/
def fnExactFieldMultiplyUptoRow : OpenClaim := { program := "ytachbdnefnnmfaa", sum := "b0933c29004a8d5d225dbfaa713c734c10d98ef855cec80b49f152c799642138", func := "loop.example/pub-g03328/laws.FnExactFieldMultiply", spec := "fnExactFieldMultiply", inPlace := ["math/bits.Add64", "math/bits.Sub64"], apart := false, narrowed := true }
def FnExactFieldMultiplyUptoSaid : Prop := fnExactFieldMultiplyUptoRow.holds Try.pinned (OpenSpec.upto fnExactFieldMultiplySpec)

/-- 'laws.FnFieldDistributes', WHERE WHAT IT READS IS OF BULK AT MOST 1048576: true; the input reads as it did. -/
def fnFieldDistributesUptoRow : OpenClaim := { program := "ytachbdnefnnmfaa", sum := "b0933c29004a8d5d225dbfaa713c734c10d98ef855cec80b49f152c799642138", func := "loop.example/pub-g03328/laws.FnFieldDistributes", spec := "fnFieldDistributes", inPlace := ["math/bits.Add64"], apart := false, narrowed := true }
def FnFieldDistributesUptoSaid : Prop := fnFieldDistributesUptoRow.holds Try.pinned (OpenSpec.upto fnFieldDistributesSpec)

/-- 'laws.FnFieldNoDivisorsOfZero', WHERE WHAT IT READS IS OF BULK AT MOST 1048576: true; the input reads as it did. -/
def fnFieldNoDivisorsOfZeroUptoRow : OpenClaim := { program := "ytachbdnefnnmfaa", sum := "b0933c29004a8d5d225dbfaa713c734c10d98ef855cec80b49f152c799642138", func := "loop.example/pub-g03328/laws.FnFieldNoDivisorsOfZero", spec := "fnFieldNoDivisorsOfZero", inPlace := ["math/bits.Add64"], apart := false, narrowed := true }
def FnFieldNoDivisorsOfZeroUptoSaid : Prop := fnFieldNoDivisorsOfZeroUptoRow.holds Try.pinned (OpenSpec.upto fnFieldNoDivisorsOfZeroSpec)

/-- 'laws.FnFieldSquareNSteps', WHERE WHAT IT READS IS OF BULK AT MOST 1048576: true; the input reads as it did. -/
def fnFieldSquareNStepsUptoRow : OpenClaim := { program := "ytachbdnefnnmfaa", sum := "b0933c29004a8d5d225dbfaa713c734c10d98ef855cec80b49f152c799642138", func := "loop.example/pub-g03328/laws.FnFieldSquareNSteps", spec := "fnFieldSquareNSteps", inPlace := ["math/bits.Add64"], apart := false, narrowed := true }
def FnFieldSquareNStepsUptoSaid : Prop := fnFieldSquareNStepsUptoRow.holds Try.pinned (OpenSpec.upto fnFieldSquareNStepsSpec)

/-- 'laws.FnFieldSquareProduct', WHERE WHAT IT READS IS OF BULK AT MOST 1048576: true; the input reads as it did. -/
def fnFieldSquareProductUptoRow : OpenClaim := { program := "ytachbdnefnnmfaa", sum := "b0933c29004a8d5d225dbfaa713c734c10d98ef855cec80b49f152c799642138", func := "loop.example/pub-g03328/laws.FnFieldSquareProduct", spec := "fnFieldSquareProduct", inPlace := ["math/bits.Add64"], apart := false, narrowed := true }
def FnFieldSquareProductUptoSaid : Prop := fnFieldSquareProductUptoRow.holds Try.pinned (OpenSpec.upto fnFieldSquareProductSpec)

/-- 'laws.FnFieldInvertTwice', WHERE WHAT IT READS IS OF BULK AT MOST 1048576: true; the input reads as it did. -/
def fnFieldInvertTwiceUptoRow : OpenClaim := { program := "ytachbdnefnnmfaa", sum := "b0933c29004a8d5d225dbfaa713c734c10d98ef855cec80b49f152c799642138", func := "loop.example/pub-g03328/laws.FnFieldInvertTwice", spec := "fnFieldInvertTwice", inPlace := ["math/bits.Add64"], apart := false, narrowed := true }
def FnFieldInvertTwiceUptoSaid : Prop := fnFieldInvertTwiceUptoRow.holds Try.pinned (OpenSpec.upto fnFieldInvertTwiceSpec)

/-- 'laws.FnFieldPower', WHERE WHAT IT READS IS OF BULK AT MOST 1048576: true; the input reads as it did. -/
def fnFieldPowerUptoRow : OpenClaim := { program := "ytachbdnefnnmfaa", sum := "b0933c29004a8d5d225dbfaa713c734c10d98ef855cec80b49f152c799642138", func := "loop.example/pub-g03328/laws.FnFieldPower", spec := "fnFieldPower", inPlace := ["math/bits.Add64"], apart := false, narrowed := true }
def FnFieldPowerUptoSaid : Prop := fnFieldPowerUptoRow.holds Try.pinned (OpenSpec.upto fnFieldPowerSpec)

end Rows
end Go.Proofs.Ytachbdnefnnmfaa
