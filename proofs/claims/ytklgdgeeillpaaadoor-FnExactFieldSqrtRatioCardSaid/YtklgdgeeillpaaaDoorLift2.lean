/- Integers among a law's arguments. No condition. -/
import Derived.Test.YtklgdgeeillpaaaDoorLift
import Derived.Test.YtklgdgeeillpaaaDoorLaw2
namespace Go.Proofs.YtklgdgeeillpaaaDoor
open Go Go.ChangeShapes Go.WideShapes Go.ChangeAt Go.RowKit
set_option linter.unusedVariables false
set_option linter.unusedSimpArgs false
set_option maxRecDepth 100000

theorem under3 : Tryd.prog.underlying 3 = some (.int .i64) := by kernel_rfl
theorem open_i64 {H : Type} {enc : TypeId × Value → H} {W : World} {base base' : Nat} {sp : Nat → Bool} {held : Bool} {v : Value} {d : DataW H} {p : List MemPlace} (hv : Value.okWide Tryd.prog W .any base 3 v) (h : DataW.Trod enc Tryd.prog W base' sp held 3 v d p) : ∃ n, inR .i64 n ∧ v = .int .i64 n := by
  obtain ⟨a, rfl, _, _, wa⟩ := open_int under3 hv h
  have hb := bounds_i64 wa
  exact ⟨a, ⟨hb.1, by show a < 9223372036854775808; omega⟩, rfl⟩
end Go.Proofs.YtklgdgeeillpaaaDoor
