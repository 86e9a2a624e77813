/- The table of rules, with Subtract, minus and power. No condition. -/
import Derived.Test.YtklgdgeeillpaaaDoorTbe
import Derived.Test.YtklgdgeeillpaaaDoorSub
import Derived.Test.YtklgdgeeillpaaaDoorMin
import Derived.Test.YtklgdgeeillpaaaDoorPow
namespace Go.Proofs.YtklgdgeeillpaaaDoor
open Go Go.RowKit
def tabD : List (Nat × Rule) :=
  (26, elRule 2 [] .sub true noChk) ::
  (72, numRule [.num, .num, .num] [.num .minus] .one noChkN) ::
  (76, numRule [.num, .num, .num] [.num .power] .one noChkN) :: tabE
theorem tabD_ok : TabOk tabD := by
  unfold tabD
  refine .cons (elRule_ok subF_el fun _ _ _ _ _ => trivial) ?_
  refine .cons (numRule_ok minus_c fun _ _ _ _ _ _ => trivial) ?_
  refine .cons (numRule_ok power_c fun _ _ _ _ _ _ => trivial) ?_
  exact tabE_ok
end Go.Proofs.YtklgdgeeillpaaaDoor
