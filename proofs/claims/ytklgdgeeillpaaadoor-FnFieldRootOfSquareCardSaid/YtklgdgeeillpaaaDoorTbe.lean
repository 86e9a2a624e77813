/- The table of rules for the field's functions and the reference's. No condition. -/
import Derived.Test.YtklgdgeeillpaaaDoorElm
import Derived.Test.YtklgdgeeillpaaaDoorByd
import Derived.Test.YtklgdgeeillpaaaDoorSqn
import Derived.Test.YtklgdgeeillpaaaDoorSwp
import Derived.Test.YtklgdgeeillpaaaDoorElem
namespace Go.Proofs.YtklgdgeeillpaaaDoor
open Go Go.RowKit
set_option linter.unusedVariables false

def tabE : List (Nat × Rule) :=
  (37, elRule 2 [] .mul true noChk) ::
  (38, elRule 1 [] .sq true noChk) ::
  (28, elRule 2 [] .add true noChk) ::
  (45, elRule 2 [.i64] .sel true chkB) ::
  (84, elRule 1 [.i64] .sqN false chkN) ::
  (44, sbRule) ::
  (42, bytesRule) ::
  (74, cmpRule) ::
  (61, swRule) ::
  (33, numRule [.byt] [.num .elem] .one noChkN) ::
  tabR
theorem tabE_ok : TabOk tabE := by
  unfold tabE
  refine .cons (elRule_ok mulF_el fun _ _ _ _ _ => trivial) ?_
  refine .cons (elRule_ok sqF_el fun _ _ _ _ _ => trivial) ?_
  refine .cons (elRule_ok addF_el fun _ _ _ _ _ => trivial) ?_
  refine .cons (elRule_ok selF_el chkB_ok) ?_
  refine .cons (elRule_ok sqn_el chkN_ok) ?_
  refine .cons (sbRule_ok sb_c) ?_
  refine .cons (bytesRule_ok bytes_c) ?_
  refine .cons (cmpRule_ok cmp_c) ?_
  refine .cons (swRule_ok sw_c) ?_
  refine .cons (numRule_ok elem_c fun _ _ _ _ _ _ => trivial) ?_
  exact tabR_ok
end Go.Proofs.YtklgdgeeillpaaaDoor
