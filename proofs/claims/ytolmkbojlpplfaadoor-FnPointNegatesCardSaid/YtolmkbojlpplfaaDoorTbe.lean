/- The table of rules for the field's functions and the reference's. No condition. -/
import Derived.Test.YtolmkbojlpplfaaDoorElm
import Derived.Test.YtolmkbojlpplfaaDoorByd
import Derived.Test.YtolmkbojlpplfaaDoorSqn
import Derived.Test.YtolmkbojlpplfaaDoorSwp
import Derived.Test.YtolmkbojlpplfaaDoorElem
namespace Go.Proofs.YtolmkbojlpplfaaDoor
open Go Go.RowKit
set_option linter.unusedVariables false

def tabE : List (Nat × Rule) :=
  (60, elRule 2 [] .mul true noChk) ::
  (57, elRule 1 [] .sq true noChk) ::
  (62, elRule 2 [] .add true noChk) ::
  (64, elRule 2 [.i64] .sel true chkB) ::
  (106, elRule 1 [.i64] .sqN false chkN) ::
  (55, sbRule) ::
  (88, bytesRule) ::
  (89, cmpRule) ::
  (43, numRule [.byt] [.num .elem] .one noChkN) ::
  tabR
theorem tabE_ok : TabOk tabE := by
  unfold tabE
  refine .cons (elRule_ok mulF_el fun _ _ _ _ _ => trivial) ?_
  refine .cons (elRule_ok sqF_el fun _ _ _ _ _ => trivial) ?_
  refine .cons (elRule_ok addF_el fun _ _ _ _ _ => trivial) ?_
  refine .cons (elRule_ok selF_el chkB_ok) ?_
  refine .cons (elRule_ok sqn_el chkN_ok) ?_
  refine .cons (sbRule_ok sb_c) ?_
  refine .cons (bytesRule_ok bytes_c) ?_
  refine .cons (cmpRule_ok cmp_c) ?_
  refine .cons (numRule_ok elem_c fun _ _ _ _ _ _ => trivial) ?_
  exact tabR_ok
end Go.Proofs.YtolmkbojlpplfaaDoor
