/- The table of rules for the field's functions and the reference's. No condition. -/
import Derived.Test.YtachbdnefnnmfaaElm
import Derived.Test.YtachbdnefnnmfaaByd
import Derived.Test.YtachbdnefnnmfaaSqn
import Derived.Test.YtachbdnefnnmfaaSwp
import Derived.Test.YtachbdnefnnmfaaElem
namespace Go.Proofs.Ytachbdnefnnmfaa
open Go Go.RowKit
set_option linter.unusedVariables false

def tabE : List (Nat × Rule) :=
  (58, elRule 2 [] .mul true noChk) ::
  (57, elRule 1 [] .sq true noChk) ::
  (47, elRule 2 [] .add true noChk) ::
  (53, elRule 2 [.i64] .sel true chkB) ::
  (71, elRule 1 [.i64] .sqN false chkN) ::
  (45, sbRule) ::
  (64, bytesRule) ::
  (69, cmpRule) ::
  (54, swRule) ::
  (49, numRule [.byt] [.num .elem] .one noChkN) ::
  (56, numRule [.num, .int .i64] [.num .sqs] .one noChkN) ::
  (23, numRule [.byt, .byt] [.bool .nlt] .one noChkN) :: tabR
theorem tabE_ok : TabOk tabE := by
  unfold tabE
  refine .cons (elRule_ok mulF_el fun _ _ _ _ _ => trivial) ?_
  refine .cons (elRule_ok sqF_el fun _ _ _ _ _ => trivial) ?_
  refine .cons (elRule_ok addF_el fun _ _ _ _ _ => trivial) ?_
  refine .cons (elRule_ok selF_el chkB_ok) ?_
  refine .cons (elRule_ok sqn_el chkN_ok) ?_
  refine .cons (sbRule_ok sb_c) ?_
  refine .cons (bytesRule_ok bytes_c) ?_
  refine .cons (cmpRule_ok cmp_c) ?_
  refine .cons (swRule_ok sw_c) ?_
  refine .cons (numRule_ok elem_c fun _ _ _ _ _ _ => trivial) ?_
  refine .cons (numRule_ok sqs_c fun _ _ _ _ _ _ => trivial) ?_
  refine .cons (numRule_ok low_c fun _ _ _ _ _ _ => trivial) ?_
  exact tabR_ok
end Go.Proofs.Ytachbdnefnnmfaa
