/- The table of rules, with slice. No condition. -/
import Derived.Test.YtachbdnefnnmfaaTbe
import Derived.Test.YtachbdnefnnmfaaSli
namespace Go.Proofs.Ytachbdnefnnmfaa
open Go Go.RowKit
def tabF : List (Nat × Rule) := (22, sliRule) :: tabE
theorem tabF_ok : TabOk tabF := .cons (sliRule_ok slice_c) tabE_ok
end Go.Proofs.Ytachbdnefnnmfaa
