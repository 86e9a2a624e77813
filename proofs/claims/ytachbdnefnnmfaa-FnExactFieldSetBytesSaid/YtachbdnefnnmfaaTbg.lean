/- The table of rules, with SetBytes of a slice of any length. No condition. -/
import Derived.Test.YtachbdnefnnmfaaTbf
import Derived.Test.YtachbdnefnnmfaaSbo
namespace Go.Proofs.Ytachbdnefnnmfaa
open Go Go.RowKit
def tabG : List (Nat × Rule) := (45, sboRule 81) :: tabF
theorem tabG_ok : TabOk tabG := .cons (sboRule_ok sb_c sbo_c) tabF_ok
end Go.Proofs.Ytachbdnefnnmfaa
