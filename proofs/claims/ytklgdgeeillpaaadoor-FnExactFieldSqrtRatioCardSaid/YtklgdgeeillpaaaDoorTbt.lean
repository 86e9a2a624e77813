/- A table of rules: times, octets, plus. No condition. -/
import Derived.Test.YtklgdgeeillpaaaDoorSpc
namespace Go.Proofs.YtklgdgeeillpaaaDoor
open Go Go.RowKit

def tabT : List (Nat × Rule) := (53, numRule [.num, .num, .num] [.num .times] .one noChkN) :: (31, octRule) :: tabP
theorem tabT_ok : TabOk tabT := .cons (numRule_ok times_c fun _ _ _ _ _ _ => trivial) (.cons (octRule_ok oct_c) tabP_ok)
end Go.Proofs.YtklgdgeeillpaaaDoor
