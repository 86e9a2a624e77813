/- A table of rules: times, octets, plus. No condition. -/
import Derived.Test.YtolmkbojlpplfaaDoorSpc
namespace Go.Proofs.YtolmkbojlpplfaaDoor
open Go Go.RowKit

def tabT : List (Nat × Rule) := (44, numRule [.num, .num, .num] [.num .times] .one noChkN) :: (53, octRule) :: tabP
theorem tabT_ok : TabOk tabT := .cons (numRule_ok times_c fun _ _ _ _ _ _ => trivial) (.cons (octRule_ok oct_c) tabP_ok)
end Go.Proofs.YtolmkbojlpplfaaDoor
