/- The table of rules for functions over elements. No condition. -/
import Derived.Test.YtachbdnefnnmfaaElm
import Derived.Test.YtachbdnefnnmfaaByc
namespace Go.Proofs.Ytachbdnefnnmfaa
open Go Go.RowKit
set_option linter.unusedVariables false

def chk01 (_ : List Ent) : List Sx → Bool
  | [.c (Int.ofNat 0)] => true
  | [.c (Int.ofNat 1)] => true
  | _ => false
theorem chk01_ok (ρ : Env) (tr : List Ent) (xs : List Sx) (_ : Sat ρ tr) (h : chk01 tr xs = true) : Pre01 (xs.map (Sx.val ρ)) := by
  unfold chk01 at h
  split at h
  · exact ⟨0, rfl, .inl rfl⟩
  · exact ⟨1, rfl, .inr rfl⟩
  · cases h
def tabE : List (Nat × Rule) :=
  (58, elRule 2 [] .mul true noChk) ::
  (57, elRule 1 [] .sq true noChk) ::
  (47, elRule 2 [] .add true noChk) ::
  (53, elRule 2 [.i64] .sel true chk01) ::
  (44, elOfRule) ::
  (46, elByRule) :: tabW
theorem tabE_ok : TabOk tabE := by
  unfold tabE
  refine .cons (elRule_ok mulF_el fun _ _ _ _ _ => trivial) ?_
  refine .cons (elRule_ok sqF_el fun _ _ _ _ _ => trivial) ?_
  refine .cons (elRule_ok addF_el fun _ _ _ _ _ => trivial) ?_
  refine .cons (elRule_ok selF_el chk01_ok) ?_
  refine .cons (elOfRule_ok elOf_c) ?_
  refine .cons (elByRule_ok elBy_c) ?_
  exact tabW_ok
end Go.Proofs.Ytachbdnefnnmfaa
