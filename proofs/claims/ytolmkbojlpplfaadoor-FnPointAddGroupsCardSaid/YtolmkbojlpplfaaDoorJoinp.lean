/- The head of the dump, read sign by sign; the closed facts of a row out of its parts. No condition. -/
import Derived.Test.YtolmkbojlpplfaaDoorRows
import Derived.JoinedOf
import Derived.KernelRfl
namespace Go.Proofs.YtolmkbojlpplfaaDoor
open Go
set_option linter.unusedVariables false

def sp : Char := Char.ofNat 32
def joinW : List (List Char) → List Char
  | [] => []
  | [w] => w
  | w :: v :: ws => w ++ sp :: joinW (v :: ws)
theorem ws_nosp : ∀ (w : List Char), w.all (fun c => !(c == sp)) = true → wordsSigns w = [w]
  | [], _ => rfl
  | c :: w, h => by
    simp only [List.all_cons, Bool.and_eq_true, Bool.not_eq_true', beq_eq_false_iff_ne] at h
    have ih := ws_nosp w h.2
    rw [wordsSigns.eq_3 _ _ (fun e => h.1 e), ih]
theorem ws_app (r : List Char) : ∀ (w : List Char), w.all (fun c => !(c == sp)) = true → wordsSigns (w ++ sp :: r) = w :: wordsSigns r
  | [], _ => by simp only [List.nil_append]; rfl
  | c :: w, h => by
    simp only [List.all_cons, Bool.and_eq_true, Bool.not_eq_true', beq_eq_false_iff_ne] at h
    have ih := ws_app r w h.2
    simp only [List.cons_append]
    rw [wordsSigns.eq_3 _ _ (fun e => h.1 e), ih]
theorem ws_join : ∀ (ws : List (List Char)), ws ≠ [] → ws.all (fun w => w.all (fun c => !(c == sp))) = true → wordsSigns (joinW ws) = ws
  | [], h, _ => absurd rfl h
  | [w], _, h => by
    simp only [List.all_cons, List.all_nil, Bool.and_true] at h
    exact ws_nosp w h
  | w :: v :: ws, _, h => by
    rw [List.all_cons, Bool.and_eq_true] at h
    simp only [joinW]
    rw [ws_app _ w h.1, ws_join (v :: ws) (by simp) h.2]
def headW : List (List Char) := [[104, 97, 114, 110, 101, 115, 115], [54, 101, 53, 51, 57, 57, 98, 51, 100, 97, 99, 99, 55, 55, 102, 50, 52, 97, 54, 52, 100, 56, 51, 99, 99, 101, 53, 49, 55, 101, 49, 100, 54, 99, 49, 49, 54, 56, 56, 51, 54, 99, 48, 99, 97, 48, 97, 54, 48, 48, 52, 52, 54, 100, 55, 100, 53, 51, 53, 48, 97, 50, 56, 55], [99, 117, 116], [97, 116], [108, 111, 111, 112, 46, 101, 120, 97, 109, 112, 108, 101, 47, 112, 117, 98, 45, 103, 48, 51, 51, 50, 56, 47, 108, 97, 119, 115, 46, 70, 110, 69, 120, 97, 99, 116, 80, 111, 105, 110, 116, 78, 101, 103, 97, 116, 101], [108, 111, 111, 112, 46, 101, 120, 97, 109, 112, 108, 101, 47, 112, 117, 98, 45, 103, 48, 51, 51, 50, 56, 47, 108, 97, 119, 115, 46, 70, 110, 80, 111, 105, 110, 116, 83, 105, 103, 110], [108, 111, 111, 112, 46, 101, 120, 97, 109, 112, 108, 101, 47, 112, 117, 98, 45, 103, 48, 51, 51, 50, 56, 47, 108, 97, 119, 115, 46, 70, 110, 80, 111, 105, 110, 116, 69, 113, 117, 97, 108, 66, 121, 116, 101, 115], [108, 111, 111, 112, 46, 101, 120, 97, 109, 112, 108, 101, 47, 112, 117, 98, 45, 103, 48, 51, 51, 50, 56, 47, 108, 97, 119, 115, 46, 70, 110, 69, 120, 97, 99, 116, 80, 111, 105, 110, 116, 71, 101, 110, 101, 114, 97, 116, 111, 114], [108, 111, 111, 112, 46, 101, 120, 97, 109, 112, 108, 101, 47, 112, 117, 98, 45, 103, 48, 51, 51, 50, 56, 47, 108, 97, 119, 115, 46, 70, 110, 69, 120, 97, 99, 116, 80, 111, 105, 110, 116, 65, 100, 100], [108, 111, 111, 112, 46, 101, 120, 97, 109, 112, 108, 101, 47, 112, 117, 98, 45, 103, 48, 51, 51, 50, 56, 47, 108, 97, 119, 115, 46, 70, 110, 80, 111, 105, 110, 116, 65, 100, 100, 71, 114, 111, 117, 112, 115], [108, 111, 111, 112, 46, 101, 120, 97, 109, 112, 108, 101, 47, 112, 117, 98, 45, 103, 48, 51, 51, 50, 56, 47, 108, 97, 119, 115, 46, 70, 110, 80, 111, 105, 110, 116, 78, 101, 103, 97, 116, 101, 115]].map (·.map Char.ofNat)
theorem head_ofList : Tryd.prog.initOrder = String.ofList (joinW headW) := by kernel_rfl
theorem head_words : wordsSigns Tryd.prog.initOrder.toList = headW := by rw [head_ofList, String.toList_ofList, ws_join headW (by simp [headW]) (by kernel_rfl)]
def cutW : List Char := [Char.ofNat 99, Char.ofNat 117, Char.ofNat 116]
theorem head_behind : behindMainWord headW = cutW :: headW.drop 3 := by kernel_rfl
theorem head_is : behindMainWord (wordsSigns Tryd.prog.initOrder.toList) = cutW :: headW.drop 3 := by rw [head_words]; exact head_behind
theorem make_of (P : Program) (r : List (List Char)) (h : behindMainWord (wordsSigns P.initOrder.toList) = cutW :: r) : P.make = some .cut := by
  unfold Program.make
  rw [h]
  kernel_rfl
theorem lifts_of (P : Program) (r : List (List Char)) (h : behindMainWord (wordsSigns P.initOrder.toList) = cutW :: r) : P.liftsFinal = false := by
  unfold Program.liftsFinal Program.headLifts
  rw [h]
  kernel_rfl
theorem enter_of (P : Program) (r : List (List Char)) (h : behindMainWord (wordsSigns P.initOrder.toList) = cutW :: r) (h1 : P.laysLater = false) (h2 : P.bearsReflect = false) (h3 : P.doorFits [] = true) : P.mayEnter = true := by
  unfold Program.mayEnter
  rw [h]
  have e : stripLifts liftWords (cutW :: r) = ([], cutW :: r) := by kernel_rfl
  have e1 : (stripLifts liftWords (cutW :: r)).1 = [] := by rw [e]
  have e2 : (stripLifts liftWords (cutW :: r)).2 = cutW :: r := by rw [e]
  dsimp only
  rw [e1, e2, h1, h2, h3]
  rfl
theorem lays_ok : Tryd.prog.laysLater = false := by kernel_rfl
theorem refl_ok : Tryd.prog.bearsReflect = false := by kernel_rfl
theorem door_ok : Tryd.prog.doorFits [] = true := by kernel_rfl
theorem mayEnter_ok : Tryd.prog.mayEnter = true := enter_of _ _ head_is lays_ok refl_ok door_ok
theorem lifts_ok : Tryd.prog.liftsFinal = false := lifts_of _ _ head_is
theorem make_ok : Tryd.prog.make = some .cut := make_of _ _ head_is
theorem joined_of {P : Program} {f : FuncId} {fn : Func} {s : ChangeSpec} {c : OpenClaim} (m1 : P.mayEnter = true) (m2 : P.liftsFinal = false) (m3 : P.make = some .cut) (c2 : c.lifted = false) (c3 : c.make = .cut)
    (h1 : (c.wf (OpenSpec.ofChange s) && laidOutB P && mapsRowed P && fn.params.all (P.readableRec ·) && namedTie P c.named s.vars) = true)
    (h2 : ((c.stops == []) && (P.stops == []) && (c.knobs == []) && (P.stopKnobs == [])) = true)
    (h3 : (c.inPlace == P.inPlace f) = true) (h4 : (c.unfollowed == P.unfollowed f) = true) (h5 : (c.recurses == P.recurses f) = true) (h6 : (c.named == P.varsNamed f) = true)
    (h7 : ((c.maps == (fn.params.toList ++ s.plain.varTypes P).any (P.mapsRec ·)) && (c.ifaces == (fn.params.toList ++ s.plain.varTypes P).any (P.ifacesRec ·)) && (c.mapsOut == P.mapsAmong fn.resultTypes.toList) && (c.loops == (fn.params.toList ++ s.plain.varTypes P).any (P.loopsFrom ·)) && (c.wideKeys == (fn.params.toList ++ s.plain.varTypes P ++ fn.resultTypes.toList).any (P.wideKeysFrom ·))) = true)
    (h8 : (s.vars.all (P.varReadable ·) && fn.resultTypes.all (fun t => P.readableRec t && decide (t < P.types.size)) && (c.ifacesOut == fn.resultTypes.toList.any (P.ifacesRec ·)) && (c.loopsOut == fn.resultTypes.toList.any (P.loopsFrom ·)) && (c.plainKeys == P.plainKeys) && c.shortTexts.isNone && P.stopsHeard) = true)
    (h9 : ((c.kinds == (if c.domain.isEmpty then [] else fn.params.toList.map fun t => match P.underlying t with | some (.int k) => some k | _ => none)) && (c.pinned == c.pinnedBy)) = true)
    (h10 : ((c.veiled == (fn.params.toList ++ s.plain.varTypes P ++ fn.resultTypes.toList).any (P.veiledRec ·)) && c.veiledFits P fn.params.toList (fn.params.toList ++ s.plain.varTypes P ++ fn.resultTypes.toList)) = true) :
    joinedFacts P f fn s c = true := by
  have e2 : (c.lifted == P.liftsFinal) = true := by rw [m2, c2]; rfl
  have e3 : (P.make == some c.make) = true := by rw [m3, c3]; rfl
  unfold joinedFacts
  simp only [Bool.and_eq_true] at h1 h2 h7 h8 h9 h10 ⊢
  obtain ⟨⟨⟨⟨a1, a2⟩, a3⟩, a4⟩, a5⟩ := h1
  obtain ⟨⟨⟨b1, b2⟩, b3⟩, b4⟩ := h2
  obtain ⟨⟨⟨⟨d1, d2⟩, d3⟩, d4⟩, d5⟩ := h7
  obtain ⟨⟨⟨⟨⟨⟨g1, g2⟩, g3⟩, g4⟩, g5⟩, g6⟩, g7⟩ := h8
  exact ⟨⟨⟨⟨⟨⟨⟨⟨⟨⟨⟨⟨⟨⟨⟨⟨⟨⟨⟨⟨⟨⟨⟨⟨⟨⟨⟨⟨⟨⟨⟨a1, a2⟩, a3⟩, a4⟩, a5⟩, b1⟩, b2⟩, b3⟩, b4⟩, h3⟩, h4⟩, h5⟩, h6⟩, d1⟩, d2⟩, d3⟩, d4⟩, d5⟩, g1⟩, g2⟩, g3⟩, g4⟩, g5⟩, g6⟩, g7⟩, m1⟩, e2⟩, e3⟩, h9.1⟩, h9.2⟩, h10.1⟩, h10.2⟩
end Go.Proofs.YtolmkbojlpplfaaDoor
