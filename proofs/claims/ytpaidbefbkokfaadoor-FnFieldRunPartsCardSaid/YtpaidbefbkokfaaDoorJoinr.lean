/- From a law's call to its row: slices of arrays of 32 bytes, slices of operations. No condition. -/
import Derived.Test.YtpaidbefbkokfaaDoorFr7
import Derived.Test.YtpaidbefbkokfaaDoorBy
import Derived.Test.YtpaidbefbkokfaaDoorRows
import Derived.ProofKit
import Derived.OpenShut
import Derived.SizedLaws
import Derived.Deep.Slices
import Derived.Deep.Strs
import Derived.JoinedOf
import Derived.KernelRfl
namespace Go.Proofs.YtpaidbefbkokfaaDoor
open Go Go.ChangeShapes Go.WideShapes Go.ChangeAt Go.RowKit Go.Deep
set_option linter.unusedVariables false
set_option linter.unusedSimpArgs false
set_option maxRecDepth 100000

theorem own_ok : ownKnob Tryd.prog.godebug = none := by kernel_rfl
theorem laid_ok : laidOutB Tryd.prog = true := by kernel_rfl
theorem underB : Tryd.prog.underlying 4 = some .bool := by kernel_rfl
theorem underI : Tryd.prog.underlying 3 = some (.int .i64) := by kernel_rfl
theorem underW : Tryd.prog.underlying 31 = some (.int .u32) := by kernel_rfl
theorem under8 : Tryd.prog.underlying 5 = some (.int .u8) := by kernel_rfl
theorem underA : Tryd.prog.underlying 28 = some (.array 32 5) := by kernel_rfl
theorem underSA : Tryd.prog.underlying 22 = some (.slice 28) := by kernel_rfl
theorem underSO : Tryd.prog.underlying 23 = some (.slice 33) := by kernel_rfl
noncomputable def opFs : Array Field := match Tryd.prog.underlying 33 with | some (.struct fs) => fs | _ => #[]
theorem underO : Tryd.prog.underlying 33 = some (.struct opFs) := by kernel_rfl
theorem opFs_at : opFs.toList.map (fun f => (f.type, f.offset)) = [(3, 0), (3, 1), (3, 2), (3, 3), (31, 4)] := by kernel_rfl
theorem cells8 : Tryd.prog.cellsOf 5 = 1 := by kernel_rfl
theorem cellsI : Tryd.prog.cellsOf 3 = 1 := by kernel_rfl
theorem cellsW : Tryd.prog.cellsOf 31 = 1 := by kernel_rfl
theorem cellsA : Tryd.prog.cellsOf 28 = 32 := by kernel_rfl
theorem cellsO : Tryd.prog.cellsOf 33 = 5 := by kernel_rfl
theorem bytesA : Tryd.prog.bytesOf 28 = 32 := by kernel_rfl
theorem opF_at {t : Nat} {ty : TypeId} {o : Nat} (h : [(3, 0), (3, 1), (3, 2), (3, 3), (31, 4)][t]? = some (ty, o)) : ∃ f, opFs[t]? = some f ∧ f.type = ty ∧ f.offset = o := by
  rw [← opFs_at, List.getElem?_map, Option.map_eq_some_iff] at h
  obtain ⟨f, hf, e⟩ := h
  obtain ⟨rfl, rfl⟩ := Prod.mk.inj e
  exact ⟨f, by simpa using hf, rfl, rfl⟩
section
variable {H : Type} {enc : TypeId × Value → H} {W : World} {base base' : Nat} {sp : Nat → Bool} {held : Bool}
/-- The cells of an array of 32 bytes are a number's bytes. -/
theorem bytes_cells {fuel : Nat} {cs : List Value} {x : DataW H × List MemPlace} (h : DataW.trod enc Tryd.prog W base sp held fuel 28 cs = some x) : ∃ N, ∀ j, j < 32 → cs[j]? = some (.int .u8 ((octet N j : Nat) : Int)) := by
  obtain ⟨xs, m, _, _, hl, hlen, hx⟩ := DataW.trod_array underA h
  rw [cellsA] at hl
  have hcell : ∀ i, i < 32 → ∃ a : Int, (0 ≤ a ∧ a < 256) ∧ cs[i]? = some (.int .u8 a) := by
    intro i hi
    have h1 := hx i hi
    rw [cells8, Nat.mul_one] at h1
    have hxi : xs[i]? = some (xs[i]'(by omega)) := by simp [hlen, hi]
    rw [hxi] at h1
    obtain ⟨a, ea, _, wa⟩ := DataW.trod_int under8 h1
    have hb := bounds_u8 wa
    refine ⟨a, ⟨hb.1, by omega⟩, ?_⟩
    have h2 : ((cs.drop i).take 1)[0]? = some (Value.int .u8 a) := by rw [ea]; rfl
    rw [List.getElem?_take_of_lt (by omega), List.getElem?_drop] at h2
    simpa using h2
  let zs : List Int := cs.map fun v => match v with
    | .int _ a => a
    | _ => 0
  have hz : ∀ i, i < 32 → ∃ a : Int, (0 ≤ a ∧ a < 256) ∧ zs[i]? = some a ∧ cs[i]? = some (.int .u8 a) := by
    intro i hi
    obtain ⟨a, hb, hc⟩ := hcell i hi
    exact ⟨a, hb, by simp only [zs, List.getElem?_map, hc, Option.map_some], hc⟩
  have hzl : zs.length = 32 := by simp only [zs, List.length_map, hl]
  have hzb : ∀ y ∈ zs, 0 ≤ y ∧ y < 256 := by
    intro y hy
    obtain ⟨i, hi⟩ := List.getElem?_of_mem hy
    have hil : i < 32 := by rw [← hzl]; exact (List.getElem?_eq_some_iff.1 hi).1
    obtain ⟨a, hb, ha, _⟩ := hz i hil
    rw [hi] at ha
    cases ha
    exact hb
  refine ⟨ofB zs, fun j hj => ?_⟩
  obtain ⟨a, _, ha, hc⟩ := hz j hj
  rw [hc, ofB_octet hzb ha]
/-- The cells of an operation. -/
theorem op_cells {fuel : Nat} {cs : List Value} {x : DataW H × List MemPlace} (h : DataW.trod enc Tryd.prog W base sp held fuel 33 cs = some x) : ∃ o : Opr, o.Fits ∧ ∀ (t : Nat) (v : Value), (opCells o)[t]? = some v → cs[t]? = some v := by
  obtain ⟨xs, m, _, _, hl, hlen, hx⟩ := DataW.trod_struct underO h
  rw [cellsO] at hl
  have hsz : opFs.size = 5 := by kernel_rfl
  have key : ∀ (t : Nat) (ty : TypeId) (k : IntKind), [(3, 0), (3, 1), (3, 2), (3, 3), (31, 4)][t]? = some (ty, t) → Tryd.prog.cellsOf ty = 1 → Tryd.prog.underlying ty = some (.int k) → ∃ a : Int, (Lit.int k a).wf = true ∧ cs[t]? = some (.int k a) := by
    intro t ty k h1 h2 h3
    obtain ⟨f, hf, e1, e2⟩ := opF_at h1
    have ht : t < 5 := by rw [← hsz]; exact (Array.getElem?_eq_some_iff.1 hf).1
    have h4 := hx t f hf
    rw [e1, e2, h2, List.getElem?_eq_getElem (by omega)] at h4
    obtain ⟨a, ea, _, wa⟩ := DataW.trod_int h3 h4
    refine ⟨a, wa, ?_⟩
    have h5 : ((cs.drop t).take 1)[0]? = some (Value.int k a) := by rw [ea]; rfl
    rw [List.getElem?_take_of_lt (by omega), List.getElem?_drop] at h5
    simpa using h5
  obtain ⟨a0, w0, c0⟩ := key 0 _ _ rfl cellsI underI
  obtain ⟨a1, w1, c1⟩ := key 1 _ _ rfl cellsI underI
  obtain ⟨a2, w2, c2⟩ := key 2 _ _ rfl cellsI underI
  obtain ⟨a3, w3, c3⟩ := key 3 _ _ rfl cellsI underI
  obtain ⟨a4, w4, c4⟩ := key 4 _ _ rfl cellsW underW
  have i64 : ∀ {a : Int}, (Lit.int .i64 a).wf = true → inR .i64 a := fun h => by
    have hb := bounds_i64 h
    exact ⟨hb.1, by show _ < (9223372036854775808 : Int); omega⟩
  have hb4 : 0 ≤ a4 ∧ a4 < 4294967296 := by
    have h := w4
    simp [Lit.wf, IntKind.min, IntKind.max, IntKind.signed, IntKind.bits] at h
    omega
  refine ⟨⟨a0, a1, a2, a3, a4.toNat⟩, ⟨i64 w0, i64 w1, i64 w2, i64 w3, by show a4.toNat < _; omega⟩, fun t v ht => ?_⟩
  have e4 : ((a4.toNat : Nat) : Int) = a4 := Int.toNat_of_nonneg hb4.1
  unfold opCells at ht
  simp only [e4] at ht
  match t, ht with
  | 0, ht => rw [c0]; exact ht
  | 1, ht => rw [c1]; exact ht
  | 2, ht => rw [c2]; exact ht
  | 3, ht => rw [c3]; exact ht
  | 4, ht => rw [c4]; exact ht
  | t + 5, ht => simp at ht
theorem add_at (b s i j : Nat) : ((⟨b, s, none⟩ : Addr).add i).add j = ⟨b, s + i + j, none⟩ := by
  rw [add_add]
  unfold Addr.add
  split
  · rename_i h
    obtain ⟨rfl, rfl⟩ : i = 0 ∧ j = 0 := by omega
    rfl
  · simp [Nat.add_assoc]
theorem has_none {t e : TypeId} {a : Addr} {l c : Nat} (ht : Tryd.prog.underlying t = some (.slice e)) (hv : Value.okWide Tryd.prog W .any base' t (.slice (some a) l c)) : (c : Int) ≤ 9223372036854775807 ∧ a.spot = none := by
  simp only [Value.okWide, Cell.okWide, Cell.ok, ht] at hv
  exact ⟨hv.2.1, hv.2.2.2.1⟩
/-- A slice of arrays of 32 bytes. -/
theorem open_byS {v : Value} {d : DataW H} {p : List MemPlace} (hv : Value.okWide Tryd.prog W .any base' 22 v) (h : DataW.Trod enc Tryd.prog W base sp held 22 v d p) :
    ∃ a n c N, v = .slice a n c ∧ ByS W v n N ∧ (n : Int) ≤ 9223372036854775807 ∧ (n = 0 ∨ ∃ el sl, d = .slice el sl ∧ el.length = n) := by
  obtain ⟨a, n, c, rfl⟩ := okWide_slice underSA hv
  obtain ⟨fuel, hf⟩ := h
  have hf' : DataW.trod enc Tryd.prog W base sp held fuel 22 [.slice a n c] = some (d, p) := by simpa [Value.cells] using hf
  rcases open_slice underSA hf' with ⟨h1, h2⟩ | ⟨a', l', c', m, k, D, Pl, h1, hb, hl, hm, hmm, hx, hall⟩
  · obtain ⟨rfl, rfl, rfl⟩ : a = none ∧ n = 0 ∧ c = 0 := by simpa using h1
    exact ⟨_, _, _, fun _ => 0, rfl, ⟨_, _, rfl, fun i hi => by omega⟩, by decide, .inl rfl⟩
  · obtain ⟨rfl, rfl, rfl⟩ : a = some a' ∧ n = l' ∧ c = c' := by simpa using h1
    obtain ⟨hc, hs⟩ := has_none underSA hv
    obtain ⟨b, s, spt⟩ := a'
    obtain rfl : spt = none := hs
    have hnm : n ≤ m := by rw [hmm]; split <;> omega
    obtain ⟨N, hN⟩ := choose_lt (α := Nat) (n := n) (p := fun i N => ∀ j, j < 32 → W.cell? ⟨b, s + i * 32 + j, none⟩ = some (.int .u8 ((octet N j : Nat) : Int))) fun i hi => by
      obtain ⟨cs', k1, k2⟩ := hall i (by omega)
      obtain ⟨N, hN⟩ := bytes_cells k2
      rw [cellsA] at k1
      obtain ⟨_, _, k3⟩ := World.cells?_some k1
      exact ⟨N, fun j hj => by rw [← hN j hj, ← k3 j hj, add_at]⟩
    refine ⟨_, _, _, N, rfl, ⟨_, _, rfl, fun i hi => ⟨b, s, rfl, fun j hj => hN i hi j hj⟩⟩, by omega, .inr ⟨_, _, (Prod.mk.inj hx).1, by simp⟩⟩
/-- A slice of operations. -/
theorem open_opS {v : Value} {d : DataW H} {p : List MemPlace} (hv : Value.okWide Tryd.prog W .any base' 23 v) (h : DataW.Trod enc Tryd.prog W base sp held 23 v d p) :
    ∃ ops : Nat → Opr, (v = .slice none 0 0) ∨ ∃ b s L c, v = .slice (some ⟨b, s, none⟩) L c ∧ OpS W v L ops ∧ L ≤ c ∧ (c : Int) ≤ 9223372036854775807 := by
  obtain ⟨a, n, c, rfl⟩ := okWide_slice underSO hv
  obtain ⟨fuel, hf⟩ := h
  have hf' : DataW.trod enc Tryd.prog W base sp held fuel 23 [.slice a n c] = some (d, p) := by simpa [Value.cells] using hf
  rcases open_slice underSO hf' with ⟨h1, h2⟩ | ⟨a', l', c', m, k, D, Pl, h1, hb, hl, hm, hmm, hx, hall⟩
  · obtain ⟨rfl, rfl, rfl⟩ : a = none ∧ n = 0 ∧ c = 0 := by simpa using h1
    exact ⟨fun _ => ⟨0, 0, 0, 0, 0⟩, .inl rfl⟩
  · obtain ⟨rfl, rfl, rfl⟩ : a = some a' ∧ n = l' ∧ c = c' := by simpa using h1
    obtain ⟨hc, hs⟩ := has_none underSO hv
    obtain ⟨b, s, spt⟩ := a'
    obtain rfl : spt = none := hs
    have hnm : n ≤ m := by rw [hmm]; split <;> omega
    haveI : Inhabited Opr := ⟨⟨0, 0, 0, 0, 0⟩⟩
    obtain ⟨ops, hO⟩ := choose_lt (α := Opr) (n := n) (p := fun i o => o.Fits ∧ ∀ t v, (opCells o)[t]? = some v → W.cell? ⟨b, s + i * 5 + t, none⟩ = some v) fun i hi => by
      obtain ⟨cs', k1, k2⟩ := hall i (by omega)
      obtain ⟨o, hf, hN⟩ := op_cells k2
      rw [cellsO] at k1
      obtain ⟨_, _, k3⟩ := World.cells?_some k1
      refine ⟨o, hf, fun t v ht => ?_⟩
      have ht5 : t < 5 := (List.getElem?_eq_some_iff.1 ht).1
      rw [← hN t v ht, ← k3 t ht5, add_at]
    exact ⟨ops, .inr ⟨_, _, _, _, rfl, ⟨_, _, rfl, fun i hi => ⟨(hO i hi).1, b, s, rfl, (hO i hi).2⟩⟩, hl, hc⟩⟩
end
end Go.Proofs.YtpaidbefbkokfaaDoor

/- The head of the dump, read sign by sign; the closed facts of a row out of its parts. No condition. -/
namespace Go.Proofs.YtpaidbefbkokfaaDoor
open Go
set_option linter.unusedVariables false

def sp : Char := Char.ofNat 32
def joinW : List (List Char) → List Char
  | [] => []
  | [w] => w
  | w :: v :: ws => w ++ sp :: joinW (v :: ws)
theorem ws_nosp : ∀ (w : List Char), w.all (fun c => !(c == sp)) = true → wordsSigns w = [w]
  | [], _ => rfl
  | c :: w, h => by
    simp only [List.all_cons, Bool.and_eq_true, Bool.not_eq_true', beq_eq_false_iff_ne] at h
    have ih := ws_nosp w h.2
    rw [wordsSigns.eq_3 _ _ (fun e => h.1 e), ih]
theorem ws_app (r : List Char) : ∀ (w : List Char), w.all (fun c => !(c == sp)) = true → wordsSigns (w ++ sp :: r) = w :: wordsSigns r
  | [], _ => by simp only [List.nil_append]; rfl
  | c :: w, h => by
    simp only [List.all_cons, Bool.and_eq_true, Bool.not_eq_true', beq_eq_false_iff_ne] at h
    have ih := ws_app r w h.2
    simp only [List.cons_append]
    rw [wordsSigns.eq_3 _ _ (fun e => h.1 e), ih]
theorem ws_join : ∀ (ws : List (List Char)), ws ≠ [] → ws.all (fun w => w.all (fun c => !(c == sp))) = true → wordsSigns (joinW ws) = ws
  | [], h, _ => absurd rfl h
  | [w], _, h => by
    simp only [List.all_cons, List.all_nil, Bool.and_true] at h
    exact ws_nosp w h
  | w :: v :: ws, _, h => by
    rw [List.all_cons, Bool.and_eq_true] at h
    simp only [joinW]
    rw [ws_app _ w h.1, ws_join (v :: ws) (by simp) h.2]
def headW : List (List Char) := [[104, 97, 114, 110, 101, 115, 115], [102, 50, 99, 99, 99, 52, 55, 51, 55, 97, 97, 102, 51, 51, 49, 48, 98, 57, 55, 49, 99, 100, 50, 54, 50, 50, 97, 56, 52, 57, 55, 52, 98, 101, 98, 100, 49, 51, 49, 57, 54, 55, 56, 49, 98, 55, 51, 53, 98, 57, 101, 57, 101, 51, 57, 56, 51, 50, 51, 97, 98, 53, 54, 102], [99, 117, 116], [97, 116], [108, 111, 111, 112, 46, 101, 120, 97, 109, 112, 108, 101, 47, 112, 117, 98, 45, 103, 48, 51, 51, 50, 56, 47, 108, 97, 119, 115, 46, 70, 110, 70, 105, 101, 108, 100, 82, 117, 110, 80, 97, 114, 116, 115]].map (·.map Char.ofNat)
theorem head_ofList : Tryd.prog.initOrder = String.ofList (joinW headW) := by kernel_rfl
theorem head_words : wordsSigns Tryd.prog.initOrder.toList = headW := by rw [head_ofList, String.toList_ofList, ws_join headW (by simp [headW]) (by kernel_rfl)]
def cutW : List Char := [Char.ofNat 99, Char.ofNat 117, Char.ofNat 116]
theorem head_behind : behindMainWord headW = cutW :: headW.drop 3 := by kernel_rfl
theorem head_is : behindMainWord (wordsSigns Tryd.prog.initOrder.toList) = cutW :: headW.drop 3 := by rw [head_words]; exact head_behind
theorem make_of (P : Program) (r : List (List Char)) (h : behindMainWord (wordsSigns P.initOrder.toList) = cutW :: r) : P.make = some .cut := by
  unfold Program.make
  rw [h]
  kernel_rfl
theorem lifts_of (P : Program) (r : List (List Char)) (h : behindMainWord (wordsSigns P.initOrder.toList) = cutW :: r) : P.liftsFinal = false := by
  unfold Program.liftsFinal Program.headLifts
  rw [h]
  kernel_rfl
theorem enter_of (P : Program) (r : List (List Char)) (h : behindMainWord (wordsSigns P.initOrder.toList) = cutW :: r) (h1 : P.laysLater = false) (h2 : P.bearsReflect = false) (h3 : P.doorFits [] = true) : P.mayEnter = true := by
  unfold Program.mayEnter
  rw [h]
  have e : stripLifts liftWords (cutW :: r) = ([], cutW :: r) := by kernel_rfl
  have e1 : (stripLifts liftWords (cutW :: r)).1 = [] := by rw [e]
  have e2 : (stripLifts liftWords (cutW :: r)).2 = cutW :: r := by rw [e]
  dsimp only
  rw [e1, e2, h1, h2, h3]
  rfl
theorem lays_ok : Tryd.prog.laysLater = false := by kernel_rfl
theorem refl_ok : Tryd.prog.bearsReflect = false := by kernel_rfl
theorem door_ok : Tryd.prog.doorFits [] = true := by kernel_rfl
theorem mayEnter_ok : Tryd.prog.mayEnter = true := enter_of _ _ head_is lays_ok refl_ok door_ok
theorem lifts_ok : Tryd.prog.liftsFinal = false := lifts_of _ _ head_is
theorem make_ok : Tryd.prog.make = some .cut := make_of _ _ head_is
theorem joined_of {P : Program} {f : FuncId} {fn : Func} {s : ChangeSpec} {c : OpenClaim} (m1 : P.mayEnter = true) (m2 : P.liftsFinal = false) (m3 : P.make = some .cut) (c2 : c.lifted = false) (c3 : c.make = .cut)
    (h1 : (c.wf (OpenSpec.ofChange s) && laidOutB P && mapsRowed P && fn.params.all (P.readableRec ·) && namedTie P c.named s.vars) = true)
    (h2 : ((c.stops == []) && (P.stops == []) && (c.knobs == []) && (P.stopKnobs == [])) = true)
    (h3 : (c.inPlace == P.inPlace f) = true) (h4 : (c.unfollowed == P.unfollowed f) = true) (h5 : (c.recurses == P.recurses f) = true) (h6 : (c.named == P.varsNamed f) = true)
    (h7 : ((c.maps == (fn.params.toList ++ s.plain.varTypes P).any (P.mapsRec ·)) && (c.ifaces == (fn.params.toList ++ s.plain.varTypes P).any (P.ifacesRec ·)) && (c.mapsOut == P.mapsAmong fn.resultTypes.toList) && (c.loops == (fn.params.toList ++ s.plain.varTypes P).any (P.loopsFrom ·)) && (c.wideKeys == (fn.params.toList ++ s.plain.varTypes P ++ fn.resultTypes.toList).any (P.wideKeysFrom ·))) = true)
    (h8 : (s.vars.all (P.varReadable ·) && fn.resultTypes.all (fun t => P.readableRec t && decide (t < P.types.size)) && (c.ifacesOut == fn.resultTypes.toList.any (P.ifacesRec ·)) && (c.loopsOut == fn.resultTypes.toList.any (P.loopsFrom ·)) && (c.plainKeys == P.plainKeys) && c.shortTexts.isNone && P.stopsHeard) = true)
    (h9 : ((c.kinds == (if c.domain.isEmpty then [] else fn.params.toList.map fun t => match P.underlying t with | some (.int k) => some k | _ => none)) && (c.pinned == c.pinnedBy)) = true)
    (h10 : ((c.veiled == (fn.params.toList ++ s.plain.varTypes P ++ fn.resultTypes.toList).any (P.veiledRec ·)) && c.veiledFits P fn.params.toList (fn.params.toList ++ s.plain.varTypes P ++ fn.resultTypes.toList)) = true) :
    joinedFacts P f fn s c = true := by
  have e2 : (c.lifted == P.liftsFinal) = true := by rw [m2, c2]; rfl
  have e3 : (P.make == some c.make) = true := by rw [m3, c3]; rfl
  unfold joinedFacts
  simp only [Bool.and_eq_true] at h1 h2 h7 h8 h9 h10 ⊢
  obtain ⟨⟨⟨⟨a1, a2⟩, a3⟩, a4⟩, a5⟩ := h1
  obtain ⟨⟨⟨b1, b2⟩, b3⟩, b4⟩ := h2
  obtain ⟨⟨⟨⟨d1, d2⟩, d3⟩, d4⟩, d5⟩ := h7
  obtain ⟨⟨⟨⟨⟨⟨g1, g2⟩, g3⟩, g4⟩, g5⟩, g6⟩, g7⟩ := h8
  exact ⟨⟨⟨⟨⟨⟨⟨⟨⟨⟨⟨⟨⟨⟨⟨⟨⟨⟨⟨⟨⟨⟨⟨⟨⟨⟨⟨⟨⟨⟨⟨a1, a2⟩, a3⟩, a4⟩, a5⟩, b1⟩, b2⟩, b3⟩, b4⟩, h3⟩, h4⟩, h5⟩, h6⟩, d1⟩, d2⟩, d3⟩, d4⟩, d5⟩, g1⟩, g2⟩, g3⟩, g4⟩, g5⟩, g6⟩, g7⟩, m1⟩, e2⟩, e3⟩, h9.1⟩, h9.2⟩, h10.1⟩, h10.2⟩
end Go.Proofs.YtpaidbefbkokfaaDoor
