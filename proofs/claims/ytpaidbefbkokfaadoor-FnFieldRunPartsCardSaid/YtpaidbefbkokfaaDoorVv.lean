/- Memory before a call with pointers in it; places apart. No condition. -/
import Derived.Test.YtpaidbefbkokfaaDoorLay
import Derived.ProofKit
import Derived.OpenShut
import Derived.LaidMore
import Derived.Test.YtpaidbefbkokfaaDoorRows
import Derived.Test.YtpaidbefbkokfaaDoorNum
import Derived.Test.YtpaidbefbkokfaaDoorBit
namespace Go.Proofs.YtpaidbefbkokfaaDoor
open Go Go.ChangeShapes Go.WideShapes Go.ChangeAt Go.RowKit
set_option linter.unusedVariables false
set_option linter.unusedSimpArgs false
set_option maxRecDepth 100000

/-- Memory that lies before a call, with pointers in it. -/
theorem mrep_ptr {ρ : Env} {w : World} {ps : List (Nat × Nat)} {M : List Chunk} (hl : ps.length = M.length)
    (h : ∀ (c : Nat) (p : Nat × Nat) (ch : Chunk), ps[c]? = some p → M[c]? = some ch → ch.wr = false ∧ p.1 < w.heap.size ∧ ∀ j x, ch.cells[j]? = some x → ∃ v, w.cell? ⟨p.1, p.2 + j, none⟩ = some v ∧ VRel ρ (adrL ps) x v)
    (hap : ∀ (c c' : Nat) (p p' : Nat × Nat) (ch ch' : Chunk), c < c' → ps[c]? = some p → ps[c']? = some p' → M[c]? = some ch → M[c']? = some ch' → Apart ch.cells.length ch'.cells.length p p') : MRep ρ (fun _ _ => False) w (adrL ps) M w := by
  refine ⟨Fr.refl _ _, fun c hc => by unfold adrL; exact List.getElem?_eq_none (by omega), ?_, ?_, ?_, ?_⟩
  · intro c ch b s hc ha j x hx
    exact (h c (b, s) ch ha hc).2.2 j x hx
  · intro c b s ha
    have hlt : c < M.length := by rw [← hl]; exact (List.getElem?_eq_some_iff.1 ha).1
    exact (h c (b, s) M[c] ha (by simp [hlt])).2.1
  · intro c ch b s hc ha hw j hj
    rw [(h c (b, s) ch ha hc).1] at hw
    cases hw
  · intro c c' ch ch' b s b' s' hne hc hc' ha ha'
    rcases Nat.lt_or_gt_of_ne hne with h1 | h1
    · exact hap c c' (b, s) (b', s') ch ch' h1 ha ha' hc hc'
    · have := hap c' c (b', s') (b, s) ch' ch h1 ha' ha hc' hc
      simp only [Apart] at this; omega
theorem cell_ptr {ρ : Env} {w : World} {g c : Nat} {q : Nat × Nat} (h : w.cell? ⟨g, 0, none⟩ = some (ptrV q)) {ps : List (Nat × Nat)} (hc : adrL ps c = some q) :
    ∀ j x, ([SV.ptr c 0] : List SV)[j]? = some x → ∃ v, w.cell? ⟨g, 0 + j, none⟩ = some v ∧ VRel ρ (adrL ps) x v := by
  intro j x hx
  match j with
  | 0 =>
    simp only [List.getElem?_cons_zero, Option.some.injEq] at hx
    subst hx
    refine ⟨_, h, ?_⟩
    simp only [VRel]
    exact ⟨q.1, q.2, hc, rfl⟩
  | j + 1 => simp at hx
def placesOf : List ((Nat × Nat) × Nat) → List MemPlace
  | [] => []
  | x :: l => MemPlace.row ⟨x.1.1, x.1.2, none⟩ x.2 ++ placesOf l
theorem row_sub : ∀ {l : List ((Nat × Nat) × Nat)} {c : Nat} {x : (Nat × Nat) × Nat}, l[c]? = some x → ∀ y ∈ MemPlace.row ⟨x.1.1, x.1.2, none⟩ x.2, y ∈ placesOf l
  | [], c, x, h => by simp at h
  | z :: l, 0, x, h => by
    simp only [List.getElem?_cons_zero, Option.some.injEq] at h
    subst h
    exact fun y hy => List.mem_append_left _ hy
  | z :: l, c + 1, x, h => fun y hy => List.mem_append_right _ (row_sub (by simpa using h) y hy)
theorem apart_places : ∀ {l : List ((Nat × Nat) × Nat)}, (placesOf l).Nodup → (∀ x ∈ l, 0 < x.2) → ∀ {c c' : Nat} {p p' : Nat × Nat} {n n' : Nat}, c < c' → l[c]? = some (p, n) → l[c']? = some (p', n') → Apart n n' p p'
  | [], _, _, c, c', p, p', n, n', _, h, _ => by simp at h
  | z :: l, hnd, hpos, c + 1, c' + 1, p, p', n, n', hlt, h, h' =>
    apart_places (l := l) (c := c) (c' := c') (List.nodup_append.1 hnd).2.1 (fun x hx => hpos x (List.mem_cons_of_mem _ hx)) (by omega) (by simpa using h) (by simpa using h')
  | z :: l, hnd, hpos, 0, c' + 1, p, p', n, n', hlt, h, h' => by
    simp only [List.getElem?_cons_zero, Option.some.injEq] at h
    simp only [List.getElem?_cons_succ] at h'
    subst h
    have hn : 0 < n := hpos (p, n) (by simp)
    have hm : 0 < n' := hpos (p', n') (List.mem_cons_of_mem _ (List.mem_of_getElem? h'))
    have h1 := (List.nodup_append.1 hnd).2.2
    have key : ∀ i j, i < n → j < n' → MemPlace.cell p.1 (p.2 + i) ≠ MemPlace.cell p'.1 (p'.2 + j) := by
      intro i j hi hj
      refine h1 _ ?_ _ (row_sub h' _ ?_)
      · exact List.mem_map.2 ⟨i, List.mem_range.2 hi, rfl⟩
      · exact List.mem_map.2 ⟨j, List.mem_range.2 hj, rfl⟩
    unfold Apart
    by_cases hb : p.1 = p'.1
    · by_cases h0 : p.2 + n ≤ p'.2
      · exact .inr (.inl h0)
      · by_cases h2 : p'.2 + n' ≤ p.2
        · exact .inr (.inr h2)
        · exfalso
          by_cases h3 : p.2 ≤ p'.2
          · exact key (p'.2 - p.2) 0 (by omega) (by omega) (by rw [hb]; congr 1; omega)
          · exact key 0 (p.2 - p'.2) (by omega) (by omega) (by rw [hb]; congr 1; omega)
    · exact .inl hb
  | z :: l, hnd, hpos, _, 0, p, p', n, n', hlt, h, h' => by omega
end Go.Proofs.YtpaidbefbkokfaaDoor

/- Variables that point to elements: what their readings say of the memory. No condition. -/
namespace Go.Proofs.YtpaidbefbkokfaaDoor
open Go Go.ChangeShapes Go.WideShapes Go.ChangeAt Go.RowKit
set_option linter.unusedVariables false
set_option linter.unusedSimpArgs false
set_option maxRecDepth 100000

theorem cellsE5 : Tryd.prog.cellsOf 41 = 5 := by kernel_rfl
theorem cellsU64 : Tryd.prog.cellsOf 39 = 1 := by kernel_rfl
theorem underU64 : Tryd.prog.underlying 39 = some (.int .u64) := by kernel_rfl
theorem underPE : Tryd.prog.underlying 29 = some (.pointer 41) := by kernel_rfl
def litD {H : Type} (a : Int) : DataW H := .lit (.int .u64 a)
def elD {H : Type} (a0 a1 a2 a3 a4 : Int) : DataW H := .ptr (.agg [litD a0, litD a1, litD a2, litD a3, litD a4])
/-- An element read as data: its five cells. -/
theorem of_trodE {H : Type} {enc : TypeId × Value → H} {W : World} {base fuel : Nat} {sp : Nat → Bool} {held : Bool} {cs : List Value} {x : DataW H × List MemPlace}
    (h : DataW.trod enc Tryd.prog W base sp held fuel 41 cs = some x) :
    ∃ a0 a1 a2 a3 a4 : Int, cs = [.int .u64 a0, .int .u64 a1, .int .u64 a2, .int .u64 a3, .int .u64 a4] ∧ x = (.agg [litD a0, litD a1, litD a2, litD a3, litD a4], []) := by
  obtain ⟨xs, n, _, rfl, hl, hn, hx⟩ := DataW.trod_struct Tryd.underlying41 h
  rw [cellsE5] at hl
  have h0 : DataW.trod enc Tryd.prog W base sp held n 39 ((cs.drop 0).take (Tryd.prog.cellsOf 39)) = xs[0]? := hx 0 _ rfl
  have h1 : DataW.trod enc Tryd.prog W base sp held n 39 ((cs.drop 1).take (Tryd.prog.cellsOf 39)) = xs[1]? := hx 1 _ rfl
  have h2 : DataW.trod enc Tryd.prog W base sp held n 39 ((cs.drop 2).take (Tryd.prog.cellsOf 39)) = xs[2]? := hx 2 _ rfl
  have h3 : DataW.trod enc Tryd.prog W base sp held n 39 ((cs.drop 3).take (Tryd.prog.cellsOf 39)) = xs[3]? := hx 3 _ rfl
  have h4 : DataW.trod enc Tryd.prog W base sp held n 39 ((cs.drop 4).take (Tryd.prog.cellsOf 39)) = xs[4]? := hx 4 _ rfl
  rw [cellsU64] at h0 h1 h2 h3 h4
  match cs, hl with
  | [c0, c1, c2, c3, c4], _ =>
    match xs, hn with
    | [x0, x1, x2, x3, x4], _ =>
      simp only [List.drop_succ_cons, List.drop_zero, List.take_succ_cons, List.take_zero, List.getElem?_cons_zero, List.getElem?_cons_succ] at h0 h1 h2 h3 h4
      obtain ⟨a0, e0, rfl, _⟩ := DataW.trod_int underU64 h0
      obtain ⟨a1, e1, rfl, _⟩ := DataW.trod_int underU64 h1
      obtain ⟨a2, e2, rfl, _⟩ := DataW.trod_int underU64 h2
      obtain ⟨a3, e3, rfl, _⟩ := DataW.trod_int underU64 h3
      obtain ⟨a4, e4, rfl, _⟩ := DataW.trod_int underU64 h4
      simp only [List.cons.injEq, and_true] at e0 e1 e2 e3 e4
      subst e0 e1 e2 e3 e4
      exact ⟨a0, a1, a2, a3, a4, rfl, rfl⟩
/-- A pointer to an element, read as data. -/
theorem of_trodPE {H : Type} {enc : TypeId × Value → H} {W : World} {base fuel : Nat} {sp : Nat → Bool} {held : Bool} {cs : List Value} {p : List MemPlace} {b0 b1 b2 b3 b4 : Int}
    (h : DataW.trod enc Tryd.prog W base sp held fuel 29 cs = some (elD b0 b1 b2 b3 b4, p)) :
    ∃ q : Nat × Nat, cs = [ptrV q] ∧ p = MemPlace.row ⟨q.1, q.2, none⟩ 5 ∧ ∀ j, j < 5 → W.cell? ⟨q.1, q.2 + j, none⟩ = some (.int .u64 ([b0, b1, b2, b3, b4].getD j 0)) := by
  rcases DataW.trod_pointer underPE h with ⟨_, hx⟩ | ⟨a, cs', y, n, _, rfl, hx, hc, hy⟩
  · simp only [elD, Prod.mk.injEq, reduceCtorEq, false_and] at hx
  · obtain ⟨a0, a1, a2, a3, a4, rfl, rfl⟩ := of_trodE hy
    simp only [elD, litD, Prod.mk.injEq, DataW.ptr.injEq, DataW.agg.injEq, List.cons.injEq, DataW.lit.injEq, Lit.int.injEq, true_and, and_true] at hx
    obtain ⟨⟨rfl, rfl, rfl, rfl, rfl⟩, rfl⟩ := hx
    rw [cellsE5] at hc
    obtain ⟨_, _, hcell⟩ := World.cells?_some hc
    obtain ⟨b, off, spot⟩ := a
    have h0 := hcell 0 (by omega)
    have hs : spot = none := by
      have := World.cell?_spot (show W.cell? ((⟨b, off, spot⟩ : Addr).add 0) = some _ from h0)
      simpa [Addr.add] using this
    subst hs
    refine ⟨(b, off), rfl, by rw [cellsE5, List.append_nil], fun j hj => ?_⟩
    have hj' := hcell j hj
    rw [Go.WideShapes.add_plain] at hj'
    rw [hj']
    match j, hj with
    | 0, _ => rfl
    | 1, _ => rfl
    | 2, _ => rfl
    | 3, _ => rfl
    | 4, _ => rfl
/-- A variable that points to an element. -/
def PtsTo (W : World) (g : Nat) (q : Nat × Nat) (e : Elt) : Prop := W.cell? ⟨g, 0, none⟩ = some (ptrV q) ∧ Rd W q e
theorem ptsTo_of {W : World} {n : String} {g fuel : Nat} {cs : Array Value} {p : List MemPlace} {b0 b1 b2 b3 b4 : Int} {H : Type} {enc : TypeId × Value → H} {sp : Nat → Bool} {held : Bool} {base : Nat}
    (hg : Tryd.prog.globalNamed n = some g) (hv : W.var? Tryd.prog n = some cs) (h : DataW.trod enc Tryd.prog W base sp held fuel 29 cs.toList = some (elD b0 b1 b2 b3 b4, p))
    (hb : 0 ≤ b0 ∧ 0 ≤ b1 ∧ 0 ≤ b2 ∧ 0 ≤ b3 ∧ 0 ≤ b4 ∧ b0 < BD ∧ b1 < BD ∧ b2 < BD ∧ b3 < BD ∧ b4 < BD) :
    ∃ q : Nat × Nat, PtsTo W g q (litE b0 b1 b2 b3 b4) ∧ cs.size = 1 ∧ p = MemPlace.row ⟨q.1, q.2, none⟩ 5 := by
  obtain ⟨q, hcs, rfl, hc⟩ := of_trodPE h
  refine ⟨q, ⟨?_, fun j hj => ?_⟩, ?_, rfl⟩
  · have := World.var?_cell hg hv 0
    have e : cs[0]? = some (ptrV q) := by rw [← Array.getElem?_toList, hcs]; rfl
    rw [e] at this
    simpa using this
  · rw [hc j hj]
    unfold litE
    rw [dif_pos hb]
    match j, hj with
    | 0, _ => rfl
    | 1, _ => rfl
    | 2, _ => rfl
    | 3, _ => rfl
    | 4, _ => rfl
  · rw [← Array.length_toList, hcs]; rfl
end Go.Proofs.YtpaidbefbkokfaaDoor

/- Package variables as memory before a call: feZero, feOne, sqrtM1. No condition. -/
namespace Go.Proofs.YtpaidbefbkokfaaDoor
open Go Go.ChangeShapes Go.WideShapes Go.ChangeAt Go.RowKit
set_option linter.unusedVariables false
set_option linter.unusedSimpArgs false
set_option maxRecDepth 100000

def laidV : List (String × DataW Unit) := [("loop.example/pub-g03328/pub/field.feZero", elD 0 0 0 0 0), ("loop.example/pub-g03328/pub/field.feOne", elD 1 0 0 0 0), ("loop.example/pub-g03328/pub/field.sqrtM1", elD 1718705420411056 234908883556509 2233514472574048 2117202627021982 765476049583133)]
def esV : List Elt := [litE 0 0 0 0 0, litE 1 0 0 0 0, litE 1718705420411056 234908883556509 2233514472574048 2117202627021982 765476049583133]
def memV : List Chunk := [⟨[.ptr 1 0], false⟩, ⟨limbs 0, false⟩, ⟨[.ptr 3 0], false⟩, ⟨limbs 1, false⟩, ⟨[.ptr 5 0], false⟩, ⟨limbs 2, false⟩]
def msV (n i : Nat) (o : List Bool) : Ms := ⟨memV, [], i, 0, 3, n, o, [(0, 0), (2, 2), (1, 4)]⟩
def envV (ns : List Nat) (xs : List Int) : Env := { envN ns xs with e := fun j => esV.getD j zeroE }
theorem gnV0 : Tryd.prog.globalNamed "loop.example/pub-g03328/pub/field.feZero" = some 0 := by kernel_rfl
theorem gtV0 : (Tryd.prog.globals[(0 : Nat)]?).map (·.type) = some 29 := by kernel_rfl
theorem gnV1 : Tryd.prog.globalNamed "loop.example/pub-g03328/pub/field.feOne" = some 2 := by kernel_rfl
theorem gtV1 : (Tryd.prog.globals[(2 : Nat)]?).map (·.type) = some 29 := by kernel_rfl
theorem gnV2 : Tryd.prog.globalNamed "loop.example/pub-g03328/pub/field.sqrtM1" = some 1 := by kernel_rfl
theorem gtV2 : (Tryd.prog.globals[(1 : Nat)]?).map (·.type) = some 29 := by kernel_rfl
theorem varsV {W : World} (h : laidMet Tryd.prog laidV W) : ∃ q0 q1 q2 : Nat × Nat, PtsTo W 0 q0 (litE 0 0 0 0 0) ∧ PtsTo W 2 q1 (litE 1 0 0 0 0) ∧ PtsTo W 1 q2 (litE 1718705420411056 234908883556509 2233514472574048 2117202627021982 765476049583133) ∧ (placesOf [((0, 0), 1), (q0, 5), ((2, 0), 1), (q1, 5), ((1, 0), 1), (q2, 5)]).Nodup := by
  obtain ⟨ps, hl, hnd, _⟩ := h
  obtain ⟨g0, t0, cs0, f0, p0, r0, hg0, ht0, hv0, hd0, hr0, rfl⟩ := hl
  obtain rfl := Option.some.inj (gnV0.symm.trans hg0)
  obtain rfl := Option.some.inj (gtV0.symm.trans ht0)
  obtain ⟨q0, hq0, hs0, rfl⟩ := ptsTo_of hg0 hv0 hd0 (by decide)
  obtain ⟨g1, t1, cs1, f1, p1, r1, hg1, ht1, hv1, hd1, hr1, rfl⟩ := hr0
  obtain rfl := Option.some.inj (gnV1.symm.trans hg1)
  obtain rfl := Option.some.inj (gtV1.symm.trans ht1)
  obtain ⟨q1, hq1, hs1, rfl⟩ := ptsTo_of hg1 hv1 hd1 (by decide)
  obtain ⟨g2, t2, cs2, f2, p2, r2, hg2, ht2, hv2, hd2, hr2, rfl⟩ := hr1
  obtain rfl := Option.some.inj (gnV2.symm.trans hg2)
  obtain rfl := Option.some.inj (gtV2.symm.trans ht2)
  obtain ⟨q2, hq2, hs2, rfl⟩ := ptsTo_of hg2 hv2 hd2 (by decide)
  obtain rfl : r2 = [] := hr2
  refine ⟨q0, q1, q2, hq0, hq1, hq2, ?_⟩
  simpa only [hs0, hs1, hs2, placesOf, List.append_assoc, List.append_nil] using hnd
theorem mrepV {W : World} {q0 q1 q2 : Nat × Nat} (h0 : PtsTo W 0 q0 (litE 0 0 0 0 0)) (h1 : PtsTo W 2 q1 (litE 1 0 0 0 0)) (h2 : PtsTo W 1 q2 (litE 1718705420411056 234908883556509 2233514472574048 2117202627021982 765476049583133)) (hnd : (placesOf [((0, 0), 1), (q0, 5), ((2, 0), 1), (q1, 5), ((1, 0), 1), (q2, 5)]).Nodup) (ns : List Nat) (xs : List Int) :
    MRep (envV ns xs) (fun _ _ => False) W (adrL [(0, 0), q0, (2, 0), q1, (1, 0), q2]) memV W := by
  have key : ∀ (c : Nat) (p : Nat × Nat) (ch : Chunk), ([(0, 0), q0, (2, 0), q1, (1, 0), q2] : List (Nat × Nat))[c]? = some p → memV[c]? = some ch → ([((0, 0), 1), (q0, 5), ((2, 0), 1), (q1, 5), ((1, 0), 1), (q2, 5)] : List ((Nat × Nat) × Nat))[c]? = some (p, ch.cells.length) ∧ ch.wr = false ∧ p.1 < W.heap.size ∧
      ∀ j x, ch.cells[j]? = some x → ∃ v, W.cell? ⟨p.1, p.2 + j, none⟩ = some v ∧ VRel (envV ns xs) (adrL [(0, 0), q0, (2, 0), q1, (1, 0), q2]) x v := by
    intro c p ch k1 k2
    match c with
    | 0 =>
      obtain rfl := Option.some.inj k1
      obtain rfl := Option.some.inj k2
      exact ⟨rfl, rfl, cell_lt h0.1, cell_ptr h0.1 rfl⟩
    | 1 =>
      obtain rfl := Option.some.inj k1
      obtain rfl := Option.some.inj k2
      have hl := lies_limbs (ρ := envV ns xs) (e := 0) (show Rd W q0 ((envV ns xs).e 0) from h0.2) false (fun e => by cases e)
      exact ⟨rfl, rfl, hl.lt, fun j x hx => by obtain ⟨v, e1, e2⟩ := hl.cell j x hx; exact ⟨v, e1, e2 _⟩⟩
    | 2 =>
      obtain rfl := Option.some.inj k1
      obtain rfl := Option.some.inj k2
      exact ⟨rfl, rfl, cell_lt h1.1, cell_ptr h1.1 rfl⟩
    | 3 =>
      obtain rfl := Option.some.inj k1
      obtain rfl := Option.some.inj k2
      have hl := lies_limbs (ρ := envV ns xs) (e := 1) (show Rd W q1 ((envV ns xs).e 1) from h1.2) false (fun e => by cases e)
      exact ⟨rfl, rfl, hl.lt, fun j x hx => by obtain ⟨v, e1, e2⟩ := hl.cell j x hx; exact ⟨v, e1, e2 _⟩⟩
    | 4 =>
      obtain rfl := Option.some.inj k1
      obtain rfl := Option.some.inj k2
      exact ⟨rfl, rfl, cell_lt h2.1, cell_ptr h2.1 rfl⟩
    | 5 =>
      obtain rfl := Option.some.inj k1
      obtain rfl := Option.some.inj k2
      have hl := lies_limbs (ρ := envV ns xs) (e := 2) (show Rd W q2 ((envV ns xs).e 2) from h2.2) false (fun e => by cases e)
      exact ⟨rfl, rfl, hl.lt, fun j x hx => by obtain ⟨v, e1, e2⟩ := hl.cell j x hx; exact ⟨v, e1, e2 _⟩⟩
    | c + 6 => simp at k1
  refine mrep_ptr rfl (fun c p ch h1 h2 => (key c p ch h1 h2).2) (fun c c' p p' ch ch' hlt h1 h2 h3 h4 => ?_)
  exact apart_places hnd (by simp) hlt (key c p ch h1 h3).1 (key c' p' ch' h2 h4).1
theorem grepV (q0 q1 q2 : Nat × Nat) : GRep [(0, 0), (2, 2), (1, 4)] (adrL [(0, 0), q0, (2, 0), q1, (1, 0), q2]) := by
  intro g c hgc
  simp only [List.mem_cons, Prod.mk.injEq, List.not_mem_nil, or_false] at hgc
  rcases hgc with ⟨rfl, rfl⟩ | ⟨rfl, rfl⟩ | ⟨rfl, rfl⟩
  · rfl
  · rfl
  · rfl
/-- A run over the variables, as a law's call. -/
theorem runV {l : List (Nat × Rule)} (ht : TabOk l) {d : Nat} {f : FuncId} {n i : Nat} {orc : List Bool} {ps : List NP} {b : Sb} {ms' : Ms} (h : runOk (body l d f) (msV n i orc) (argsN ps 0 0) (.bool b) ms') {ns : List Nat} {xs : List Int} {vs : List Value} (hf : NFits ps ns xs vs)
    (math : ∀ ρ : Env, Agree ⟨i, 0, 3, n⟩ (envV ns xs) ρ → Defs ρ ms'.tr → Asms ρ ms'.tr ∧ b.val ρ = true) (W : World) (hL : laidMet Tryd.prog laidV W) : Invokes Tryd.prog f vs.toArray W fun r w' => r = .bool true ∧ Fr (fun _ _ => False) W w' := by
  obtain ⟨q0, q1, q2, h0, h1, h2, hnd⟩ := varsV hL
  have hv : VRels (envV ns xs) (adrL [(0, 0), q0, (2, 0), q1, (1, 0), q2]) (argsN ps 0 0) vs :=
    argsN_ok hf (fun j m hj => by rw [Nat.zero_add]; exact envN_n (xs := xs) hj) (fun j x hj => by rw [Nat.zero_add]; exact envN_i (ns := ns) hj)
  refine (run_calls (body_ok ht d f) h (mrepV h0 h1 h2 hnd ns xs) (grepV q0 q1 q2) hv fun ρ' ha hd => (math ρ' ha hd).1).mono ?_
  rintro v w' ⟨ρ', α', ha, hd, _, hv, hm⟩
  simp only [VRel] at hv
  rw [(math ρ' ha hd).2] at hv
  exact ⟨hv, hm.fr⟩
end Go.Proofs.YtpaidbefbkokfaaDoor
