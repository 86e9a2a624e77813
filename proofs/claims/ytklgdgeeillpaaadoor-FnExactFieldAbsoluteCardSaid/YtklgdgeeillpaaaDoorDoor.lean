/- Variables that point to elements: what their readings say of the memory. No condition. -/
import Derived.Test.YtklgdgeeillpaaaDoorLay
import Derived.Test.YtklgdgeeillpaaaDoorRows
import Derived.ProofKit
import Derived.OpenShut
import Derived.LaidMore
namespace Go.Proofs.YtklgdgeeillpaaaDoor
open Go Go.ChangeShapes Go.WideShapes Go.ChangeAt Go.RowKit
set_option linter.unusedVariables false
set_option linter.unusedSimpArgs false
set_option maxRecDepth 100000

theorem cellsE5 : Tryd.prog.cellsOf 41 = 5 := by kernel_rfl
theorem cellsU64 : Tryd.prog.cellsOf 39 = 1 := by kernel_rfl
theorem underU64 : Tryd.prog.underlying 39 = some (.int .u64) := by kernel_rfl
theorem underPE : Tryd.prog.underlying 38 = some (.pointer 41) := by kernel_rfl
def litD {H : Type} (a : Int) : DataW H := .lit (.int .u64 a)
def elD {H : Type} (a0 a1 a2 a3 a4 : Int) : DataW H := .ptr (.agg [litD a0, litD a1, litD a2, litD a3, litD a4])
/-- An element read as data: its five cells. -/
theorem of_trodE {H : Type} {enc : TypeId × Value → H} {W : World} {base fuel : Nat} {sp : Nat → Bool} {held : Bool} {cs : List Value} {x : DataW H × List MemPlace}
    (h : DataW.trod enc Tryd.prog W base sp held fuel 41 cs = some x) :
    ∃ a0 a1 a2 a3 a4 : Int, cs = [.int .u64 a0, .int .u64 a1, .int .u64 a2, .int .u64 a3, .int .u64 a4] ∧ x = (.agg [litD a0, litD a1, litD a2, litD a3, litD a4], []) := by
  obtain ⟨xs, n, _, rfl, hl, hn, hx⟩ := DataW.trod_struct Tryd.underlying41 h
  rw [cellsE5] at hl
  have h0 : DataW.trod enc Tryd.prog W base sp held n 39 ((cs.drop 0).take (Tryd.prog.cellsOf 39)) = xs[0]? := hx 0 _ rfl
  have h1 : DataW.trod enc Tryd.prog W base sp held n 39 ((cs.drop 1).take (Tryd.prog.cellsOf 39)) = xs[1]? := hx 1 _ rfl
  have h2 : DataW.trod enc Tryd.prog W base sp held n 39 ((cs.drop 2).take (Tryd.prog.cellsOf 39)) = xs[2]? := hx 2 _ rfl
  have h3 : DataW.trod enc Tryd.prog W base sp held n 39 ((cs.drop 3).take (Tryd.prog.cellsOf 39)) = xs[3]? := hx 3 _ rfl
  have h4 : DataW.trod enc Tryd.prog W base sp held n 39 ((cs.drop 4).take (Tryd.prog.cellsOf 39)) = xs[4]? := hx 4 _ rfl
  rw [cellsU64] at h0 h1 h2 h3 h4
  match cs, hl with
  | [c0, c1, c2, c3, c4], _ =>
    match xs, hn with
    | [x0, x1, x2, x3, x4], _ =>
      simp only [List.drop_succ_cons, List.drop_zero, List.take_succ_cons, List.take_zero, List.getElem?_cons_zero, List.getElem?_cons_succ] at h0 h1 h2 h3 h4
      obtain ⟨a0, e0, rfl, _⟩ := DataW.trod_int underU64 h0
      obtain ⟨a1, e1, rfl, _⟩ := DataW.trod_int underU64 h1
      obtain ⟨a2, e2, rfl, _⟩ := DataW.trod_int underU64 h2
      obtain ⟨a3, e3, rfl, _⟩ := DataW.trod_int underU64 h3
      obtain ⟨a4, e4, rfl, _⟩ := DataW.trod_int underU64 h4
      simp only [List.cons.injEq, and_true] at e0 e1 e2 e3 e4
      subst e0 e1 e2 e3 e4
      exact ⟨a0, a1, a2, a3, a4, rfl, rfl⟩
/-- A pointer to an element, read as data. -/
theorem of_trodPE {H : Type} {enc : TypeId × Value → H} {W : World} {base fuel : Nat} {sp : Nat → Bool} {held : Bool} {cs : List Value} {p : List MemPlace} {b0 b1 b2 b3 b4 : Int}
    (h : DataW.trod enc Tryd.prog W base sp held fuel 38 cs = some (elD b0 b1 b2 b3 b4, p)) :
    ∃ q : Nat × Nat, cs = [ptrV q] ∧ p = MemPlace.row ⟨q.1, q.2, none⟩ 5 ∧ ∀ j, j < 5 → W.cell? ⟨q.1, q.2 + j, none⟩ = some (.int .u64 ([b0, b1, b2, b3, b4].getD j 0)) := by
  rcases DataW.trod_pointer underPE h with ⟨_, hx⟩ | ⟨a, cs', y, n, _, rfl, hx, hc, hy⟩
  · simp only [elD, Prod.mk.injEq, reduceCtorEq, false_and] at hx
  · obtain ⟨a0, a1, a2, a3, a4, rfl, rfl⟩ := of_trodE hy
    simp only [elD, litD, Prod.mk.injEq, DataW.ptr.injEq, DataW.agg.injEq, List.cons.injEq, DataW.lit.injEq, Lit.int.injEq, true_and, and_true] at hx
    obtain ⟨⟨rfl, rfl, rfl, rfl, rfl⟩, rfl⟩ := hx
    rw [cellsE5] at hc
    obtain ⟨_, _, hcell⟩ := World.cells?_some hc
    obtain ⟨b, off, spot⟩ := a
    have h0 := hcell 0 (by omega)
    have hs : spot = none := by
      have := World.cell?_spot (show W.cell? ((⟨b, off, spot⟩ : Addr).add 0) = some _ from h0)
      simpa [Addr.add] using this
    subst hs
    refine ⟨(b, off), rfl, by rw [cellsE5, List.append_nil], fun j hj => ?_⟩
    have hj' := hcell j hj
    rw [Go.WideShapes.add_plain] at hj'
    rw [hj']
    match j, hj with
    | 0, _ => rfl
    | 1, _ => rfl
    | 2, _ => rfl
    | 3, _ => rfl
    | 4, _ => rfl
/-- A variable that points to an element. -/
def PtsTo (W : World) (g : Nat) (q : Nat × Nat) (e : Elt) : Prop := W.cell? ⟨g, 0, none⟩ = some (ptrV q) ∧ Rd W q e
theorem ptsTo_of {W : World} {n : String} {g fuel : Nat} {cs : Array Value} {p : List MemPlace} {b0 b1 b2 b3 b4 : Int} {H : Type} {enc : TypeId × Value → H} {sp : Nat → Bool} {held : Bool} {base : Nat}
    (hg : Tryd.prog.globalNamed n = some g) (hv : W.var? Tryd.prog n = some cs) (h : DataW.trod enc Tryd.prog W base sp held fuel 38 cs.toList = some (elD b0 b1 b2 b3 b4, p))
    (hb : 0 ≤ b0 ∧ 0 ≤ b1 ∧ 0 ≤ b2 ∧ 0 ≤ b3 ∧ 0 ≤ b4 ∧ b0 < BD ∧ b1 < BD ∧ b2 < BD ∧ b3 < BD ∧ b4 < BD) :
    ∃ q : Nat × Nat, PtsTo W g q (litE b0 b1 b2 b3 b4) ∧ cs.size = 1 ∧ p = MemPlace.row ⟨q.1, q.2, none⟩ 5 := by
  obtain ⟨q, hcs, rfl, hc⟩ := of_trodPE h
  refine ⟨q, ⟨?_, fun j hj => ?_⟩, ?_, rfl⟩
  · have := World.var?_cell hg hv 0
    have e : cs[0]? = some (ptrV q) := by rw [← Array.getElem?_toList, hcs]; rfl
    rw [e] at this
    simpa using this
  · rw [hc j hj]
    unfold litE
    rw [dif_pos hb]
    match j, hj with
    | 0, _ => rfl
    | 1, _ => rfl
    | 2, _ => rfl
    | 3, _ => rfl
    | 4, _ => rfl
  · rw [← Array.length_toList, hcs]; rfl
/-- Memory that lies before a call, with pointers in it. -/
theorem mrep_ptr {ρ : Env} {w : World} {ps : List (Nat × Nat)} {M : List Chunk} (hl : ps.length = M.length)
    (h : ∀ (c : Nat) (p : Nat × Nat) (ch : Chunk), ps[c]? = some p → M[c]? = some ch → ch.wr = false ∧ p.1 < w.heap.size ∧ ∀ j x, ch.cells[j]? = some x → ∃ v, w.cell? ⟨p.1, p.2 + j, none⟩ = some v ∧ VRel ρ (adrL ps) x v)
    (hap : ∀ (c c' : Nat) (p p' : Nat × Nat) (ch ch' : Chunk), c < c' → ps[c]? = some p → ps[c']? = some p' → M[c]? = some ch → M[c']? = some ch' → Apart ch.cells.length ch'.cells.length p p') : MRep ρ (fun _ _ => False) w (adrL ps) M w := by
  refine ⟨Fr.refl _ _, fun c hc => by unfold adrL; exact List.getElem?_eq_none (by omega), ?_, ?_, ?_, ?_⟩
  · intro c ch b s hc ha j x hx
    exact (h c (b, s) ch ha hc).2.2 j x hx
  · intro c b s ha
    have hlt : c < M.length := by rw [← hl]; exact (List.getElem?_eq_some_iff.1 ha).1
    exact (h c (b, s) M[c] ha (by simp [hlt])).2.1
  · intro c ch b s hc ha hw j hj
    rw [(h c (b, s) ch ha hc).1] at hw
    cases hw
  · intro c c' ch ch' b s b' s' hne hc hc' ha ha'
    rcases Nat.lt_or_gt_of_ne hne with h1 | h1
    · exact hap c c' (b, s) (b', s') ch ch' h1 ha ha' hc hc'
    · have := hap c' c (b', s') (b, s) ch' ch h1 ha' ha hc' hc
      simp only [Apart] at this; omega
theorem cell_ptr {ρ : Env} {w : World} {g c : Nat} {q : Nat × Nat} (h : w.cell? ⟨g, 0, none⟩ = some (ptrV q)) {ps : List (Nat × Nat)} (hc : adrL ps c = some q) :
    ∀ j x, ([SV.ptr c 0] : List SV)[j]? = some x → ∃ v, w.cell? ⟨g, 0 + j, none⟩ = some v ∧ VRel ρ (adrL ps) x v := by
  intro j x hx
  match j with
  | 0 =>
    simp only [List.getElem?_cons_zero, Option.some.injEq] at hx
    subst hx
    refine ⟨_, h, ?_⟩
    simp only [VRel]
    exact ⟨q.1, q.2, hc, rfl⟩
  | j + 1 => simp at hx
def placesOf : List ((Nat × Nat) × Nat) → List MemPlace
  | [] => []
  | x :: l => MemPlace.row ⟨x.1.1, x.1.2, none⟩ x.2 ++ placesOf l
theorem row_sub : ∀ {l : List ((Nat × Nat) × Nat)} {c : Nat} {x : (Nat × Nat) × Nat}, l[c]? = some x → ∀ y ∈ MemPlace.row ⟨x.1.1, x.1.2, none⟩ x.2, y ∈ placesOf l
  | [], c, x, h => by simp at h
  | z :: l, 0, x, h => by
    simp only [List.getElem?_cons_zero, Option.some.injEq] at h
    subst h
    exact fun y hy => List.mem_append_left _ hy
  | z :: l, c + 1, x, h => fun y hy => List.mem_append_right _ (row_sub (by simpa using h) y hy)
theorem apart_places : ∀ {l : List ((Nat × Nat) × Nat)}, (placesOf l).Nodup → (∀ x ∈ l, 0 < x.2) → ∀ {c c' : Nat} {p p' : Nat × Nat} {n n' : Nat}, c < c' → l[c]? = some (p, n) → l[c']? = some (p', n') → Apart n n' p p'
  | [], _, _, c, c', p, p', n, n', _, h, _ => by simp at h
  | z :: l, hnd, hpos, c + 1, c' + 1, p, p', n, n', hlt, h, h' =>
    apart_places (l := l) (c := c) (c' := c') (List.nodup_append.1 hnd).2.1 (fun x hx => hpos x (List.mem_cons_of_mem _ hx)) (by omega) (by simpa using h) (by simpa using h')
  | z :: l, hnd, hpos, 0, c' + 1, p, p', n, n', hlt, h, h' => by
    simp only [List.getElem?_cons_zero, Option.some.injEq] at h
    simp only [List.getElem?_cons_succ] at h'
    subst h
    have hn : 0 < n := hpos (p, n) (by simp)
    have hm : 0 < n' := hpos (p', n') (List.mem_cons_of_mem _ (List.mem_of_getElem? h'))
    have h1 := (List.nodup_append.1 hnd).2.2
    have key : ∀ i j, i < n → j < n' → MemPlace.cell p.1 (p.2 + i) ≠ MemPlace.cell p'.1 (p'.2 + j) := by
      intro i j hi hj
      refine h1 _ ?_ _ (row_sub h' _ ?_)
      · exact List.mem_map.2 ⟨i, List.mem_range.2 hi, rfl⟩
      · exact List.mem_map.2 ⟨j, List.mem_range.2 hj, rfl⟩
    unfold Apart
    by_cases hb : p.1 = p'.1
    · by_cases h0 : p.2 + n ≤ p'.2
      · exact .inr (.inl h0)
      · by_cases h2 : p'.2 + n' ≤ p.2
        · exact .inr (.inr h2)
        · exfalso
          by_cases h3 : p.2 ≤ p'.2
          · exact key (p'.2 - p.2) 0 (by omega) (by omega) (by rw [hb]; congr 1; omega)
          · exact key 0 (p.2 - p'.2) (by omega) (by omega) (by rw [hb]; congr 1; omega)
    · exact .inl hb
  | z :: l, hnd, hpos, _, 0, p, p', n, n', hlt, h, h' => by omega
end Go.Proofs.YtklgdgeeillpaaaDoor
