/- Package variables as memory before a call: feZero. No condition. -/
import Derived.Test.YtklgdgeeillpaaaDoorDoor
import Derived.Test.YtklgdgeeillpaaaDoorNum
import Derived.Test.YtklgdgeeillpaaaDoorBit
namespace Go.Proofs.YtklgdgeeillpaaaDoor
open Go Go.ChangeShapes Go.WideShapes Go.ChangeAt Go.RowKit
set_option linter.unusedVariables false
set_option linter.unusedSimpArgs false
set_option maxRecDepth 100000

def laidZ : List (String × DataW Unit) := [("loop.example/pub-g03328/pub/field.feZero", elD 0 0 0 0 0)]
def esZ : List Elt := [litE 0 0 0 0 0]
def memZ : List Chunk := [⟨[.ptr 1 0], false⟩, ⟨limbs 0, false⟩]
def msZ (n i : Nat) (o : List Bool) : Ms := ⟨memZ, [], i, 0, 1, n, o, [(0, 0)]⟩
def envZ (ns : List Nat) (xs : List Int) : Env := { envN ns xs with e := fun j => esZ.getD j zeroE }
theorem gnZ0 : Tryd.prog.globalNamed "loop.example/pub-g03328/pub/field.feZero" = some 0 := by kernel_rfl
theorem gtZ0 : (Tryd.prog.globals[(0 : Nat)]?).map (·.type) = some 38 := by kernel_rfl
theorem varsZ {W : World} (h : laidMet Tryd.prog laidZ W) : ∃ q0 : Nat × Nat, PtsTo W 0 q0 (litE 0 0 0 0 0) ∧ (placesOf [((0, 0), 1), (q0, 5)]).Nodup := by
  obtain ⟨ps, hl, hnd, _⟩ := h
  obtain ⟨g0, t0, cs0, f0, p0, r0, hg0, ht0, hv0, hd0, hr0, rfl⟩ := hl
  obtain rfl := Option.some.inj (gnZ0.symm.trans hg0)
  obtain rfl := Option.some.inj (gtZ0.symm.trans ht0)
  obtain ⟨q0, hq0, hs0, rfl⟩ := ptsTo_of hg0 hv0 hd0 (by decide)
  obtain rfl : r0 = [] := hr0
  refine ⟨q0, hq0, ?_⟩
  simpa only [hs0, placesOf, List.append_assoc, List.append_nil] using hnd
theorem mrepZ {W : World} {q0 : Nat × Nat} (h0 : PtsTo W 0 q0 (litE 0 0 0 0 0)) (hnd : (placesOf [((0, 0), 1), (q0, 5)]).Nodup) (ns : List Nat) (xs : List Int) :
    MRep (envZ ns xs) (fun _ _ => False) W (adrL [(0, 0), q0]) memZ W := by
  have key : ∀ (c : Nat) (p : Nat × Nat) (ch : Chunk), ([(0, 0), q0] : List (Nat × Nat))[c]? = some p → memZ[c]? = some ch → ([((0, 0), 1), (q0, 5)] : List ((Nat × Nat) × Nat))[c]? = some (p, ch.cells.length) ∧ ch.wr = false ∧ p.1 < W.heap.size ∧
      ∀ j x, ch.cells[j]? = some x → ∃ v, W.cell? ⟨p.1, p.2 + j, none⟩ = some v ∧ VRel (envZ ns xs) (adrL [(0, 0), q0]) x v := by
    intro c p ch k1 k2
    match c with
    | 0 =>
      obtain rfl := Option.some.inj k1
      obtain rfl := Option.some.inj k2
      exact ⟨rfl, rfl, cell_lt h0.1, cell_ptr h0.1 rfl⟩
    | 1 =>
      obtain rfl := Option.some.inj k1
      obtain rfl := Option.some.inj k2
      have hl := lies_limbs (ρ := envZ ns xs) (e := 0) (show Rd W q0 ((envZ ns xs).e 0) from h0.2) false (fun e => by cases e)
      exact ⟨rfl, rfl, hl.lt, fun j x hx => by obtain ⟨v, e1, e2⟩ := hl.cell j x hx; exact ⟨v, e1, e2 _⟩⟩
    | c + 2 => simp at k1
  refine mrep_ptr rfl (fun c p ch h1 h2 => (key c p ch h1 h2).2) (fun c c' p p' ch ch' hlt h1 h2 h3 h4 => ?_)
  exact apart_places hnd (by simp) hlt (key c p ch h1 h3).1 (key c' p' ch' h2 h4).1
theorem grepZ (q0 : Nat × Nat) : GRep [(0, 0)] (adrL [(0, 0), q0]) := by
  intro g c hgc
  simp only [List.mem_cons, Prod.mk.injEq, List.not_mem_nil, or_false] at hgc
  rcases hgc with ⟨rfl, rfl⟩
  rfl
/-- A run over the variables, as a law's call. -/
theorem runZ {l : List (Nat × Rule)} (ht : TabOk l) {d : Nat} {f : FuncId} {n i : Nat} {orc : List Bool} {ps : List NP} {b : Sb} {ms' : Ms} (h : runOk (body l d f) (msZ n i orc) (argsN ps 0 0) (.bool b) ms') {ns : List Nat} {xs : List Int} {vs : List Value} (hf : NFits ps ns xs vs)
    (math : ∀ ρ : Env, Agree ⟨i, 0, 1, n⟩ (envZ ns xs) ρ → Defs ρ ms'.tr → Asms ρ ms'.tr ∧ b.val ρ = true) (W : World) (hL : laidMet Tryd.prog laidZ W) : Invokes Tryd.prog f vs.toArray W fun r w' => r = .bool true ∧ Fr (fun _ _ => False) W w' := by
  obtain ⟨q0, h0, hnd⟩ := varsZ hL
  have hv : VRels (envZ ns xs) (adrL [(0, 0), q0]) (argsN ps 0 0) vs :=
    argsN_ok hf (fun j m hj => by rw [Nat.zero_add]; exact envN_n (xs := xs) hj) (fun j x hj => by rw [Nat.zero_add]; exact envN_i (ns := ns) hj)
  refine (run_calls (body_ok ht d f) h (mrepZ h0 hnd ns xs) (grepZ q0) hv fun ρ' ha hd => (math ρ' ha hd).1).mono ?_
  rintro v w' ⟨ρ', α', ha, hd, _, hv, hm⟩
  simp only [VRel] at hv
  rw [(math ρ' ha hd).2] at hv
  exact ⟨hv, hm.fr⟩
end Go.Proofs.YtklgdgeeillpaaaDoor
