/- Points in memory: twenty cells; memory before a call with pointers and places that may be written; the check that a point is initialized, as a rule. No condition. -/
import Derived.Test.YtolmkbojlpplfaaDoorVv
import Derived.Test.YtolmkbojlpplfaaDoorSb
import Derived.Test.YtolmkbojlpplfaaDoorEdd
namespace Go.Proofs.YtolmkbojlpplfaaDoor
open Go Go.RowKit
set_option linter.unusedVariables false
set_option linter.unusedSimpArgs false
set_option maxRecDepth 100000

def pt4S (a b c d : Nat) : List SV := limbs a ++ (limbs b ++ (limbs c ++ limbs d))
/-- Four elements lie one behind the other at p. -/
def RdP (w : World) (p : Nat × Nat) (X Y Z T : Elt) : Prop := Rd w p X ∧ Rd w (p.1, p.2 + 5) Y ∧ Rd w (p.1, p.2 + 10) Z ∧ Rd w (p.1, p.2 + 15) T
theorem limbs_app_get {a : Nat} {l : List SV} {j : Nat} {x : SV} (h : (limbs a ++ l)[j]? = some x) : (j < 5 ∧ x = .int .u64 (.l a j)) ∨ (5 ≤ j ∧ l[j - 5]? = some x) := by
  rcases Nat.lt_or_ge j 5 with hj | hj
  · rw [List.getElem?_append_left (by simpa [limbs] using hj)] at h
    exact .inl ⟨hj, (limbs_get h).1⟩
  · rw [List.getElem?_append_right (by simpa [limbs] using hj)] at h
    exact .inr ⟨hj, by simpa [limbs] using h⟩
theorem pt4S_length (a b c d : Nat) : (pt4S a b c d).length = 20 := rfl
theorem limb_rel {ρ : Env} {α : Adr} {e j : Nat} : VRel ρ α (.int .u64 (.l e j)) (.int .u64 ((ρ.e e).1.at j)) := by
  simp only [VRel, Sx.val]
  have hb := E5.at_in (ρ.e e) j
  exact ⟨trivial, hb.1, Int.lt_trans hb.2 (by decide)⟩
theorem pt_rd {ρ : Env} {α : Adr} {w' : World} {b s e1 e2 e3 e4 : Nat} (h : RdP w' (b, s) (ρ.e e1) (ρ.e e2) (ρ.e e3) (ρ.e e4)) : ∀ j x, (pt4S e1 e2 e3 e4)[j]? = some x → ∃ v, w'.cell? ⟨b, s + j, none⟩ = some v ∧ VRel ρ α x v := by
  intro j x hx
  obtain ⟨h1, h2, h3, h4⟩ := h
  unfold pt4S at hx
  rcases limbs_app_get hx with ⟨hj, rfl⟩ | ⟨hj, hx⟩
  · exact ⟨_, h1 j hj, limb_rel⟩
  rcases limbs_app_get hx with ⟨hj2, rfl⟩ | ⟨hj2, hx⟩
  · have := h2 (j - 5) hj2
    rw [show s + 5 + (j - 5) = s + j by omega] at this
    exact ⟨_, this, limb_rel⟩
  rcases limbs_app_get hx with ⟨hj3, rfl⟩ | ⟨hj3, hx⟩
  · have := h3 (j - 5 - 5) hj3
    rw [show s + 10 + (j - 5 - 5) = s + j by omega] at this
    exact ⟨_, this, limb_rel⟩
  · obtain ⟨rfl, hj4⟩ := limbs_get hx
    have := h4 (j - 5 - 5 - 5) hj4
    rw [show s + 15 + (j - 5 - 5 - 5) = s + j by omega] at this
    exact ⟨_, this, limb_rel⟩
/-- Memory before a call: chunks at given places, with pointers, some of which may be written. -/
theorem mrep_all {ρ : Env} {w : World} {ps : List (Nat × Nat)} {M : List Chunk} (hl : ps.length = M.length)
    (h : ∀ (c : Nat) (p : Nat × Nat) (ch : Chunk), ps[c]? = some p → M[c]? = some ch → p.1 < w.heap.size ∧ (∀ j x, ch.cells[j]? = some x → ∃ v, w.cell? ⟨p.1, p.2 + j, none⟩ = some v ∧ VRel ρ (adrL ps) x v) ∧ (ch.wr = true → ∀ j, j < ch.cells.length → w.frozen? ⟨p.1, p.2 + j, none⟩ = false))
    (hap : ∀ (c c' : Nat) (p p' : Nat × Nat) (ch ch' : Chunk), c < c' → ps[c]? = some p → ps[c']? = some p' → M[c]? = some ch → M[c']? = some ch' → Apart ch.cells.length ch'.cells.length p p') : MRep ρ (SofL ps M) w (adrL ps) M w := by
  refine ⟨Fr.refl _ _, fun c hc => by unfold adrL; exact List.getElem?_eq_none (by omega), ?_, ?_, ?_, ?_⟩
  · intro c ch b s hc ha j x hx
    exact (h c (b, s) ch ha hc).2.1 j x hx
  · intro c b s ha
    have hlt : c < M.length := by rw [← hl]; exact (List.getElem?_eq_some_iff.1 ha).1
    exact (h c (b, s) M[c] ha (by simp [hlt])).1
  · intro c ch b s hc ha hw j hj
    exact ⟨(h c (b, s) ch ha hc).2.2 hw j hj, .inl ⟨c, (b, s), ch, ha, hc, hw, rfl, by simp only; omega, by simp only; omega⟩⟩
  · intro c c' ch ch' b s b' s' hne hc hc' ha ha'
    rcases Nat.lt_or_gt_of_ne hne with h1 | h1
    · exact hap c c' (b, s) (b', s') ch ch' h1 ha ha' hc hc'
    · have := hap c' c (b', s') (b, s) ch' ch h1 ha' ha hc' hc
      simp only [Apart] at this; omega
/-- All places of a list lie apart. -/
def ApAll (L : List ((Nat × Nat) × Nat)) : Prop := ∀ (c c' : Nat) (p p' : Nat × Nat) (n n' : Nat), c < c' → L[c]? = some (p, n) → L[c']? = some (p', n') → Apart n n' p p'
theorem lies_of {ρ : Env} {w : World} {p : Nat × Nat} {ch : Chunk} {α : Adr} (h : Lies ρ w p ch) : p.1 < w.heap.size ∧ (∀ j x, ch.cells[j]? = some x → ∃ v, w.cell? ⟨p.1, p.2 + j, none⟩ = some v ∧ VRel ρ α x v) ∧ (ch.wr = true → ∀ j, j < ch.cells.length → w.frozen? ⟨p.1, p.2 + j, none⟩ = false) :=
  ⟨h.lt, fun j x hx => by obtain ⟨v, e1, e2⟩ := h.cell j x hx; exact ⟨v, e1, e2 α⟩, h.wr⟩
theorem lies_pt {ρ : Env} {w : World} {p : Nat × Nat} {e1 e2 e3 e4 : Nat} (h : RdP w p (ρ.e e1) (ρ.e e2) (ρ.e e3) (ρ.e e4)) : Lies ρ w p ⟨pt4S e1 e2 e3 e4, false⟩ :=
  ⟨fun j x hx => by
    have hα : ∀ α : Adr, ∃ v, w.cell? ⟨p.1, p.2 + j, none⟩ = some v ∧ VRel ρ α x v := fun α => pt_rd (α := α) (b := p.1) (s := p.2) h j x hx
    obtain ⟨v, hv, _⟩ := hα (fun _ => none)
    refine ⟨v, hv, fun α => ?_⟩
    obtain ⟨v', hv', hr⟩ := hα α
    rw [hv] at hv'
    cases hv'
    exact hr, cell_lt (h.1 0 (by omega)), fun hb => by cases hb⟩

/-! ### the check that a point is initialized -/
def iniN : List Elt → List Int → List Nat → Nat := fun es _ _ => match es with
  | [x, y] => if x.fe = 0 ∧ y.fe = 0 then 0 else 1
  | _ => 0
def ini1 (ms : Ms) (p : Nat × Nat) : Option Ms := match readE ms.mem p, readE ms.mem (p.1, p.2 + 5) with
  | some x, some y => some { ms with tr := .asm (.x ms.nb) true :: .db ms.nb .eql [.w ms.nn 0, .c 1] [] [] :: .dn ms.nn (.fx "iniN" iniN) [x, y] [] [] :: ms.tr, nb := ms.nb + 1, nn := ms.nn + 1 }
  | _, _ => none
theorem ini1_ok {ρ : Env} {ms ms' : Ms} {p : Nat × Nat} (h : ini1 ms p = some ms') (hs : Sat ρ ms'.tr) : Grows ρ ms ms' ∧ ms'.mem = ms.mem ∧ ∃ x y, readE ms.mem p = some x ∧ readE ms.mem (p.1, p.2 + 5) = some y ∧ ¬ ((ρ.e x).fe = 0 ∧ (ρ.e y).fe = 0) := by
  unfold ini1 at h
  split at h
  · rename_i x y hx hy
    simp only [Option.some.injEq] at h
    subst h
    obtain ⟨h1, h2, h3, h4⟩ := hs
    refine ⟨⟨h4, rfl, Nat.le_refl _⟩, rfl, x, y, hx, hy, fun hz => ?_⟩
    have e1 : ρ.n ms.nn = if (ρ.e x).fe = 0 ∧ (ρ.e y).fe = 0 then 0 else 1 := h3
    rw [if_pos hz] at e1
    have e2 : ρ.b ms.nb = (((word (ρ.n ms.nn) 0 : Nat) : Int) == 1) := h2
    rw [e1] at e2
    have e3 : ρ.b ms.nb = true := h1
    rw [e3] at e2
    exact absurd e2 (by decide)
  · cases h
theorem fe_of_limbs {e : Elt} (h : ∀ j, j < 5 → e.1.at j = 0) : e.fe = 0 := by
  have : e = zeroE := by
    obtain ⟨⟨a0, a1, a2, a3, a4⟩, ha⟩ := e
    have h0 := h 0 (by omega); have h1 := h 1 (by omega); have h2 := h 2 (by omega); have h3 := h 3 (by omega); have h4 := h 4 (by omega)
    simp only [E5.at] at h0 h1 h2 h3 h4
    subst h0 h1 h2 h3 h4
    rfl
  rw [this]; exact zeroE_fe
end Go.Proofs.YtolmkbojlpplfaaDoor
