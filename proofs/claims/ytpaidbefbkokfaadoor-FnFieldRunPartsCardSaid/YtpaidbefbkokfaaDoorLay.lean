/- Memory that lies before a call: chunks at given places. No condition. -/
import Derived.Test.YtpaidbefbkokfaaDoorBy
import Derived.Test.YtpaidbefbkokfaaDoorHead
namespace Go.Proofs.YtpaidbefbkokfaaDoor
open Go Go.RowKit
set_option linter.unusedVariables false
set_option linter.unusedSimpArgs false

/-- The chunk lies at p. -/
structure Lies (ρ : Env) (w : World) (p : Nat × Nat) (ch : Chunk) : Prop where
  cell : ∀ j x, ch.cells[j]? = some x → ∃ v, w.cell? ⟨p.1, p.2 + j, none⟩ = some v ∧ ∀ α, VRel ρ α x v
  lt : p.1 < w.heap.size
  wr : ch.wr = true → ∀ j, j < ch.cells.length → w.frozen? ⟨p.1, p.2 + j, none⟩ = false
def SofL (ps : List (Nat × Nat)) (M : List Chunk) : Nat → Nat → Prop := fun b j => ∃ (c : Nat) (p : Nat × Nat) (ch : Chunk), ps[c]? = some p ∧ M[c]? = some ch ∧ ch.wr = true ∧ InN ch.cells.length p b j
def adrL (ps : List (Nat × Nat)) : Adr := fun c => ps[c]?
theorem mrep_of {ρ : Env} {w : World} {ps : List (Nat × Nat)} {M : List Chunk} (hl : ps.length = M.length) (h : ∀ (c : Nat) (p : Nat × Nat) (ch : Chunk), ps[c]? = some p → M[c]? = some ch → Lies ρ w p ch)
    (hap : ∀ (c c' : Nat) (p p' : Nat × Nat) (ch ch' : Chunk), c < c' → ps[c]? = some p → ps[c']? = some p' → M[c]? = some ch → M[c']? = some ch' → Apart ch.cells.length ch'.cells.length p p') : MRep ρ (SofL ps M) w (adrL ps) M w := by
  refine ⟨Fr.refl _ _, fun c hc => by unfold adrL; exact List.getElem?_eq_none (by omega), ?_, ?_, ?_, ?_⟩
  · intro c ch b s hc ha j x hx
    obtain ⟨v, h1, h2⟩ := (h c (b, s) ch ha hc).cell j x hx
    exact ⟨v, h1, h2 _⟩
  · intro c b s ha
    have hlt : c < M.length := by rw [← hl]; exact (List.getElem?_eq_some_iff.1 ha).1
    exact (h c (b, s) M[c] ha (by simp [hlt])).lt
  · intro c ch b s hc ha hw j hj
    exact ⟨(h c (b, s) ch ha hc).wr hw j hj, .inl ⟨c, (b, s), ch, ha, hc, hw, rfl, by simp only; omega, by simp only; omega⟩⟩
  · intro c c' ch ch' b s b' s' hne hc hc' ha ha'
    rcases Nat.lt_or_gt_of_ne hne with h1 | h1
    · exact hap c c' (b, s) (b', s') ch ch' h1 ha ha' hc hc'
    · have := hap c' c (b', s') (b, s) ch' ch h1 ha' ha hc' hc
      simp only [Apart] at this; omega
/-- Where only the first chunk may be written. -/
theorem sofL_first {ps : List (Nat × Nat)} {M : List Chunk} (h : M.tail.all (fun c => !c.wr) = true) {b j : Nat} (hs : SofL ps M b j) : ∃ p ch, ps[0]? = some p ∧ M[0]? = some ch ∧ ch.wr = true ∧ InN ch.cells.length p b j := by
  obtain ⟨c, p, ch, h1, h2, h3, h4⟩ := hs
  cases c with
  | zero => exact ⟨p, ch, h1, h2, h3, h4⟩
  | succ c =>
    cases M with
    | nil => simp at h2
    | cons x M =>
      simp only [List.getElem?_cons_succ] at h2
      have := List.all_eq_true.1 h ch (List.mem_of_getElem? h2)
      rw [h3] at this
      cases this
theorem lies_limbs {ρ : Env} {w : World} {p : Nat × Nat} {e : Nat} (h : Rd w p (ρ.e e)) (b : Bool) (hf : b = true → Own 5 w p) : Lies ρ w p ⟨limbs e, b⟩ := by
  refine ⟨fun j x hx => ?_, cell_lt (h 0 (by omega)), fun hb j hj => (hf hb j (by simpa [limbs] using hj)).2⟩
  obtain ⟨rfl, hj⟩ := limbs_get hx
  refine ⟨_, h j hj, fun α => ?_⟩
  simp only [VRel]
  have hb := E5.at_in (ρ.e e) j
  exact ⟨rfl, hb.1, Int.lt_trans hb.2 (by decide)⟩
theorem lies_anys {ρ : Env} {w : World} {p : Nat × Nat} {n : Nat} (hn : 0 < n) (h : Own n w p) (b : Bool) : Lies ρ w p ⟨anys n, b⟩ := by
  refine ⟨fun j x hx => ?_, ?_, fun _ j hj => (h j (by simpa [anys_length] using hj)).2⟩
  · obtain ⟨rfl, hj⟩ := anys_get hx
    obtain ⟨v, hv⟩ := (h j hj).1
    exact ⟨v, hv, fun α => by simp only [VRel]⟩
  · obtain ⟨v, hv⟩ := (h 0 hn).1
    exact cell_lt hv
/-- L bytes of n lie at p. -/
def RoN (L : Nat) (w : World) (p : Nat × Nat) (n : Nat) : Prop := ∀ j, j < L → w.cell? ⟨p.1, p.2 + j, none⟩ = some (.int .u8 (octet n j : Nat))
theorem octsS_get' {n : Nat} : ∀ {k i j : Nat} {x : SV}, (octsS n i k)[j]? = some x → x = .int .u8 (.o n (i + j)) ∧ j < k
  | 0, i, j, x, h => by simp [octsS] at h
  | k + 1, i, 0, x, h => by simp only [octsS, List.getElem?_cons_zero, Option.some.injEq] at h; exact ⟨h.symm, by omega⟩
  | k + 1, i, j + 1, x, h => by
    simp only [octsS, List.getElem?_cons_succ] at h
    obtain ⟨h1, h2⟩ := octsS_get' h
    exact ⟨by rw [h1, show i + 1 + j = i + (j + 1) by omega], by omega⟩
theorem octsS_len (n : Nat) : ∀ k i, (octsS n i k).length = k
  | 0, _ => rfl
  | k + 1, i => by simp [octsS, octsS_len n k (i + 1)]
theorem lies_octs {ρ : Env} {w : World} {p : Nat × Nat} {n L : Nat} (hL : 0 < L) (h : RoN L w p (ρ.n n)) : Lies ρ w p ⟨octsS n 0 L, false⟩ := by
  refine ⟨fun j x hx => ?_, cell_lt (h 0 hL), fun hb => by cases hb⟩
  obtain ⟨rfl, hj⟩ := octsS_get' hx
  refine ⟨_, h j hj, fun α => ?_⟩
  have ho := octet_lt (ρ.n n) j
  simp only [VRel, Sx.val, Nat.zero_add, inR, lo, hi]
  exact ⟨trivial, by omega, by show ((octet (ρ.n n) j : Nat) : Int) < 256; omega⟩
/-- Octets that are read out of a symbolic memory: the cells of a number. -/
theorem octs_ro {ρ : Env} {S : Nat → Nat → Prop} {w0 : World} {α : Adr} {M : List Chunk} {w : World} (hm : MRep ρ S w0 α M w) {c o L n : Nat} {ch : Chunk} {b s : Nat} (hc : M[c]? = some ch) (ha : α c = some (b, s)) (hl : ((ch.cells.drop o).take L).length = L)
    (hv : ∀ {α : Adr} {us : List Value}, VRels ρ α ((ch.cells.drop o).take L) us → us = (octs (ρ.n n) 0 L).map (Value.int .u8)) : RoN L w (b, s + o) (ρ.n n) := by
  obtain ⟨us, h1, h2⟩ := cells_list (ρ := ρ) (α := α) (w := w) (l := (ch.cells.drop o).take L) (b := b) (t := s + o) fun j x hj => by
    obtain ⟨v, hv, hr⟩ := hm.cell c ch b s hc ha (o + j) x (getElem?_take_drop hj)
    exact ⟨v, by rwa [Nat.add_assoc], hr⟩
  have e := hv h1
  intro j hj
  refine h2 j _ ?_
  rw [e]
  have : ∀ (k i j : Nat), j < k → (octs (ρ.n n) i k)[j]? = some ((octet (ρ.n n) (i + j) : Nat) : Int) := by
    intro k
    induction k with
    | zero => intro i j hj; omega
    | succ k ih =>
      intro i j hj
      cases j with
      | zero => simp [octs]
      | succ j => simp only [octs, List.getElem?_cons_succ]; rw [ih (i + 1) j (by omega), show i + 1 + j = i + (j + 1) by omega]
  simp only [List.getElem?_map, this L 0 j hj, Option.map_some, Nat.zero_add]
end Go.Proofs.YtpaidbefbkokfaaDoor
