/- Symbolic memory: what it says of a world, and the laws of reading, writing and making. No condition. -/
import Derived.Test.YtpaidbefbkokfaaDoorSym
namespace Go.Proofs.YtpaidbefbkokfaaDoor
open Go Go.RowKit
set_option linter.unusedVariables false
set_option linter.unusedSimpArgs false

structure Chunk where
  cells : List SV
  wr : Bool
  deriving Repr, Inhabited

/-- w is w0, but for the cells that S names and for new blocks. -/
structure Fr (S : Nat → Nat → Prop) (w0 w : World) : Prop where
  os : w.os = w0.os
  tape : w.tape = w0.tape
  output : w.output = w0.output
  size : w0.heap.size ≤ w.heap.size
  row : ∀ b, b < w0.heap.size → ∀ c T fr, w0.heap[b]? = some (.cells c T fr) → ∃ c', w.heap[b]? = some (.cells c' T fr) ∧ c'.size = c.size ∧ ∀ j, ¬ S b j → c'[j]? = c[j]?
  obj : ∀ b, b < w0.heap.size → (∀ c T fr, w0.heap[b]? ≠ some (.cells c T fr)) → w.heap[b]? = w0.heap[b]?

theorem Fr.refl (S : Nat → Nat → Prop) (w : World) : Fr S w w :=
  ⟨rfl, rfl, rfl, Nat.le_refl _, fun _ _ c _ _ h => ⟨c, h, rfl, fun _ _ => rfl⟩, fun _ _ _ => rfl⟩
theorem Fr.trans {S S' : Nat → Nat → Prop} {w0 w1 w2 : World} (h : Fr S w0 w1) (k : Fr S' w1 w2) (hs : ∀ b j, S' b j → S b j ∨ w0.heap.size ≤ b) : Fr S w0 w2 := by
  refine ⟨k.os.trans h.os, k.tape.trans h.tape, k.output.trans h.output, Nat.le_trans h.size k.size, fun b hb c T fr hc => ?_, fun b hb hn => ?_⟩
  · obtain ⟨c1, h1, s1, e1⟩ := h.row b hb c T fr hc
    obtain ⟨c2, h2, s2, e2⟩ := k.row b (Nat.lt_of_lt_of_le hb h.size) c1 T fr h1
    exact ⟨c2, h2, s2.trans s1, fun j hj => (e2 j (fun hs' => (hs b j hs').elim hj (by omega))).trans (e1 j hj)⟩
  · have h1 := h.obj b hb hn
    rw [k.obj b (Nat.lt_of_lt_of_le hb h.size) (by rw [h1]; exact hn), h1]
theorem Fr.drew {S : Nat → Nat → Prop} {w0 w : World} (h : Fr S w0 w) : Fr S w0 w.drew := ⟨h.os, h.tape, h.output, h.size, h.row, h.obj⟩
theorem Fr.alloc {S : Nat → Nat → Prop} {w0 w : World} (h : Fr S w0 w) (o : Obj) : Fr S w0 (w.alloc o) := by
  refine ⟨h.os, h.tape, h.output, by simpa using Nat.le_succ_of_le h.size, fun b hb c T fr hc => ?_, fun b hb hn => ?_⟩
  · obtain ⟨c1, h1, s1, e1⟩ := h.row b hb c T fr hc
    exact ⟨c1, by rw [Below.heap_alloc _ _ _ (Nat.lt_of_lt_of_le hb h.size)]; exact h1, s1, e1⟩
  · rw [Below.heap_alloc _ _ _ (Nat.lt_of_lt_of_le hb h.size)]; exact h.obj b hb hn
theorem Fr.setCell {S : Nat → Nat → Prop} {w0 w : World} (h : Fr S w0 w) {b i : Nat} (hS : S b i ∨ w0.heap.size ≤ b) (v : Value) : Fr S w0 (w.setCell ⟨b, i, none⟩ v) := by
  refine ⟨h.os, h.tape, h.output, by simpa using h.size, fun b' hb c T fr hc => ?_, fun b' hb hn => ?_⟩
  · obtain ⟨c1, h1, s1, e1⟩ := h.row b' hb c T fr hc
    by_cases he : b' = b
    · subst he
      refine ⟨c1.setIfInBounds i v, ?_, by simpa using s1, fun j hj => ?_⟩
      · simp [World.setCell, Array.getElem?_modify, h1]
      · rw [← e1 j hj]
        have : i ≠ j := fun e => by subst e; exact hS.elim hj (by omega)
        rw [Array.getElem?_setIfInBounds_ne this]
    · exact ⟨c1, by rw [Below.heap_setCell _ _ _ _ he]; exact h1, s1, e1⟩
  · have h1 := h.obj b' hb hn
    by_cases he : b' = b
    · subst he
      simp only [World.setCell, Array.getElem?_modify, if_true, h1]
      cases hh : w0.heap[b']? with
      | none => rfl
      | some o =>
        cases o <;> first | rfl | (exact absurd hh (hn _ _ _))
    · rw [Below.heap_setCell _ _ _ _ he]; exact h1
/-- Nothing old has changed. -/
theorem Fr.below {w0 w : World} (h : Fr (fun _ _ => False) w0 w) : Below w0.heap.size w0 w := by
  refine ⟨h.os, h.tape, h.output, h.size, fun b hb => ?_⟩
  cases hh : w0.heap[b]? with
  | none => simp [hb] at hh
  | some o =>
    cases o with
    | cells c T fr =>
      obtain ⟨c1, h1, s1, e1⟩ := h.row b hb c T fr hh
      rw [h1]
      have : c1 = c := Array.ext_getElem? fun j => e1 j id
      rw [this]
    | _ => rw [h.obj b hb (by intro c T fr e; rw [hh] at e; cases e), hh]
theorem Fr.of_below {w0 w : World} (h : Below w0.heap.size w0 w) (S : Nat → Nat → Prop) : Fr S w0 w :=
  ⟨h.os, h.tape, h.output, h.size, fun b hb c T fr hc => ⟨c, by rw [h.block b hb, hc], rfl, fun _ _ => rfl⟩, fun b hb _ => h.block b hb⟩
theorem Fr.mono {S S' : Nat → Nat → Prop} {w0 w : World} (h : Fr S w0 w) (hs : ∀ b j, S b j → S' b j ∨ w0.heap.size ≤ b) : Fr S' w0 w :=
  (Fr.refl S' w0).trans h hs
theorem cell_of_row {w : World} {b o : Nat} {v : Value} (h : w.cell? ⟨b, o, none⟩ = some v) : ∃ c T fr, w.heap[b]? = some (.cells c T fr) ∧ c[o]? = some v := by
  unfold World.cell? at h
  simp only at h
  cases hh : w.heap[b]? with
  | none => simp [hh] at h
  | some ob =>
    cases ob with
    | cells c T fr => exact ⟨c, T, fr, rfl, by simpa [hh] using h⟩
    | _ => simp [hh] at h
theorem cell_lt {w : World} {a : Addr} {v : Value} (h : w.cell? a = some v) : a.block < w.heap.size := World.block_lt_of_cell? w a h
theorem Fr.cell {S : Nat → Nat → Prop} {w0 w : World} (h : Fr S w0 w) {b o : Nat} {v : Value} (hc : w0.cell? ⟨b, o, none⟩ = some v) (hS : ¬ S b o) : w.cell? ⟨b, o, none⟩ = some v := by
  obtain ⟨c, T, fr, h1, h2⟩ := cell_of_row hc
  obtain ⟨c', h3, _, h4⟩ := h.row b (cell_lt hc) c T fr h1
  unfold World.cell?
  simp only [h3]
  simpa [h4 o hS] using h2
theorem Fr.frozen {S : Nat → Nat → Prop} {w0 w : World} (h : Fr S w0 w) {b o o' : Nat} {v : Value} (hc : w0.cell? ⟨b, o, none⟩ = some v) : w.frozen? ⟨b, o', none⟩ = w0.frozen? ⟨b, o', none⟩ := by
  obtain ⟨c, T, fr, h1, h2⟩ := cell_of_row hc
  obtain ⟨c', h3, _, h4⟩ := h.row b (cell_lt hc) c T fr h1
  unfold World.frozen?
  simp only [h3, h1]

structure MRep (ρ : Env) (S : Nat → Nat → Prop) (w0 : World) (α : Adr) (M : List Chunk) (w : World) : Prop where
  fr : Fr S w0 w
  out : ∀ c, M.length ≤ c → α c = none
  cell : ∀ c ch b s, M[c]? = some ch → α c = some (b, s) → ∀ j x, ch.cells[j]? = some x → ∃ v, w.cell? ⟨b, s + j, none⟩ = some v ∧ VRel ρ α x v
  lt : ∀ c b s, α c = some (b, s) → b < w.heap.size
  wr : ∀ c ch b s, M[c]? = some ch → α c = some (b, s) → ch.wr = true → ∀ j, j < ch.cells.length → w.frozen? ⟨b, s + j, none⟩ = false ∧ (S b (s + j) ∨ w0.heap.size ≤ b)
  dis : ∀ c c' ch ch' b s b' s', c ≠ c' → M[c]? = some ch → M[c']? = some ch' → α c = some (b, s) → α c' = some (b', s') → b ≠ b' ∨ s + ch.cells.length ≤ s' ∨ s' + ch'.cells.length ≤ s

section
variable {ρ : Env} {S : Nat → Nat → Prop} {w0 : World} {α : Adr} {M : List Chunk} {w : World}
theorem MRep.drew (h : MRep ρ S w0 α M w) : MRep ρ S w0 α M w.drew := ⟨h.fr.drew, h.out, h.cell, h.lt, h.wr, h.dis⟩

/-- One cell written. -/
theorem MRep.set1 (h : MRep ρ S w0 α M w) {c : Nat} {ch : Chunk} {b s : Nat} (hc : M[c]? = some ch) (ha : α c = some (b, s)) (hw : ch.wr = true) {j : Nat} (hj : j < ch.cells.length) {x : SV} {v : Value} (hv : VRel ρ α x v) :
    MRep ρ S w0 α (M.set c { ch with cells := ch.cells.set j x }) (w.setCell ⟨b, s + j, none⟩ v) := by
  have hwr := h.wr c ch b s hc ha hw j hj
  have hlen : c < M.length := (List.getElem?_eq_some_iff.1 hc).1
  refine ⟨h.fr.setCell hwr.2 v, by simpa using h.out, ?_, by simpa using h.lt, ?_, ?_⟩
  · intro c' ch' b' s' hc' ha' i y hy
    by_cases hcc : c = c'
    · subst hcc
      simp only [List.getElem?_set, hlen, if_true, Option.some.injEq] at hc'
      subst hc'
      rw [ha] at ha'
      obtain ⟨rfl, rfl⟩ := Prod.mk.inj (Option.some.inj ha')
      simp only at hy
      by_cases hij : j = i
      · subst hij
        simp only [List.getElem?_set, hj, if_true, Option.some.injEq] at hy
        subst hy
        obtain ⟨u, hu, _⟩ := h.cell c ch b s hc ha j (ch.cells[j]) (by simp [hj])
        exact ⟨v, World.cell?_setCell_same w _ _ hu, hv⟩
      · rw [List.getElem?_set_ne hij] at hy
        obtain ⟨u, hu, hr⟩ := h.cell c ch b s hc ha i y hy
        refine ⟨u, ?_, hr⟩
        rw [World.cell?_setCell_other]
        · exact hu
        · intro e; simp only [Addr.mk.injEq] at e; omega
    · rw [List.getElem?_set_ne hcc] at hc'
      obtain ⟨u, hu, hr⟩ := h.cell c' ch' b' s' hc' ha' i y hy
      refine ⟨u, ?_, hr⟩
      rw [World.cell?_setCell_other]
      · exact hu
      · intro e
        simp only [Addr.mk.injEq] at e
        have hi : i < ch'.cells.length := (List.getElem?_eq_some_iff.1 hy).1
        have := h.dis c c' ch ch' b s b' s' hcc hc hc' ha ha'
        omega
  · intro c' ch' b' s' hc' ha' hw' i hi
    rw [World.frozen?_setCell]
    by_cases hcc : c = c'
    · subst hcc
      simp only [List.getElem?_set, hlen, if_true, Option.some.injEq] at hc'
      subst hc'
      exact h.wr c ch b' s' hc ha' hw i (by simpa using hi)
    · rw [List.getElem?_set_ne hcc] at hc'
      exact h.wr c' ch' b' s' hc' ha' hw' i hi
  · intro c1 c2 ch1 ch2 b1 s1 b2 s2 hne h1 h2 a1 a2
    have key : ∀ (d : Nat) (dh : Chunk), (M.set c { ch with cells := ch.cells.set j x })[d]? = some dh → ∃ dh' : Chunk, M[d]? = some dh' ∧ dh'.cells.length = dh.cells.length := by
      intro d dh hd
      by_cases hcd : c = d
      · subst hcd
        simp only [List.getElem?_set, hlen, if_true, Option.some.injEq] at hd
        subst hd
        exact ⟨ch, hc, by simp⟩
      · rw [List.getElem?_set_ne hcd] at hd
        exact ⟨dh, hd, rfl⟩
    obtain ⟨e1, g1, l1⟩ := key c1 ch1 h1
    obtain ⟨e2, g2, l2⟩ := key c2 ch2 h2
    have := h.dis c1 c2 e1 e2 b1 s1 b2 s2 hne g1 g2 a1 a2
    omega

def Adr.put (α : Adr) (c : Nat) (x : Nat × Nat) : Adr := fun d => if d = c then some x else α d
theorem Adr.le_put {α : Adr} {c : Nat} {x : Nat × Nat} (h : α c = none) : Le α (α.put c x) := by
  intro d y hd
  unfold Adr.put
  by_cases e : d = c
  · subst e; rw [h] at hd; cases hd
  · rw [if_neg e]; exact hd
/-- α' goes on from α: the first n chunks lie where they lay. -/
def Ext (n : Nat) (α α' : Adr) : Prop := ∀ c, c < n → α' c = α c
theorem Ext.refl (n : Nat) (α : Adr) : Ext n α α := fun _ _ => rfl
theorem Ext.trans {n n' : Nat} {α β γ : Adr} (h : Ext n α β) (k : Ext n' β γ) (hn : n ≤ n') : Ext n α γ := fun c hc => (k c (by omega)).trans (h c hc)
theorem MRep.le (h : MRep ρ S w0 α M w) {α' : Adr} (he : Ext M.length α α') : Le α α' := by
  intro c x hx
  have : c < M.length := by
    rcases Nat.lt_or_ge c M.length with h1 | h1
    · exact h1
    · rw [h.out c h1] at hx; cases hx
  rw [he c this]; exact hx

/-- A block made for chunk c, of which the memory already speaks. -/
theorem MRep.place (h : MRep ρ S w0 α M w) {c : Nat} {ch : Chunk} (hc : M[c]? = some ch) (hn : α c = none) {vs : List Value} {T : TypeId} (hv : VRels ρ α ch.cells vs) :
    MRep ρ S w0 (α.put c (w.heap.size, 0)) M (w.alloc (.cells vs.toArray T)) := by
  have hle : Le α (α.put c (w.heap.size, 0)) := Adr.le_put hn
  have hput : ∀ d x, α.put c (w.heap.size, 0) d = some x → (d = c ∧ x = (w.heap.size, 0)) ∨ (d ≠ c ∧ α d = some x) := by
    intro d x hd
    unfold Adr.put at hd
    by_cases e : d = c
    · rw [if_pos e] at hd; exact .inl ⟨e, (Option.some.inj hd).symm⟩
    · rw [if_neg e] at hd; exact .inr ⟨e, hd⟩
  have hlen : c < M.length := (List.getElem?_eq_some_iff.1 hc).1
  refine ⟨h.fr.alloc _, fun d hd => ?_, ?_, ?_, ?_, ?_⟩
  · unfold Adr.put; rw [if_neg (by omega)]; exact h.out d hd
  · intro d dh b s hd hb j x hx
    rcases hput d _ hb with ⟨rfl, e⟩ | ⟨hne, hb'⟩
    · obtain ⟨rfl, rfl⟩ := Prod.mk.inj e
      rw [hc] at hd
      cases hd
      obtain ⟨u, hu, hr⟩ := VRels.get hv hx
      refine ⟨u, ?_, VRel.le hle _ hr⟩
      rw [Nat.zero_add, World.cell?_alloc_new]
      simpa using hu
    · obtain ⟨u, hu, hr⟩ := h.cell d dh b s hd hb' j x hx
      exact ⟨u, by rw [World.cell?_alloc_lt w _ ⟨b, s + j, none⟩ (h.lt d b s hb')]; exact hu, VRel.le hle _ hr⟩
  · intro d b s hb
    rw [World.size_alloc]
    rcases hput d _ hb with ⟨rfl, e⟩ | ⟨hne, hb'⟩
    · obtain ⟨rfl, rfl⟩ := Prod.mk.inj e; omega
    · have := h.lt d b s hb'; omega
  · intro d dh b s hd hb hw j hj
    rcases hput d _ hb with ⟨rfl, e⟩ | ⟨hne, hb'⟩
    · obtain ⟨rfl, rfl⟩ := Prod.mk.inj e
      exact ⟨by rw [World.frozen?_alloc_new], .inr h.fr.size⟩
    · have := h.wr d dh b s hd hb' hw j hj
      refine ⟨?_, this.2⟩
      rw [World.frozen?_alloc_old w _ ⟨b, s + j, none⟩ (by have := h.lt d b s hb'; simp only; omega)]
      exact this.1
  · intro d d' dh dh' b s b' s' hne h1 h2 a1 a2
    rcases hput d _ a1 with ⟨rfl, e⟩ | ⟨hne1, hb1⟩ <;> rcases hput d' _ a2 with ⟨rfl, e'⟩ | ⟨hne2, hb2⟩
    · exact absurd rfl hne
    · obtain ⟨rfl, rfl⟩ := Prod.mk.inj e
      have := h.lt d' b' s' hb2; omega
    · obtain ⟨rfl, rfl⟩ := Prod.mk.inj e'
      have := h.lt d b s hb1; omega
    · exact h.dis d d' dh dh' b s b' s' hne h1 h2 hb1 hb2

/-- A chunk of which nothing is said yet where it lies. -/
theorem MRep.push (h : MRep ρ S w0 α M w) (ch : Chunk) : MRep ρ S w0 α (M ++ [ch]) w := by
  have key : ∀ d dh, α d ≠ none → (M ++ [ch])[d]? = some dh → M[d]? = some dh := by
    intro d dh hn hd
    rcases Nat.lt_or_ge d M.length with h1 | h1
    · rwa [List.getElem?_append_left h1] at hd
    · exact absurd (h.out d h1) hn
  refine ⟨h.fr, fun d hd => h.out d (by simp at hd; omega), ?_, h.lt, ?_, ?_⟩
  · exact fun d dh b s hd hb => h.cell d dh b s (key d dh (by simp [hb]) hd) hb
  · exact fun d dh b s hd hb => h.wr d dh b s (key d dh (by simp [hb]) hd) hb
  · exact fun d d' dh dh' b s b' s' hne h1 h2 a1 a2 => h.dis d d' dh dh' b s b' s' hne (key _ _ (by simp [a1]) h1) (key _ _ (by simp [a2]) h2) a1 a2
theorem MRep.make (h : MRep ρ S w0 α M w) {cells : List SV} {vs : List Value} {T : TypeId} (hv : VRels ρ α cells vs) :
    MRep ρ S w0 (α.put M.length (w.heap.size, 0)) (M ++ [⟨cells, true⟩]) (w.alloc (.cells vs.toArray T)) ∧ Ext M.length α (α.put M.length (w.heap.size, 0)) :=
  ⟨(h.push ⟨cells, true⟩).place (ch := ⟨cells, true⟩) (by simp) (h.out _ (Nat.le_refl _)) hv, fun c hc => by unfold Adr.put; rw [if_neg (by omega)]⟩
end
end Go.Proofs.YtpaidbefbkokfaaDoor
