/- Numbers as 32 bytes; elements made of bytes and told by bytes: contracts and rules. No condition. -/
import Derived.Test.YtpaidbefbkokfaaDoorEl
namespace Go.Proofs.YtpaidbefbkokfaaDoor
open Go Go.RowKit
set_option linter.unusedVariables false
set_option linter.unusedSimpArgs false

def octs (n : Nat) : Nat → Nat → List Int
  | _, 0 => []
  | i, k + 1 => (octet n i : Nat) :: octs n (i + 1) k
def bytesV (n : Nat) : Value := .agg ((octs n 0 32).map (Value.int .u8)).toArray
def octsS (n : Nat) : Nat → Nat → List SV
  | _, 0 => []
  | i, k + 1 => .int .u8 (.o n i) :: octsS n (i + 1) k
theorem octet_lt (n j : Nat) : octet n j < 256 := Nat.mod_lt _ (by decide)
theorem octsS_rel {ρ : Env} {α : Adr} {n : Nat} : ∀ (k i : Nat), VRels ρ α (octsS n i k) ((octs (ρ.n n) i k).map (Value.int .u8))
  | 0, i => by simp [octsS, octs, VRels]
  | k + 1, i => by
    simp only [octsS, octs, List.map_cons, VRels, VRel, Sx.val]
    refine ⟨_, _, rfl, ⟨rfl, ?_⟩, octsS_rel k (i + 1)⟩
    have := octet_lt (ρ.n n) i
    simp only [inR, lo, hi]; omega
theorem octs_eq {n : Nat} {xs : List Int} : ∀ {k i : Nat}, xs.length = k → (∀ j, j < k → xs[j]? = some ((octet n (i + j) : Nat) : Int)) → xs = octs n i k
  | 0, i, hl, _ => List.eq_nil_of_length_eq_zero hl
  | k + 1, i, hl, h => by
    cases xs with
    | nil => simp at hl
    | cons x xs =>
      have h0 := h 0 (by omega)
      simp only [List.getElem?_cons_zero, Option.some.injEq, Nat.add_zero] at h0
      simp only [octs, h0]
      congr 1
      refine octs_eq (k := k) (by simpa using hl) fun j hj => ?_
      have := h (j + 1) (by omega)
      rw [show i + 1 + j = i + (j + 1) by omega]
      simpa using this
theorem ofB_octet : ∀ {xs : List Int} {j : Nat} {x : Int}, (∀ y ∈ xs, 0 ≤ y ∧ y < 256) → xs[j]? = some x → ((octet (ofB xs) j : Nat) : Int) = x
  | [], j, x, _, h => by simp at h
  | y :: l, 0, x, hb, h => by
    simp only [List.getElem?_cons_zero, Option.some.injEq] at h
    subst h
    have := hb y (by simp)
    simp only [octet, ofB, Nat.pow_zero, Nat.div_one]
    omega
  | y :: l, j + 1, x, hb, h => by
    simp only [List.getElem?_cons_succ] at h
    have ih := ofB_octet (xs := l) (fun z hz => hb z (List.mem_cons_of_mem _ hz)) h
    have hy := hb y (by simp)
    rw [← ih]
    simp only [octet, ofB]
    rw [Nat.pow_succ, Nat.mul_comm (256 ^ j) 256, ← Nat.div_div_eq_div_mul]
    congr 3
    omega

/-- The number that 32 symbols of bytes are, if they are one. -/
def isOcts (n : Nat) : Nat → List SV → Bool
  | _, [] => true
  | i, .int .u8 (.o m j) :: l => Nat.beq m n && Nat.beq j i && isOcts n (i + 1) l
  | _, _ :: _ => false
theorem isOcts_ok {n : Nat} : ∀ {l : List SV} {i : Nat}, isOcts n i l = true → l = octsS n i l.length
  | [], i, _ => rfl
  | s :: l, i, h => by
    cases s with
    | int k x =>
      cases x <;> cases k <;> simp only [isOcts, Bool.false_eq_true, Bool.and_eq_true] at h
      obtain ⟨⟨h1, h2⟩, h3⟩ := h
      have e1 := Nat.eq_of_beq_eq_true h1
      have e2 := Nat.eq_of_beq_eq_true h2
      subst e1 e2
      simp only [List.length_cons, octsS]
      rw [← isOcts_ok h3]
    | _ => simp [isOcts] at h
/-- 32 bytes as a number of the environment: the one that they are, or a new one. -/
def asNum (ms : Ms) (l : List SV) : Option (Nat × Ms) :=
  match l with
  | .int .u8 (.o n 0) :: _ => bif isOcts n 0 l then some (n, ms) else
      match sints .u8 l with
      | some xs => some (ms.nn, { ms with tr := .dn ms.nn .of [] xs [] :: ms.tr, nn := ms.nn + 1 })
      | none => none
  | _ => match sints .u8 l with
    | some xs => some (ms.nn, { ms with tr := .dn ms.nn .of [] xs [] :: ms.tr, nn := ms.nn + 1 })
    | none => none
theorem sints_in {ρ : Env} {α : Adr} {k : IntKind} : ∀ {vs : List SV} {us : List Value} {xs : List Sx}, sints k vs = some xs → VRels ρ α vs us → ∀ y ∈ xs.map (Sx.val ρ), inR k y
  | [], us, xs, h, hv => by simp only [sints, Option.some.injEq] at h; subst h; simp
  | s :: l, us, xs, h, hv => by
    cases s <;> simp only [sints, reduceCtorEq] at h
    split at h
    · rename_i hk
      subst hk
      cases hl : sints k l with
      | none => simp [hl] at h
      | some r =>
        simp only [hl, Option.some.injEq] at h
        subst h
        simp only [VRels, VRel] at hv
        obtain ⟨u, us', rfl, ⟨rfl, hin⟩, h3⟩ := hv
        intro y hy
        simp only [List.map_cons, List.mem_cons] at hy
        rcases hy with rfl | hy
        · exact hin
        · exact sints_in hl h3 y hy
    · cases h
theorem asNum_ok {ρ : Env} {ms ms' : Ms} {l : List SV} {n : Nat} (h : asNum ms l = some (n, ms')) (hs : Sat ρ ms'.tr) : Grows ρ ms ms' ∧ ms'.mem = ms.mem ∧ ms'.gl = ms.gl ∧ ms'.ne = ms.ne ∧ ∀ {α : Adr} {us : List Value}, VRels ρ α l us → us = (octs (ρ.n n) 0 l.length).map (Value.int .u8) := by
  have key : (match sints .u8 l with
      | some xs => some (ms.nn, { ms with tr := .dn ms.nn .of [] xs [] :: ms.tr, nn := ms.nn + 1 })
      | none => none) = some (n, ms') → Grows ρ ms ms' ∧ ms'.mem = ms.mem ∧ ms'.gl = ms.gl ∧ ms'.ne = ms.ne ∧ ∀ {α : Adr} {us : List Value}, VRels ρ α l us → us = (octs (ρ.n n) 0 l.length).map (Value.int .u8) := by
    intro h
    split at h
    · rename_i xs hx
      simp only [Option.some.injEq, Prod.mk.injEq] at h
      obtain ⟨rfl, rfl⟩ := h
      refine ⟨⟨hs.2, rfl, Nat.le_refl _⟩, rfl, rfl, rfl, fun {α us} hv => ?_⟩
      have hd : ρ.n ms.nn = ofB (xs.map (Sx.val ρ)) := hs.1
      have e1 := sints_ok hx hv
      have hin := sints_in hx hv
      rw [e1]
      congr 1
      have hlen : (xs.map (Sx.val ρ)).length = l.length := by have := congrArg List.length e1; simp at this ⊢; rw [← this, hv.length]
      refine octs_eq hlen fun j hj => ?_
      rw [Nat.zero_add, hd]
      have hjl : j < (xs.map (Sx.val ρ)).length := by omega
      have hjx : (xs.map (Sx.val ρ))[j]? = some ((xs.map (Sx.val ρ))[j]) := List.getElem?_eq_getElem hjl
      rw [hjx, ofB_octet (fun y hy => by have := hin y hy; simpa [inR, lo, hi] using this) hjx]
    · cases h
  unfold asNum at h
  split at h
  · rename_i n0 rest
    cases hb : isOcts n0 0 (.int .u8 (.o n0 0) :: rest) with
    | true =>
      simp only [hb, cond_true, Option.some.injEq, Prod.mk.injEq] at h
      obtain ⟨rfl, rfl⟩ := h
      refine ⟨⟨hs, rfl, Nat.le_refl _⟩, rfl, rfl, rfl, fun {α us} hv => ?_⟩
      have e := isOcts_ok hb
      rw [e] at hv
      have h2 := octsS_rel (ρ := ρ) (α := α) (n := n0) (SV.int .u8 (.o n0 0) :: rest).length 0
      have uniq : ∀ {l : List SV} {a b : List Value} {m i k : Nat}, l = octsS m i k → VRels ρ α l a → VRels ρ α l b → a = b := by
        intro l
        induction l with
        | nil => intro a b m i k _ ha hb; simp only [VRels] at ha hb; rw [ha, hb]
        | cons s l ih =>
          intro a b m i k he ha hb
          cases k with
          | zero => simp [octsS] at he
          | succ k =>
            simp only [octsS, List.cons.injEq] at he
            obtain ⟨rfl, he⟩ := he
            simp only [VRels, VRel] at ha hb
            obtain ⟨u, us', rfl, ⟨rfl, _⟩, ha⟩ := ha
            obtain ⟨v, vs', rfl, ⟨rfl, _⟩, hb⟩ := hb
            rw [ih he ha hb]
      exact uniq rfl hv h2
    | false => simp only [hb, cond_false] at h; exact key h
  · exact key h

/-! ### a fresh chunk -/
theorem MRep.fresh {ρ : Env} {S : Nat → Nat → Prop} {w0 : World} {α : Adr} {M : List Chunk} {w w' : World} (h : MRep ρ S w0 α M w) (hf : Fr (fun _ _ => False) w w') {p : Nat × Nat} {cells : List SV} (hp : w.heap.size ≤ p.1) (hlt : p.1 < w'.heap.size) (hown : Own cells.length w' p)
    (hc : ∀ j x, cells[j]? = some x → ∃ v, w'.cell? ⟨p.1, p.2 + j, none⟩ = some v ∧ VRel ρ (α.put M.length p) x v) : MRep ρ S w0 (α.put M.length p) (M ++ [⟨cells, true⟩]) w' ∧ Ext M.length α (α.put M.length p) := by
  have hg := h.grow hf
  have hle : Le α (α.put M.length p) := Adr.le_put (h.out _ (Nat.le_refl _))
  have hput : ∀ d x, α.put M.length p d = some x → (d = M.length ∧ x = p) ∨ (d < M.length ∧ α d = some x) := by
    intro d x hd
    unfold Adr.put at hd
    by_cases e : d = M.length
    · rw [if_pos e] at hd; exact .inl ⟨e, (Option.some.inj hd).symm⟩
    · rw [if_neg e] at hd
      rcases Nat.lt_or_ge d M.length with h1 | h1
      · exact .inr ⟨h1, hd⟩
      · rw [h.out d h1] at hd; cases hd
  have hM : ∀ (d : Nat) dh, d < M.length → (M ++ [⟨cells, true⟩])[d]? = some dh → M[d]? = some dh := fun d dh hd hx => by rwa [List.getElem?_append_left hd] at hx
  have hN : ∀ dh, (M ++ [(⟨cells, true⟩ : Chunk)])[M.length]? = some dh → dh = ⟨cells, true⟩ := fun dh hx => by simpa [eq_comm] using hx
  have old : ∀ d b s, α d = some (b, s) → b < w.heap.size := h.lt
  refine ⟨⟨hg.fr, fun c hc' => ?_, ?_, ?_, ?_, ?_⟩, fun c hc' => by unfold Adr.put; rw [if_neg (by omega)]⟩
  · simp only [List.length_append, List.length_cons, List.length_nil] at hc'
    unfold Adr.put
    rw [if_neg (by omega)]
    exact h.out c (by omega)
  · intro d dh b s hd ha j x hx
    rcases hput d _ ha with ⟨rfl, e⟩ | ⟨hlt', ha'⟩
    · have := hN dh hd
      subst this
      obtain ⟨v, h1, h2⟩ := hc j x hx
      rw [← e] at h1
      exact ⟨v, h1, h2⟩
    · obtain ⟨v, h1, h2⟩ := hg.cell d dh b s (hM d dh hlt' hd) ha' j x hx
      exact ⟨v, h1, VRel.le hle _ h2⟩
  · intro d b s ha
    rcases hput d _ ha with ⟨rfl, e⟩ | ⟨hlt', ha'⟩
    · have : b = p.1 := by rw [← e]
      omega
    · exact hg.lt d b s ha'
  · intro d dh b s hd ha hw j hj
    rcases hput d _ ha with ⟨rfl, e⟩ | ⟨hlt', ha'⟩
    · have := hN dh hd
      subst this
      have h1 := (hown j hj).2
      rw [← e] at h1
      have : b = p.1 := by rw [← e]
      exact ⟨h1, .inr (by have := h.fr.size; omega)⟩
    · exact hg.wr d dh b s (hM d dh hlt' hd) ha' hw j hj
  · intro d d' dh dh' b s b' s' hne h1 h2 a1 a2
    rcases hput d _ a1 with ⟨rfl, e⟩ | ⟨l1, a1'⟩ <;> rcases hput d' _ a2 with ⟨rfl, e'⟩ | ⟨l2, a2'⟩
    · exact absurd rfl hne
    · have h3 := old d' b' s' a2'
      have : b = p.1 := by rw [← e]
      left; omega
    · have h3 := old d b s a1'
      have : b' = p.1 := by rw [← e']
      left; omega
    · exact hg.dis d d' dh dh' b s b' s' hne (hM d dh l1 h1) (hM d' dh' l2 h2) a1' a2'

/-! ### elements out of bytes -/
def ElOfC (P : Program) (f : FuncId) : Prop :=
  ∀ (w : World) (n : Nat), Invokes P f #[bytesV n] w fun r w' => ∃ p, r = ptrV p ∧ w.heap.size ≤ p.1 ∧ Own 5 w' p ∧ Rd w' p (sbE n) ∧ Fr (fun _ _ => False) w w'
def elOfRule : Rule := fun ms args =>
  match args with
  | [.agg l] => bif Nat.beq l.length 32 then (match asNum ms l with
    | some (n, ms1) => some (.ptr ms1.mem.length 0, { ms1 with mem := ms1.mem ++ [⟨limbs ms1.ne, true⟩], tr := .de ms1.ne .sb [] [] [n] :: ms1.tr, ne := ms1.ne + 1 })
    | none => none) else none
  | _ => none
theorem elOfRule_ok {P : Program} {f : FuncId} (h : ElOfC P f) : RuleOk P f elOfRule := by
  intro ρ ms ms' args ret hr hs
  unfold elOfRule at hr
  split at hr
  · rename_i l
    cases hl : Nat.beq l.length 32 with
    | false => simp [hl] at hr
    | true =>
      have hl' := Nat.eq_of_beq_eq_true hl
      simp only [hl, cond_true] at hr
      split at hr
      · rename_i n ms1 hn
        simp only [Option.some.injEq, Prod.mk.injEq] at hr
        obtain ⟨rfl, rfl⟩ := hr
        obtain ⟨g, em, eg, ee, hv'⟩ := asNum_ok hn hs.2
        have hd : ρ.e ms1.ne = sbE (ρ.n n) := hs.1
        refine ⟨g.trans ⟨hs.2, rfl, by simp⟩, fun S w0 α w vs hm hg hv => ?_⟩
        simp only [VRels, VRel] at hv
        obtain ⟨u, us', rfl, ⟨zs, rfl, h1⟩, h2⟩ := hv
        subst h2
        have e1 := hv' h1
        rw [hl'] at e1
        subst e1
        refine (h w (ρ.n n)).mono ?_
        rintro r w' ⟨p, rfl, hp, hown, hrd, hf⟩
        have hlt : p.1 < w'.heap.size := by obtain ⟨v, hv⟩ := (hown 0 (by omega)).1; exact cell_lt hv
        have hrd' : Rd w' (p.1, p.2) (ρ.e ms1.ne) := by rw [hd]; exact hrd
        obtain ⟨hm', hext⟩ := hm.fresh hf (p := p) (cells := limbs ms1.ne) hp hlt (by simpa [limbs] using hown) (limbs_rd hrd')
        rw [← em] at hm' hext
        refine ⟨_, by rw [← em]; exact hext, ?_, hm'⟩
        simp only [VRel, ptrV]
        exact ⟨p.1, p.2, by unfold Adr.put; simp, by simp⟩
      · cases hr
  · cases hr

/-! ### elements told by bytes -/
def ElByC (P : Program) (f : FuncId) : Prop :=
  ∀ (w : World) (p : Nat × Nat) (e : Elt), Rd w p e → Invokes P f #[ptrV p] w fun r w' => r = bytesV (canonE e) ∧ Fr (fun _ _ => False) w w'
def elByRule : Rule := fun ms args =>
  match args with
  | [.ptr c o] => match readE ms.mem (c, o) with
    | some e => some (.agg (octsS ms.nn 0 32), { ms with tr := .dn ms.nn .canon [e] [] [] :: ms.tr, nn := ms.nn + 1 })
    | none => none
  | _ => none
theorem elByRule_ok {P : Program} {f : FuncId} (h : ElByC P f) : RuleOk P f elByRule := by
  intro ρ ms ms' args ret hr hs
  unfold elByRule at hr
  split at hr
  · rename_i c o
    split at hr
    · rename_i e he
      simp only [Option.some.injEq, Prod.mk.injEq] at hr
      obtain ⟨rfl, rfl⟩ := hr
      have hd : ρ.n ms.nn = canonE (ρ.e e) := hs.1
      refine ⟨⟨hs.2, rfl, Nat.le_refl _⟩, fun S w0 α w vs hm hg hv => ?_⟩
      simp only [VRels, VRel] at hv
      obtain ⟨u, us', rfl, ⟨b, s, h1, rfl⟩, h2⟩ := hv
      subst h2
      have hrd := readE_ok hm he h1
      refine (h w (b, s + o) (ρ.e e) hrd).mono ?_
      rintro r w' ⟨rfl, hf⟩
      refine ⟨α, Ext.refl _ _, ?_, hm.grow hf⟩
      simp only [VRel, bytesV]
      refine ⟨_, rfl, ?_⟩
      rw [← hd]
      exact octsS_rel 32 0
    · cases hr
  · cases hr
end Go.Proofs.YtpaidbefbkokfaaDoor
