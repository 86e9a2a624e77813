/- Reading, writing and making memory over symbols; calls by rules; that the model does the same. No condition. -/
import Derived.Test.YtpaidbefbkokfaaDoorPur4
namespace Go.Proofs.YtpaidbefbkokfaaDoor
open Go Go.RowKit
set_option linter.unusedVariables false
set_option linter.unusedSimpArgs false

structure Ms where
  mem : List Chunk
  tr : List Ent
  ni : Nat
  nb : Nat
  ne : Nat
  nn : Nat
  orc : List Bool
  gl : List (Nat × Nat)
  deriving Repr, Inhabited

def knOf : List Ent → Nat → Option Bool
  | [], _ => none
  | .asm (.x j) d :: l, i => bif Nat.beq i j then some d else knOf l i
  | _ :: l, i => knOf l i
theorem kn_ok {ρ : Env} : ∀ {tr : List Ent}, Sat ρ tr → Kn ρ (knOf tr)
  | [], _ => fun i d h => by simp [knOf] at h
  | e :: l, hs => fun i d h => by
    have ih := kn_ok hs.2
    cases e with
    | asm b v =>
      cases b with
      | x j =>
        simp only [knOf] at h
        cases hij : Nat.beq i j with
        | true =>
          simp only [hij, cond_true, Option.some.injEq] at h
          have : i = j := Nat.eq_of_beq_eq_true hij
          subst this h
          exact hs.1
        | false => simp only [hij, cond_false] at h; exact ih i d h
      | c b => simp only [knOf] at h; exact ih i d h
    | _ => simp only [knOf] at h; exact ih i d h

def GRep (gl : List (Nat × Nat)) (α : Adr) : Prop := ∀ g c, (g, c) ∈ gl → α c = some (g, 0)
theorem GRep.le {gl : List (Nat × Nat)} {α α' : Adr} (h : GRep gl α) (hl : Le α α') : GRep gl α' := fun g c hm => hl _ _ (h g c hm)

/-! ### loads -/
/-- The cells of a number, in order. -/
def isOs (n : Nat) : Nat → List SV → Bool
  | _, [] => true
  | i, .int .u8 (.o m j) :: l => Nat.beq m n && Nat.beq j i && isOs n (i + 1) l
  | _, _ :: _ => false
def isWs (n : Nat) : Nat → List SV → Bool
  | _, [] => true
  | i, .int .u64 (.w m j) :: l => Nat.beq m n && Nat.beq j i && isWs n (i + 1) l
  | _, _ :: _ => false
/-- The cell that an index tells, of k cells. -/
def nthS (i : Nat) (l : List SV) (k : Nat) : Option SV := bif Nat.beq l.length k then (match l with
  | .int .u8 (.o n 0) :: _ => bif isOs n 0 l then some (.int .u8 (.oi n i)) else none
  | .int .u64 (.w n 0) :: _ => bif isWs n 0 l then some (.int .u64 (.wi n i)) else none
  | _ => none) else none
theorem isOs_ok {n : Nat} : ∀ {l : List SV} {i : Nat}, isOs n i l = true → ∀ j, j < l.length → l[j]? = some (.int .u8 (.o n (i + j)))
  | [], i, _, j, hj => by simp at hj
  | x :: l, i, h, j, hj => by
    unfold isOs at h
    split at h
    · simp_all
    · rename_i i' m j' l' heq
      simp only [List.cons.injEq] at heq
      obtain ⟨rfl, rfl⟩ := heq
      simp only [Bool.and_eq_true] at h
      obtain ⟨⟨h1, h2⟩, h3⟩ := h
      have e1 := Nat.eq_of_beq_eq_true h1
      have e2 := Nat.eq_of_beq_eq_true h2
      subst e1 e2
      cases j with
      | zero => simp
      | succ j =>
        rw [List.getElem?_cons_succ, isOs_ok h3 j (by simpa using hj)]
        rw [show j' + 1 + j = j' + (j + 1) by omega]
    · cases h
theorem isWs_ok {n : Nat} : ∀ {l : List SV} {i : Nat}, isWs n i l = true → ∀ j, j < l.length → l[j]? = some (.int .u64 (.w n (i + j)))
  | [], i, _, j, hj => by simp at hj
  | x :: l, i, h, j, hj => by
    unfold isWs at h
    split at h
    · simp_all
    · rename_i i' m j' l' heq
      simp only [List.cons.injEq] at heq
      obtain ⟨rfl, rfl⟩ := heq
      simp only [Bool.and_eq_true] at h
      obtain ⟨⟨h1, h2⟩, h3⟩ := h
      have e1 := Nat.eq_of_beq_eq_true h1
      have e2 := Nat.eq_of_beq_eq_true h2
      subst e1 e2
      cases j with
      | zero => simp
      | succ j =>
        rw [List.getElem?_cons_succ, isWs_ok h3 j (by simpa using hj)]
        rw [show j' + 1 + j = j' + (j + 1) by omega]
    · cases h
theorem nthS_ok {ρ : Env} {α : Adr} {i k : Nat} {l : List SV} {r : SV} (h : nthS i l k = some r) (h0 : 0 ≤ ρ.i i) (h1 : ρ.i i < k) : ∃ x, l[(ρ.i i).toNat]? = some x ∧ ∀ v, VRel ρ α x v → VRel ρ α r v := by
  unfold nthS at h
  cases hb : Nat.beq l.length k with
  | false => simp [hb] at h
  | true =>
    have hl := Nat.eq_of_beq_eq_true hb
    simp only [hb, cond_true] at h
    have hj : (ρ.i i).toNat < l.length := by omega
    split at h
    · rename_i n l'
      cases ho : isOs n 0 (SV.int .u8 (.o n 0) :: l') with
      | false => simp [ho] at h
      | true =>
        simp only [ho, cond_true, Option.some.injEq] at h
        subst h
        refine ⟨_, isOs_ok ho _ hj, fun v hv => ?_⟩
        rw [Nat.zero_add] at hv
        simpa only [VRel, Sx.val] using hv
    · rename_i n l'
      cases ho : isWs n 0 (SV.int .u64 (.w n 0) :: l') with
      | false => simp [ho] at h
      | true =>
        simp only [ho, cond_true, Option.some.injEq] at h
        subst h
        refine ⟨_, isWs_ok ho _ hj, fun v hv => ?_⟩
        rw [Nat.zero_add] at hv
        simpa only [VRel, Sx.val] using hv
    · cases h
def sload (P : Program) (M : List Chunk) (ev : Operand → Option SV) : Op → Option SV
  | .load t a => match ev a with
    | some (.ptr c o) => match M[c]? with
      | some ch => match tyAgg P t with
        | some true => match tySize P t with
          | some n => if o + n ≤ ch.cells.length then some (.agg ((ch.cells.drop o).take n)) else none
          | none => none
        | some false => ch.cells[o]?
        | none => none
      | none => none
    | some (.ptrI c o i k) => match M[c]? with
      | some ch => match tyAgg P t with
        | some false => nthS i ((ch.cells.drop o).take k) k
        | _ => none
      | none => none
    | _ => none
  | _ => none

section
variable {ρ : Env} {S : Nat → Nat → Prop} {w0 : World} {α : Adr} {P : Program} {w : World} {ev : Operand → Option SV} {a : Act}
theorem cells_list : ∀ {l : List SV} {b t : Nat}, (∀ j x, l[j]? = some x → ∃ v, w.cell? ⟨b, t + j, none⟩ = some v ∧ VRel ρ α x v) → ∃ us : List Value, VRels ρ α l us ∧ ∀ j v, us[j]? = some v → w.cell? ⟨b, t + j, none⟩ = some v
  | [], b, t, h => ⟨[], by simp [VRels], by simp⟩
  | x :: l, b, t, h => by
    obtain ⟨v, hv, hr⟩ := h 0 x (by simp)
    obtain ⟨us, h1, h2⟩ := cells_list (l := l) (b := b) (t := t + 1) fun j y hy => by
      have := h (j + 1) y (by simpa using hy)
      rwa [show t + 1 + j = t + (j + 1) by omega]
    refine ⟨v :: us, by simp only [VRels]; exact ⟨v, us, rfl, hr, h1⟩, fun j u hu => ?_⟩
    cases j with
    | zero => simp only [List.getElem?_cons_zero, Option.some.injEq] at hu; subst hu; exact hv
    | succ j =>
      simp only [List.getElem?_cons_succ] at hu
      have := h2 j u hu
      rwa [show t + (j + 1) = t + 1 + j by omega]
theorem getElem?_take_drop {β : Type} {l : List β} {o n j : Nat} {x : β} (h : ((l.drop o).take n)[j]? = some x) : l[o + j]? = some x := by
  rw [List.getElem?_take] at h
  split at h
  · rwa [List.getElem?_drop] at h
  · cases h
/-- n cells from a pointer on. -/
theorem MRep.read {M : List Chunk} (h : MRep ρ S w0 α M w) {c o n : Nat} {ch : Chunk} (hc : M[c]? = some ch) (hn : o + n ≤ ch.cells.length) {b s : Nat} (ha : α c = some (b, s)) :
    ∃ us : List Value, VRels ρ α ((ch.cells.drop o).take n) us ∧ us.length = n ∧ (loadCells ⟨b, s + o, none⟩ n).run P w = .ok us.toArray w := by
  obtain ⟨us, h1, h2⟩ := cells_list (ρ := ρ) (α := α) (w := w) (l := (ch.cells.drop o).take n) (b := b) (t := s + o) fun j x hj => by
    obtain ⟨v, hv, hr⟩ := h.cell c ch b s hc ha (o + j) x (getElem?_take_drop hj)
    exact ⟨v, by rwa [Nat.add_assoc], hr⟩
  have hl : us.length = n := by rw [h1.length]; simp; omega
  refine ⟨us, h1, hl, ?_⟩
  have := run_loadCells_list (P := P) w ⟨b, s + o, none⟩ us fun j v hv => by rw [add_none]; exact h2 j v hv
  rwa [hl] at this
theorem sload_ok {M : List Chunk} (h : MRep ρ S w0 α M w) {o : Oper} {r : SV} (hl : sload P M ev o.op = some r) (he : ∀ x s, ev x = some s → VRel ρ α s (a.eval x)) :
    ∃ v, (execOp a.eval o).run P w = .ok (.value v) w ∧ VRel ρ α r v := by
  obtain ⟨dst, op, ty, pos, after, guard⟩ := o
  simp only at hl
  cases op <;> simp only [sload, reduceCtorEq] at hl
  case load t x =>
    split at hl
    · rename_i c o hx
      have h1 := he _ _ hx
      simp only [VRel] at h1
      obtain ⟨b, s, hα, h3⟩ := h1
      split at hl
      · rename_i ch hc
        split at hl
        · rename_i hg
          split at hl
          · rename_i n hn
            split at hl
            · rename_i hle
              simp only [Option.some.injEq] at hl
              subst hl
              obtain ⟨us, h4, h5, h6⟩ := h.read (P := P) hc hle hα
              refine ⟨.agg us.toArray, ?_, by simp only [VRel]; exact ⟨us, rfl, h4⟩⟩
              simp only [execOp, Instr.loadAt, h3, Instr.sureAddr, Sem.run_bind, Sem.run_pure, Result.andThen_ok, loadVar, run_agg hg, if_true, run_size hn, h6]
            · cases hl
          · cases hl
        · rename_i hg
          obtain ⟨v, hv, hr⟩ := h.cell c ch b s hc hα o r hl
          refine ⟨v, ?_, hr⟩
          simp only [execOp, Instr.loadAt, h3, Instr.sureAddr, Sem.run_bind, Sem.run_pure, Result.andThen_ok, loadVar, run_agg hg, if_false, Bool.false_eq_true, run_load, hv]
        · cases hl
      · cases hl
    · rename_i c o i k hx
      have h1 := he _ _ hx
      simp only [VRel] at h1
      obtain ⟨b, s, hα, h3, m0, m1⟩ := h1
      split at hl
      · rename_i ch hc
        split at hl
        · rename_i hg
          obtain ⟨y, hy, hr⟩ := nthS_ok (α := α) hl m0 m1
          obtain ⟨v, hv, hvr⟩ := h.cell c ch b s hc hα _ y (getElem?_take_drop hy)
          rw [← Nat.add_assoc] at hv
          refine ⟨v, ?_, hr v hvr⟩
          simp only [execOp, Instr.loadAt, h3, Instr.sureAddr, Sem.run_bind, Sem.run_pure, Result.andThen_ok, loadVar, run_agg hg, if_false, Bool.false_eq_true, run_load, hv]
        · cases hl
      · cases hl
    · cases hl

/-! ### stores -/
theorem list_set_same {β : Type} {l : List β} {i : Nat} {x : β} (h : l[i]? = some x) : l.set i x = l := by
  apply List.ext_getElem?
  intro j
  by_cases hij : i = j
  · subst hij
    rw [List.getElem?_set]
    simp only [if_true]
    rw [if_pos (List.getElem?_eq_some_iff.1 h).1, h]
  · rw [List.getElem?_set_ne hij]
theorem MRep.store {c b s o : Nat} (ha : α c = some (b, s)) : ∀ {vs : List SV} {us : List Value} {M : List Chunk} {w : World} {ch : Chunk} (i : Nat), MRep ρ S w0 α M w → M[c]? = some ch → ch.wr = true → o + i + vs.length ≤ ch.cells.length →
      vs.all SV.one = true → VRels ρ α vs us → ∃ w', (storeCells ⟨b, s + o, none⟩ us i).run P w = .ok () w' ∧ MRep ρ S w0 α (M.set c { ch with cells := setL ch.cells (o + i) vs }) w'
  | [], us, M, w, ch, i, h, hc, hw, hl, h1, hv => by
    simp only [VRels] at hv
    subst hv
    refine ⟨w, by simp only [storeCells, Sem.run_pure], ?_⟩
    simp only [setL]
    rw [show ({ cells := ch.cells, wr := ch.wr } : Chunk) = ch from rfl, list_set_same hc]
    exact h
  | x :: vs, us, M, w, ch, i, h, hc, hw, hl, h1, hv => by
    simp only [VRels] at hv
    obtain ⟨u, us', rfl, hx, hvs⟩ := hv
    simp only [List.all_cons, Bool.and_eq_true] at h1
    simp only [List.length_cons] at hl
    have hj : o + i < ch.cells.length := by omega
    obtain ⟨old, hold, _⟩ := h.cell c ch b s hc ha (o + i) (ch.cells[o + i]) (by simp [hj])
    have hfr := (h.wr c ch b s hc ha hw (o + i) hj).1
    have hset := h.set1 hc ha hw hj hx
    have hlen : c < M.length := (List.getElem?_eq_some_iff.1 hc).1
    obtain ⟨w', hrun, hrep⟩ := MRep.store (o := o) ha (vs := vs) (us := us') (i + 1) hset (ch := { ch with cells := ch.cells.set (o + i) x }) (by simp [hlen]) hw (by simp only [List.length_set]; omega) h1.2 hvs
    refine ⟨w', ?_, ?_⟩
    · simp only [storeCells, Sem.run_bind, add_none]
      rw [run_store P w _ u _ (SV.one_value hx h1.1).1]
      rw [Nat.add_assoc, hold]
      simp only [hfr, Bool.false_eq_true, if_false, Result.andThen_ok]
      exact hrun
    · simp only [List.set_set, setL] at hrep ⊢
      rw [Nat.add_assoc]
      exact hrep

/-! ### rules -/
abbrev Rule := Ms → List SV → Option (SV × Ms)
def Invokes (P : Program) (f : FuncId) (args : Array Value) (w : World) (Post : Value → World → Prop) : Prop :=
  (∃ v w', (callFunc f args).run P w = .ok (.value v) w' ∧ Post v w') ∨
  ((callFunc f args).run P w = .ok (.enter f args) w ∧ Calls P f args w fun e w' => ∃ v, e = .returned v ∧ Post v w')
theorem Invokes.mono {P : Program} {f : FuncId} {args : Array Value} {w : World} {Post Post' : Value → World → Prop} (h : Invokes P f args w Post) (hp : ∀ v w', Post v w' → Post' v w') : Invokes P f args w Post' := by
  rcases h with ⟨v, w', h1, h2⟩ | ⟨h1, h2⟩
  · exact .inl ⟨v, w', h1, hp _ _ h2⟩
  · exact .inr ⟨h1, h2.mono fun e w' ⟨v, he, hq⟩ => ⟨v, he, hp _ _ hq⟩⟩

structure Grows (ρ : Env) (ms ms' : Ms) : Prop where
  sat : Sat ρ ms.tr
  gl : ms'.gl = ms.gl
  len : ms.mem.length ≤ ms'.mem.length
theorem Grows.trans {m1 m2 m3 : Ms} (h : Grows ρ m1 m2) (k : Grows ρ m2 m3) : Grows ρ m1 m3 := ⟨h.sat, k.gl.trans h.gl, Nat.le_trans h.len k.len⟩
def RuleOk (P : Program) (f : FuncId) (r : Rule) : Prop :=
  ∀ (ρ : Env) (ms ms' : Ms) (args : List SV) (ret : SV), r ms args = some (ret, ms') → Sat ρ ms'.tr →
    Grows ρ ms ms' ∧ ∀ (S : Nat → Nat → Prop) (w0 : World) (α : Adr) (w : World) (vs : List Value), MRep ρ S w0 α ms.mem w → GRep ms.gl α → VRels ρ α args vs →
      Invokes P f vs.toArray w fun v w' => ∃ α', Ext ms.mem.length α α' ∧ VRel ρ α' ret v ∧ MRep ρ S w0 α' ms'.mem w'

def sargs (ev : Operand → Option SV) : List Operand → Option (List SV)
  | [] => some []
  | x :: l => match ev x, sargs ev l with
    | some s, some r => some (s :: r)
    | _, _ => none
theorem sargs_ok (he : ∀ x s, ev x = some s → VRel ρ α s (a.eval x)) : ∀ {l : List Operand} {r : List SV}, sargs ev l = some r → VRels ρ α r (l.map a.eval)
  | [], r, h => by simp only [sargs, Option.some.injEq] at h; subst h; simp [VRels]
  | x :: l, r, h => by
    simp only [sargs] at h
    split at h
    · rename_i s r' hs hr
      simp only [Option.some.injEq] at h
      subst h
      simp only [VRels, List.map_cons]
      exact ⟨_, _, rfl, he x s hs, sargs_ok he hr⟩
    · cases h

def seff (P : Program) (R : FuncId → Option Rule) (ms : Ms) (ev : Operand → Option SV) : Op → Option (SV × Ms)
  | .alloc t => match zeroOf P t with
    | some z => some (.ptr ms.mem.length 0, { ms with mem := ms.mem ++ [⟨z.map ofCell, true⟩] })
    | none => none
  | .box t x => match ev x with
    | some s => if s.flat then some (.ptr ms.mem.length 0, { ms with mem := ms.mem ++ [⟨s.cells, true⟩] }) else none
    | none => none
  | .store t p x => match ev p, ev x with
    | some (.ptr c o), some s => match ms.mem[c]?, tySize P t with
      | some ch, some n => if ch.wr = true ∧ s.flat = true ∧ s.cells.length = n ∧ o + s.cells.length ≤ ch.cells.length then
          some (.undef, { ms with mem := ms.mem.set c { ch with cells := setL ch.cells o s.cells } }) else none
      | _, _ => none
    | _, _ => none
  | .buildSlice t len parts => match P.underlying t with
    | some (.slice e) => match tySize P e, zeroOf P e, sparts ev parts.toList with
      | some 1, some [z], some ps => if 0 < len ∧ len ≤ 16777216 then (match sfill (fun i => some (i * 1, 1)) (List.replicate len (ofCell z)) ps with
        | some vs => some (.slice ms.mem.length 0 len len, { ms with mem := ms.mem ++ [⟨vs, true⟩] })
        | none => none) else none
      | _, _, _ => none
    | _ => none
  | .call c => match c.callee with
    | .value (.func f) => match sargs ev c.args.toList, R f with
      | some args, some r => r ms args
      | _, _ => none
    | .builtin .copy => match sargs ev c.args.toList, c.argTypes[0]? with
      | some [.slice c1 o1 n1 _, .slice c2 o2 n2 _], some t => match P.underlying t with
        | some (.slice e) => match tySize P e, ms.mem[c1]?, ms.mem[c2]? with
          | some 1, some h1, some h2 => if h1.wr = true ∧ o1 + Nat.min n2 n1 ≤ h1.cells.length ∧ o2 + Nat.min n2 n1 ≤ h2.cells.length ∧ ((h2.cells.drop o2).take (Nat.min n2 n1)).all SV.one = true ∧ inR .i64 (Nat.min n2 n1 : Nat) then
              some (.int .i64 (.c (Nat.min n2 n1)), { ms with mem := ms.mem.set c1 { h1 with cells := setL h1.cells o1 ((h2.cells.drop o2).take (Nat.min n2 n1)) } }) else none
          | _, _, _ => none
        | _ => none
      | _, _ => none
    | _ => none
  | _ => none

theorem replicate_rel {ρ : Env} {α : Adr} (z : Value) : ∀ n, VRels ρ α (List.replicate n (ofCell z)) (List.replicate n z)
  | 0 => by simp [VRels]
  | n + 1 => by
    simp only [List.replicate_succ, VRels]
    exact ⟨_, _, rfl, ofCell_ok z, replicate_rel z n⟩
theorem range_zero (zv : Value) (z : Value) (h : zv.cells = #[z]) (len : Nat) : ((Array.range (len * 1)).map fun i => zv.cells[i % zv.cells.size]!) = (List.replicate len z).toArray := by
  rw [h]
  apply Array.ext
  · simp
  · intro i h1 h2
    simp [Nat.mod_one]
theorem seff_ok {R : FuncId → Option Rule} (hR : ∀ f r, R f = some r → RuleOk P f r) {ms ms' : Ms} {o : Oper} {r : SV} (h : seff P R ms ev o.op = some (r, ms')) (hs : Sat ρ ms'.tr) :
    Grows ρ ms ms' ∧ ∀ (S : Nat → Nat → Prop) (w0 : World) (α : Adr) (a : Act) (w : World), MRep ρ S w0 α ms.mem w → GRep ms.gl α → (∀ x s, ev x = some s → VRel ρ α s (a.eval x)) →
      ∀ (K : Act → World → Prop) (Q : Exit → Act → World → Prop), (∀ α' v w', Ext ms.mem.length α α' → VRel ρ α' r v → MRep ρ S w0 α' ms'.mem w' → K (a.put o.dst v) w') → o.wp P a w K Q := by
  obtain ⟨dst, op, ty, pos, after, guard⟩ := o
  simp only at h
  cases op <;> simp only [seff, reduceCtorEq] at h
  case alloc t =>
    split at h
    · rename_i z hz
      simp only [Option.some.injEq, Prod.mk.injEq] at h
      obtain ⟨rfl, rfl⟩ := h
      refine ⟨⟨hs, rfl, by simp⟩, fun S w0 α a w hm hg he K Q hK => ?_⟩
      obtain ⟨zv, hrz, hzc⟩ := run_zero (P := P) (w := w) hz
      obtain ⟨hm', hext⟩ := hm.make (T := t) (ofCells_ok (ρ := ρ) (α := α) z)
      have hrun : (execOp a.eval ⟨dst, .alloc t, ty, pos, after, guard⟩).run P w = .ok (.value (.pointer (some ⟨w.heap.size, 0, none⟩))) (w.alloc (.cells z.toArray t)) := by
        simp only [execOp, Instr.alloc, Sem.run_bind, hrz, Result.andThen_ok, newVar, newRow, hzc, run_newObj, Sem.run_pure, World.alloc_eq]
      simp only [Oper.wp, hrun, Oper.upon]
      refine hK _ _ _ hext ?_ hm'
      simp only [VRel]
      exact ⟨w.heap.size, 0, by unfold Adr.put; simp, by simp⟩
    · cases h
  case box t x =>
    split at h
    · rename_i s hx
      split at h
      · rename_i hf
        simp only [Option.some.injEq, Prod.mk.injEq] at h
        obtain ⟨rfl, rfl⟩ := h
        refine ⟨⟨hs, rfl, by simp⟩, fun S w0 α a w hm hg he K Q hK => ?_⟩
        have hfc := (SV.flat_cells (he _ _ hx) hf).1
        obtain ⟨hm', hext⟩ := hm.make (T := t) hfc
        have hrun : (execOp a.eval ⟨dst, .box t x, ty, pos, after, guard⟩).run P w = .ok (.value (.pointer (some ⟨w.heap.size, 0, none⟩))) (w.alloc (.cells (a.eval x).cells.toList.toArray t)) := by
          simp only [execOp, Instr.box, Sem.run_bind, newVar, newRow, run_newObj, Result.andThen_ok, Sem.run_pure, World.alloc_eq, Array.toArray_toList]
        simp only [Oper.wp, hrun, Oper.upon]
        refine hK _ _ _ hext ?_ hm'
        simp only [VRel]
        exact ⟨w.heap.size, 0, by unfold Adr.put; simp, by simp⟩
      · cases h
    · cases h
  case buildSlice t len parts =>
    split at h
    · rename_i e ht
      split at h
      · rename_i z ps hsz hz hps
        split at h
        · rename_i hc
          split at h
          · rename_i vs hf
            simp only [Option.some.injEq, Prod.mk.injEq] at h
            obtain ⟨rfl, rfl⟩ := h
            refine ⟨⟨hs, rfl, by simp⟩, fun S w0 α a w hm hg he K Q hK => ?_⟩
            obtain ⟨zv, hrz, hzc⟩ := run_zero (P := P) (w := w) hz
            obtain ⟨us, hu, hr⟩ := sfill_ok (sparts_ok he hps) (replicate_rel z len) hf
            obtain ⟨hm', hext⟩ := hm.make (T := e) hr
            have e1 : (parts.map fun (i, x) => (i, a.eval x)) = (parts.toList.map fun (i, x) => (i, a.eval x)).toArray := by
              rw [← Array.toList_map]
            have hl1 : ¬ (len * 1 > 2 ^ 24) := by simp only [Nat.mul_one, Nat.reducePow]; omega
            have hl0 : ¬ (len * 1 = 0) := by omega
            have hrun : (execOp a.eval ⟨dst, .buildSlice t len parts, ty, pos, after, guard⟩).run P w = .ok (.value (.slice (some ⟨w.heap.size, 0, none⟩) len len)) (w.alloc (.cells us.toArray e)) := by
              simp only [execOp, Sem.run_bind]
              rw [e1]
              simp only [Instr.buildSlice, Sem.run_bind, run_und ht, run_size hsz, Result.andThen_ok, hl1, hl0, if_false, hrz, Sem.run_pure, range_zero zv z hzc, hu, newRow, run_newObj, World.alloc_eq]
            simp only [Oper.wp, hrun, Oper.upon]
            refine hK _ _ _ hext ?_ hm'
            simp only [VRel]
            exact ⟨w.heap.size, 0, len, by unfold Adr.put; simp, Nat.le_refl _, by simp⟩
          · cases h
        · cases h
      · cases h
    · cases h
  case store t p x =>
    split at h
    · rename_i c o s hp hx
      split at h
      · rename_i ch n hc hn
        split at h
        · rename_i hcond
          obtain ⟨hw, hf, hl, ho⟩ := hcond
          simp only [Option.some.injEq, Prod.mk.injEq] at h
          obtain ⟨rfl, rfl⟩ := h
          refine ⟨⟨hs, rfl, by simp⟩, fun S w0 α a w hm hg he K Q hK => ?_⟩
          have h1 := he _ _ hp
          simp only [VRel] at h1
          obtain ⟨b, s', hα, h3⟩ := h1
          obtain ⟨hfc, hone⟩ := SV.flat_cells (he _ _ hx) hf
          obtain ⟨w', hrun, hrep⟩ := MRep.store (P := P) (o := o) hα (i := 0) hm hc hw (by omega) hone hfc
          have hsz : (a.eval x).cells.size = n := by rw [← hl, ← hfc.length]; simp
          have hex : (execOp a.eval ⟨dst, .store t p x, ty, pos, after, guard⟩).run P w = .ok .skip w' := by
            simp only [execOp, Instr.storeAt, h3, Instr.sureAddr, Sem.run_bind, Sem.run_pure, Result.andThen_ok, storeVar, run_size hn, hsz, ne_eq, not_true_eq_false, if_false, hrun]
          simp only [Oper.wp, hex, Oper.upon]
          exact hK α undef w' (Ext.refl _ _) (by simp only [VRel]) hrep
        · cases h
      · cases h
    · cases h
  case call c =>
    obtain ⟨callee, args, argTypes⟩ := c
    simp only at h
    split at h
    · rename_i f
      split at h
      · rename_i as r' has hr
        obtain ⟨hg, hrule⟩ := hR f r' hr ρ ms ms' as r h hs
        refine ⟨hg, fun S w0 α a w hm hgl he K Q hK => ?_⟩
        have hargs := sargs_ok he has
        have hinv := hrule S w0 α w _ hm hgl hargs
        have hmap : (args.toList.map a.eval).toArray = args.map a.eval := by rw [← Array.toList_map]
        rw [hmap] at hinv
        have hex : (execOp a.eval ⟨dst, .call ⟨.value (.func f), args, argTypes⟩, ty, pos, after, guard⟩).run P w = (callFunc f (args.map a.eval)).run P w := by
          simp only [execOp, resolve, Act.eval, Deferred.ofValue, Sem.run_bind, Sem.run_pure, Result.andThen_ok, invoke, Array.empty_append, Array.append_empty]
        rcases hinv with ⟨v, w', h1, α', h2, h3, h4⟩ | ⟨h1, h2⟩
        · simp only [Oper.wp, hex, h1, Oper.upon]
          exact hK α' v w' h2 h3 h4
        · simp only [Oper.wp, hex, h1, Oper.upon]
          refine h2.mono ?_
          rintro e w' ⟨v, rfl, α', h5, h6, h7⟩
          exact hK α' v w' h5 h6 h7
      · cases h
    · split at h
      · rename_i c1 o1 n1 _ c2 o2 n2 _ t has hty
        split at h
        · rename_i e ht
          split at h
          · rename_i h1 h2 hz hc1 hc2
            split at h
            · rename_i hcond
              obtain ⟨hw, hl1, hl2, hone, hin⟩ := hcond
              simp only [Option.some.injEq, Prod.mk.injEq] at h
              obtain ⟨rfl, rfl⟩ := h
              refine ⟨⟨hs, rfl, by simp⟩, fun S w0 α a w hm hg he K Q hK => ?_⟩
              have hargs := sargs_ok he has
              simp only [VRels, VRel] at hargs
              obtain ⟨u1, us1, e1, ⟨b1, s1, cap1, ha1, _, hu1⟩, u2, us2, e2, ⟨b2, s2, cap2, ha2, _, hu2⟩, e3⟩ := hargs
              subst e2 e3 hu1 hu2
              have hmap : args.map a.eval = #[.slice (some ⟨b1, s1 + o1, none⟩) n1 cap1, .slice (some ⟨b2, s2 + o2, none⟩) n2 cap2] := by
                rw [← Array.toList_inj, Array.toList_map]; exact e1
              obtain ⟨us, hus, hlen, hload⟩ := hm.read (P := P) hc2 hl2 ha2
              have hlen' : ((h2.cells.drop o2).take (Nat.min n2 n1)).length = Nat.min n2 n1 := by rw [← hus.length]; exact hlen
              obtain ⟨w', hrun, hrep⟩ := MRep.store (P := P) (o := o1) ha1 (i := 0) hm hc1 hw (by rw [hlen']; omega) hone hus
              have hex : (execOp a.eval ⟨dst, .call ⟨.builtin .copy, args, argTypes⟩, ty, pos, after, guard⟩).run P w = .ok (.value (.int .i64 (Nat.min n2 n1 : Nat))) w' := by
                simp only [execOp, resolve, Sem.run_bind, Sem.run_pure, Result.andThen_ok, invoke, builtin, hmap, Builtin.copy_, hty, List.getElem?_toArray, List.getElem?_cons_zero, List.getElem?_cons_succ, run_und ht, Builtin.lenOf, run_size hz, Builtin.firstCells, Nat.mul_one, hload, hrun, goInt]
              simp only [Oper.wp, hex, Oper.upon]
              exact hK α _ w' (Ext.refl _ _) (by simp only [VRel, Sx.val, true_and]; exact hin) hrep
            · cases h
          · cases h
        · cases h
      · cases h
    · cases h
end
end Go.Proofs.YtpaidbefbkokfaaDoor
