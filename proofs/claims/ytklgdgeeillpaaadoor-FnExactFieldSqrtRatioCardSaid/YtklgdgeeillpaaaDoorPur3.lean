/- One function for all operations that touch no memory. No condition. -/
import Derived.Test.YtklgdgeeillpaaaDoorPur2
namespace Go.Proofs.YtklgdgeeillpaaaDoor
open Go Go.RowKit
set_option linter.unusedVariables false
set_option linter.unusedSimpArgs false

def sidx (n : Int) (len : Nat) : Option Nat := if 0 ≤ n ∧ n < len then some n.toNat else none
theorem sidx_ok {n : Int} {len i : Nat} (h : sidx n len = some i) : 0 ≤ n ∧ n < len ∧ n.toNat = i := by
  unfold sidx at h
  split at h
  · rename_i hc
    simp only [Option.some.injEq] at h
    exact ⟨hc.1, hc.2, h⟩
  · cases h
def sbound (ev : Operand → Option SV) (x : Option Operand) (y dflt : Nat) : Option Nat :=
  match x with
  | none => some dflt
  | some o => match ev o with
    | some (.int _ (.c n)) => if 0 ≤ n ∧ n ≤ y then some n.toNat else none
    | _ => none
def sparts (ev : Operand → Option SV) : List (Nat × Operand) → Option (List (Nat × SV))
  | [] => some []
  | (i, x) :: l => match ev x, sparts ev l with
    | some s, some r => some ((i, s) :: r)
    | _, _ => none
def splaces (P : Program) : List Field → Option (List (Nat × Nat))
  | [] => some []
  | f :: l => match tySize P f.type, splaces P l with
    | some s, some r => some ((f.offset, s) :: r)
    | _, _ => none
def sbuild (P : Program) (t : TypeId) (ps : List (Nat × SV)) : Option (List SV) :=
  match zeroOf P t with
  | none => none
  | some z => match P.underlying t with
    | some (.struct fs) => match splaces P fs.toList with
      | some pl => sfill (pl[·]?) (z.map ofCell) ps
      | none => none
    | some (.array _ e) => match tySize P e with
      | some s => sfill (fun i => some (i * s, s)) (z.map ofCell) ps
      | none => none
    | _ => none

/-- An index that lies within bounds: what is to be shown. -/
def inB (nb m len : Nat) : List Ent := [.asm (.x (nb + 1)) true, .db (nb + 1) .lss [.x m, .c len] [] [], .asm (.x nb) true, .db nb .leq [.c 0, .x m] [] []]
def spure (P : Program) (kn : Nat → Option Bool) (ni nb : Nat) (ev : Operand → Option SV) : Op → Option PR
  | .move x => keep ni nb (ev x)
  | .assign x => keep ni nb (ev x)
  | .pick c a b => match ev c with
    | some (.bool s) => match s.known kn with
      | some true => keep ni nb (ev a)
      | some false => keep ni nb (ev b)
      | none => none
    | _ => none
  | .nilCheck x => match ev x with
    | some (.ptr c o) => some (.ptr c o, [], ni, nb)
    | _ => none
  | .binOp op t x y _ => match ev x, ev y with
    | some (.int k a), some (.int k' b) => sbinI ni nb op k k' a b
    | some sx, some sy => match op with
      | .eql => seqv P kn ni nb false t (isConstO x || isConstO y) sx sy
      | .neq => seqv P kn ni nb true t (isConstO x || isConstO y) sx sy
      | _ => none
    | _, _ => none
  | .unOp op _ x => match op, ev x with
    | .neg, some (.int k a) => some (fi ni nb k (.neg k) [a])
    | .xor, some (.int k a) => some (fi ni nb k (.not k) [a])
    | .not, some (.bool s) => match s.known kn with
      | some b => some (.bool (.c !b), [], ni, nb)
      | none => some (.bool (.x nb), [.db nb .not [] [] [s]], ni, nb + 1)
    | _, _ => none
  | .convert src dst x => match P.underlying src, P.underlying dst, ev x with
    | some _, some (.int k), some (.int _ a) => some (fi ni nb k (.conv k) [a])
    | _, _, _ => none
  | .makeInterface t x => match P.underlying t, ev x with
    | some (.interface _), _ => none
    | some _, some s => some (.iface t s, [], ni, nb)
    | _, _ => none
  | .fieldAddr t x f => match P.underlying t, ev x with
    | some (.struct fs), some (.ptr c o) => match fs[f]? with
      | some fd => match tySize P fd.type with
        | some 0 => none
        | some _ => some (.ptr c (o + fd.offset), [], ni, nb)
        | none => none
      | none => none
    | _, _ => none
  | .field t x f => match P.underlying t, ev x with
    | some (.struct fs), some (.agg vs) => match fs[f]? with
      | some fd => keep ni nb (spart P fd.type vs fd.offset)
      | none => none
    | _, _ => none
  | .indexAddr t x i => match ev i with
    | some (.int _ (.c n)) => match P.underlying t, ev x with
      | some (.array len e), some (.ptr c o) => match sidx n len, tySize P e with
        | some j, some s => some (.ptr c (o + j * s), [], ni, nb)
        | _, _ => none
      | some (.slice e), some (.slice c o len _) => match sidx n len, tySize P e with
        | some j, some s => some (.ptr c (o + j * s), [], ni, nb)
        | _, _ => none
      | _, _ => none
    | some (.int _ (.x m)) => match P.underlying t, ev x with
      | some (.array len e), some (.ptr c o) => match tySize P e with
        | some 1 => some (.ptrI c o m len, inB nb m len, ni, nb + 2)
        | _ => none
      | some (.slice e), some (.slice c o len _) => match tySize P e with
        | some 1 => some (.ptrI c o m len, inB nb m len, ni, nb + 2)
        | _ => none
      | _, _ => none
    | _ => none
  | .index t x i => match ev i with
    | some (.int _ (.c n)) => match P.underlying t, ev x with
      | some (.array len e), some (.agg vs) => match sidx n len, tySize P e with
        | some j, some s => keep ni nb (spart P e vs (j * s))
        | _, _ => none
      | _, _ => none
    | _ => none
  | .extract x i => match ev x with
    | some (.tuple vs) => keep ni nb vs[i]?
    | _ => none
  | .slice t x lo hi none => match P.underlying t, ev x with
    | some (.array n e), some (.ptr c o) => match sbound ev hi n n, tySize P e with
      | some h, some s => match sbound ev lo h 0 with
        | some l => some (.slice c (if n = l then o else o + l * s) (h - l) (n - l), [], ni, nb)
        | none => none
      | _, _ => none
    | some (.slice e), some (.slice c o len cap) => match sbound ev hi cap len, tySize P e with
      | some h, some s => match sbound ev lo h 0 with
        | some l => if l < cap then some (.slice c (o + l * s) (h - l) (cap - l), [], ni, nb) else none
        | none => none
      | _, _ => none
    | _, _ => none
  | .build t parts => match sparts ev parts.toList with
    | some ps => match sbuild P t ps with
      | some vs => some (.agg vs, [], ni, nb)
      | none => none
    | none => none
  | .call c => match c.callee with
    | .builtin .len => match c.args.toList, c.argTypes[0]? with
      | [x], some t => match P.underlying t, ev x with
        | some (.slice _), some (.slice _ _ n _) => if inR .i64 (n : Int) then some (.int .i64 (.c n), [], ni, nb) else none
        | some (.slice _), some (.sl i) => some (.int .i64 (.x i), [], ni, nb)
        | _, _ => none
      | _, _ => none
    | _ => none
  | _ => none

section
variable {ρ : Env} {α : Adr} {P : Program} {w : World} {ev : Operand → Option SV} {a : Act}
theorem add_none (b s n : Nat) : (⟨b, s, none⟩ : Addr).add n = ⟨b, s + n, none⟩ := by
  unfold Addr.add
  split
  · rename_i h; subst h; rfl
  · rfl
theorem sbound_ok (he : ∀ x s, ev x = some s → VRel ρ α s (a.eval x)) {x : Option Operand} {y d n : Nat} (h : sbound ev x y d = some n) :
    (x = none ∧ n = d) ∨ ∃ o k i, x = some o ∧ a.eval o = .int k i ∧ 0 ≤ i ∧ i ≤ y ∧ n = i.toNat := by
  unfold sbound at h
  cases x with
  | none => simp only [Option.some.injEq] at h; exact .inl ⟨rfl, h.symm⟩
  | some o =>
    right
    simp only at h
    split at h
    · rename_i k i hi
      split at h
      · rename_i hc
        simp only [Option.some.injEq] at h
        have := he o _ hi
        simp only [VRel, Sx.val] at this
        exact ⟨o, k, i, rfl, this.1, hc.1, hc.2, h.symm⟩
      · cases h
    · cases h
theorem sparts_ok (he : ∀ x s, ev x = some s → VRel ρ α s (a.eval x)) : ∀ {l : List (Nat × Operand)} {r : List (Nat × SV)}, sparts ev l = some r → PRel ρ α r (l.map fun (i, x) => (i, a.eval x))
  | [], r, h => by simp only [sparts, Option.some.injEq] at h; subst h; exact .nil
  | (i, x) :: l, r, h => by
    simp only [sparts] at h
    split at h
    · rename_i s r' hs hr
      simp only [Option.some.injEq] at h
      subst h
      exact .cons (he x s hs) (sparts_ok he hr)
    · cases h
theorem splaces_ok : ∀ {l : List Field} {r : List (Nat × Nat)}, splaces P l = some r → (List.mapM (m := Sem) (fun f => do pure (f.offset, ← sizeOf f.type)) l).run P w = .ok r w
  | [], r, h => by simp only [splaces, Option.some.injEq] at h; subst h; simp
  | f :: l, r, h => by
    simp only [splaces] at h
    split at h
    · rename_i s r' hs hr
      simp only [Option.some.injEq] at h
      subst h
      simp only [List.mapM_cons, Sem.run_bind, run_size hs, Result.andThen_ok, Sem.run_pure, splaces_ok hr]
    · cases h
theorem sbuild_ok {t : TypeId} {ps : List (Nat × SV)} {qs : List (Nat × Value)} {vs : List SV} (h : sbuild P t ps = some vs) (hp : PRel ρ α ps qs) :
    ∃ v, (Instr.build t qs.toArray).run P w = .ok v w ∧ VRel ρ α (.agg vs) v := by
  unfold sbuild at h
  cases hz : zeroOf P t with
  | none => simp [hz] at h
  | some z =>
    obtain ⟨zv, hrz, hzc⟩ := run_zero (w := w) hz
    simp only [hz] at h
    cases ht : P.underlying t with
    | none => simp [ht] at h
    | some d =>
      cases d <;> simp only [ht, reduceCtorEq] at h
      case struct fs =>
        cases hpl : splaces P fs.toList with
        | none => simp [hpl] at h
        | some pl =>
          simp only [hpl] at h
          obtain ⟨us, hu, hr⟩ := sfill_ok hp (ofCells_ok z) h
          refine ⟨.agg us.toArray, ?_, by simp only [VRel]; exact ⟨us, rfl, hr⟩⟩
          have hm : (Array.mapM (m := Sem) (fun f : Field => do pure (f.offset, ← sizeOf f.type)) fs).run P w = .ok pl.toArray w := by
            rw [Array.mapM_eq_mapM_toList]
            simp only [Sem.run_map, splaces_ok hpl, Result.andThen_ok]
          simp only [Instr.build, Sem.run_bind, hrz, Result.andThen_ok, run_und ht, hm, hzc, List.getElem?_toArray, hu, Sem.run_pure]
      case array n e =>
        cases hs : tySize P e with
        | none => simp [hs] at h
        | some s =>
          simp only [hs] at h
          obtain ⟨us, hu, hr⟩ := sfill_ok hp (ofCells_ok z) h
          refine ⟨.agg us.toArray, ?_, by simp only [VRel]; exact ⟨us, rfl, hr⟩⟩
          simp only [Instr.build, Sem.run_bind, hrz, Result.andThen_ok, run_und ht, run_size hs, hzc, hu, Sem.run_pure]
end
end Go.Proofs.YtklgdgeeillpaaaDoor
