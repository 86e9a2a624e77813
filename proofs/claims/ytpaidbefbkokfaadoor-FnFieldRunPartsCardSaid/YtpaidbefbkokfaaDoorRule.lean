/- A function's own body as its rule. No condition. -/
import Derived.Test.YtpaidbefbkokfaaDoorExec
namespace Go.Proofs.YtpaidbefbkokfaaDoor
open Go Go.RowKit
set_option linter.unusedVariables false
set_option linter.unusedSimpArgs false

def argsTm : Tm → Nat → List SV → Tm
  | tm, _, [] => tm
  | tm, i, s :: l => argsTm (tm.set i s) (i + 1) l
def sloadAt (P : Program) (M : List Chunk) (t : TypeId) (c o : Nat) : Option SV :=
  match M[c]? with
  | some ch => match tyAgg P t with
    | some true => match tySize P t with
      | some n => if o + n ≤ ch.cells.length then some (.agg ((ch.cells.drop o).take n)) else none
      | none => none
    | some false => ch.cells[o]?
    | none => none
  | none => none
def sres1 (P : Program) (tm : Tm) (M : List Chunk) : ResultVar → Option SV
  | .tmp t => tm.get t
  | .cell a t => match tm.get a with
    | some (.ptr c o) => sloadAt P M t c o
    | _ => none
def resFn (a : Act) : ResultVar → Sem Value
  | .tmp t => pure (a.tmps.getD t undef)
  | .cell x t => do loadVar t (← asAddr (a.tmps.getD x undef))
def sresL (P : Program) (tm : Tm) (M : List Chunk) : List ResultVar → Option (List SV)
  | [] => some []
  | r :: l => match sres1 P tm M r, sresL P tm M l with
    | some s, some rs => some (s :: rs)
    | _, _ => none
def retOf : List SV → SV
  | [s] => s
  | l => .tuple l
def inl (P : Program) (G : FuncId → Bool) (R : FuncId → Option Rule) (fuel : Nat) (f : FuncId) : Rule := fun ms args =>
  bif G f then match P.funcs[f]? with
    | some fn => match fn.body with
      | some c => bif Nat.ble args.length fn.ntmps then
          match sexec P R fn.ntmps fuel false c (argsTm (Tm.full 12) 0 args) ms with
          | some (.exit _, _, _) => none
          | some (_, tm', ms') => match sresL P tm' ms'.mem fn.results.toList with
            | some rs => some (retOf rs, ms')
            | none => none
          | none => none
        else none
      | none => none
    | none => none
  else none

section
variable {ρ : Env} {P : Program} {α : Adr}
theorem argsTm_get : ∀ (l : List SV) (tm : Tm) (i t : Nat) (s : SV), (argsTm tm i l).get t = some s → (i ≤ t ∧ l[t - i]? = some s) ∨ (tm.get t = some s ∧ (t < i ∨ i + l.length ≤ t))
  | [], tm, i, t, s, h => .inr ⟨h, by simp; omega⟩
  | x :: l, tm, i, t, s, h => by
    rcases argsTm_get l (tm.set i x) (i + 1) t s h with ⟨h1, h2⟩ | ⟨h1, h2⟩
    · left
      refine ⟨by omega, ?_⟩
      rw [show t - i = (t - (i + 1)) + 1 by omega, List.getElem?_cons_succ]
      exact h2
    · rcases Tm.get_set tm i t x s h1 with ⟨rfl, rfl⟩ | ⟨hne, hx⟩
      · left; exact ⟨Nat.le_refl _, by simp⟩
      · right
        refine ⟨hx, ?_⟩
        simp only [List.length_cons]
        omega
theorem sloadAt_ok {S : Nat → Nat → Prop} {w0 : World} {M : List Chunk} {w : World} (h : MRep ρ S w0 α M w) {t : TypeId} {c o b s : Nat} (hα : α c = some (b, s)) {r : SV} (hl : sloadAt P M t c o = some r) :
    ∃ v, (loadVar t ⟨b, s + o, none⟩).run P w = .ok v w ∧ VRel ρ α r v := by
  unfold sloadAt at hl
  split at hl
  · rename_i ch hc
    split at hl
    · rename_i hg
      split at hl
      · rename_i n hn
        split at hl
        · rename_i hle
          simp only [Option.some.injEq] at hl
          subst hl
          obtain ⟨us, h4, h5, h6⟩ := h.read (P := P) hc hle hα
          refine ⟨.agg us.toArray, ?_, by simp only [VRel]; exact ⟨us, rfl, h4⟩⟩
          simp only [loadVar, Sem.run_bind, run_agg hg, Result.andThen_ok, if_true, run_size hn, h6, Sem.run_pure]
        · cases hl
      · cases hl
    · rename_i hg
      obtain ⟨v, hv, hr⟩ := h.cell c ch b s hc hα o r hl
      refine ⟨v, ?_, hr⟩
      simp only [loadVar, Sem.run_bind, run_agg hg, Result.andThen_ok, if_false, Bool.false_eq_true, run_load, hv]
    · cases hl
  · cases hl
theorem sresL_ok {S : Nat → Nat → Prop} {w0 : World} {nt : Nat} {tm : Tm} {M : List Chunk} {a : Act} {w : World} (hm : MRep ρ S w0 α M w) (ht : TRep ρ α nt tm a) : ∀ {l : List ResultVar} {rs : List SV}, sresL P tm M l = some rs →
    ∃ vs : List Value, (List.mapM (resFn a) l).run P w = .ok vs w ∧ VRels ρ α rs vs
  | [], rs, h => by
    simp only [sresL, Option.some.injEq] at h
    subst h
    exact ⟨[], by simp, by simp [VRels]⟩
  | r :: l, rs, h => by
    simp only [sresL] at h
    split at h
    · rename_i s rs' hs hrs
      simp only [Option.some.injEq] at h
      subst h
      obtain ⟨vs, hv, hr⟩ := sresL_ok hm ht hrs
      have one : ∃ v, (resFn a r).run P w = .ok v w ∧ VRel ρ α s v := by
        cases r with
        | tmp t => exact ⟨_, by simp only [resFn, Sem.run_pure], ht.get t s hs⟩
        | cell x t =>
          simp only [sres1] at hs
          split at hs
          · rename_i c o hx
            have h1 := ht.get x _ hx
            simp only [VRel] at h1
            obtain ⟨b, s', hα, h3⟩ := h1
            obtain ⟨v, hv', hr'⟩ := sloadAt_ok hm hα hs
            exact ⟨v, by simp only [resFn, h3, asAddr, Sem.run_bind, Sem.run_pure, Result.andThen_ok, hv'], hr'⟩
          · cases hs
      obtain ⟨v, hv1, hv2⟩ := one
      refine ⟨v :: vs, ?_, by simp only [VRels]; exact ⟨v, vs, rfl, hv2, hr⟩⟩
      simp only [List.mapM_cons, Sem.run_bind, hv1, Result.andThen_ok, hv, Sem.run_pure]
    · cases h
theorem results_fn (fn : Func) (a : Act) : results fn a.tmps = (do
    let vs ← fn.results.mapM (resFn a)
    pure (if h : vs.size = 1 then vs[0] else .tuple vs)) := by
  unfold results
  congr 2
theorem results_ok {S : Nat → Nat → Prop} {w0 : World} {nt : Nat} {tm : Tm} {M : List Chunk} {a : Act} {w : World} {fn : Func} (hm : MRep ρ S w0 α M w) (ht : TRep ρ α nt tm a) {rs : List SV} (h : sresL P tm M fn.results.toList = some rs) :
    ∃ v, (results fn a.tmps).run P w = .ok v w ∧ VRel ρ α (retOf rs) v := by
  obtain ⟨vs, hv, hr⟩ := sresL_ok (P := P) hm ht h
  have hl := hr.length
  have hrun : (results fn a.tmps).run P w = .ok (if h : vs.toArray.size = 1 then vs.toArray[0] else .tuple vs.toArray) w := by
    rw [results_fn, Array.mapM_eq_mapM_toList]
    simp only [Sem.run_bind, Sem.run_map, hv, Result.andThen_ok, Sem.run_pure]
  refine ⟨_, hrun, ?_⟩
  match rs, vs, hr, hl with
  | [], [], hr, _ => simp only [retOf, VRel]; exact ⟨[], by simp, by simp [VRels]⟩
  | [s], [v], hr, _ =>
    simp only [VRels] at hr
    obtain ⟨u, us', he, h1, h2⟩ := hr
    cases he
    simpa [retOf] using h1
  | s :: s' :: rs, v :: v' :: vs, hr, _ =>
    simp only [retOf, VRel]
    exact ⟨v :: v' :: vs, by simp, hr⟩

theorem inl_ok (hmix : P.follows .mixedOrders = true) {G : FuncId → Bool} (hG : ∀ f, G f = true → ∀ args w, (callFunc f args).run P w = .ok (.enter f args) w) {R : FuncId → Option Rule} (hR : ∀ f r, R f = some r → RuleOk P f r) (fuel : Nat) (f : FuncId) : RuleOk P f (inl P G R fuel f) := by
  intro ρ ms ms' args ret h hs
  unfold inl at h
  cases hgf : G f with
  | false => simp [hgf] at h
  | true =>
    simp only [hgf, cond_true] at h
    split at h
    · rename_i fn hfn
      split at h
      · rename_i c hc
        cases hble : Nat.ble args.length fn.ntmps with
        | false => simp [hble] at h
        | true =>
          have hle : args.length ≤ fn.ntmps := by simpa using hble
          simp only [hble, cond_true] at h
          split at h
          · cases h
          · rename_i e tm' ms2 hne hex
            split at h
            · rename_i rs hrs
              simp only [Option.some.injEq, Prod.mk.injEq] at h
              obtain ⟨rfl, rfl⟩ := h
              obtain ⟨g, hdo⟩ := sexec_ok hmix hR hex hs
              refine ⟨g, fun S w0 α w vs hm hgl hv => .inr ⟨hG f hgf _ _, ?_⟩⟩
              have hlen := hv.length
              refine calls_of_wp hfn hc ?_
              have hsr : SRep ρ S w0 α fn.ntmps (argsTm (Tm.full 12) 0 args) ms { tmps := vs.toArray ++ Array.replicate (fn.ntmps - vs.toArray.size) undef, defers := [] } w := by
                refine ⟨hm, hgl, by simp; omega, rfl, fun t s ht => ?_⟩
                rcases argsTm_get args _ 0 t s ht with ⟨h1, h2⟩ | ⟨h1, h2⟩
                · rw [Nat.sub_zero] at h2
                  obtain ⟨u, hu, hr⟩ := hv.get h2
                  have htl : t < vs.length := (List.getElem?_eq_some_iff.1 hu).1
                  simp only [Array.getD_eq_getD_getElem?]
                  rw [Array.getElem?_append_left (by simpa using htl)]
                  simp only [List.getElem?_toArray, hu, Option.getD_some]
                  exact hr
                · rw [Tm.get_full] at h1; cases h1
              have := hdo S w0 α _ w (bodyPost P fn fun e w' => ∃ v, e = .returned v ∧ ∃ α', Ext ms.mem.length α α' ∧ VRel ρ α' (retOf rs) v ∧ MRep ρ S w0 α' ms2.mem w') hsr fun α' a' w' hext hr' => by
                obtain ⟨v, hv', hrv⟩ := results_ok (P := P) (fn := fn) hr'.mem hr'.tm hrs
                cases e with
                | exit i => exact absurd rfl (hne i)
                | normal => exact ⟨hr'.tm.defers, v, hv', v, rfl, α', hext, hrv, hr'.mem⟩
                | ret => exact ⟨hr'.tm.defers, v, hv', v, rfl, α', hext, hrv, hr'.mem⟩
              simpa using this
            · cases h
          · cases h
      · cases h
    · cases h

/-- A function that is entered. -/
def goB (P : Program) (f : FuncId) : Bool :=
  match P.funcs[f]? with
  | some fn => fn.body.isSome && !(fn.name == "runtime.NumGoroutine")
  | none => false
theorem goB_ok {f : FuncId} (h : goB P f = true) (args : Array Value) (w : World) : (callFunc f args).run P w = .ok (.enter f args) w := by
  unfold goB at h
  split at h
  · rename_i fn hfn
    simp only [Bool.and_eq_true, Bool.not_eq_true'] at h
    have hb : fn.body.isNone = false := by cases hb : fn.body <;> simp [hb] at h ⊢
    simp only [callFunc, Sem.run_bind, run_program, Result.andThen_ok, hfn, h.2, hb, Bool.false_eq_true, if_false, Sem.run_pure]
  · cases h
/-- Rules, first by the given ones, then by the bodies, d deep. -/
def rulesN (P : Program) (G : FuncId → Bool) (B : FuncId → Option Rule) (fuel : Nat) : Nat → FuncId → Option Rule
  | 0, f => B f
  | d + 1, f => match B f with
    | some r => some r
    | none => some (inl P G (rulesN P G B fuel d) fuel f)
theorem rulesN_ok (hmix : P.follows .mixedOrders = true) {G : FuncId → Bool} (hG : ∀ f, G f = true → ∀ args w, (callFunc f args).run P w = .ok (.enter f args) w) {B : FuncId → Option Rule} (hB : ∀ f r, B f = some r → RuleOk P f r) (fuel : Nat) :
    ∀ d f r, rulesN P G B fuel d f = some r → RuleOk P f r
  | 0, f, r, h => hB f r h
  | d + 1, f, r, h => by
    simp only [rulesN] at h
    split at h
    · rename_i r' hr'
      simp only [Option.some.injEq] at h
      subst h
      exact hB f r' hr'
    · simp only [Option.some.injEq] at h
      subst h
      exact inl_ok hmix hG (rulesN_ok hmix hG hB fuel d) fuel f
end
end Go.Proofs.YtpaidbefbkokfaaDoor
