/- The run of a region that draws its order: what its records say. No condition. -/
import Derived.Test.YtklgdgeeillpaaaDoorDraw
namespace Go.Proofs.YtklgdgeeillpaaaDoor
open Go Go.RowKit
set_option linter.unusedVariables false
set_option linter.unusedSimpArgs false

section
variable {ρ : Env} {P : Program} {R : FuncId → Option Rule} {ops : List Oper}
def Wants (ρ : Env) (ops : List Oper) (r : Rec) (b : Bool) : Prop :=
  ∀ (α : Adr) (a : Act), (∀ t s, t ∈ r.o.looksAt ops.toArray → r.tm.get t = some s → VRel ρ α s (a.tmps.getD t undef)) → Region.wanted r.o (yielded ops.toArray a.tmps) = b
def Body (ρ : Env) (P : Program) (R : FuncId → Option Rule) (ops : List Oper) (r : Rec) : Prop :=
  match r.kd with
  | .skip => Wants ρ ops r false ∧ r.s = .undef
  | .pure => Wants ρ ops r true ∧ ∃ es ni nb, spure P (knOf r.ms.tr) r.ms.ni r.ms.nb (evR r.ms.gl r.tm (r.o.looksAt ops.toArray)) r.o.op = some (r.s, es, ni, nb) ∧ Sat ρ es ∧ Sat ρ r.ms.tr
  | .load => Wants ρ ops r true
  | .chain => Wants ρ ops r true ∧ seff P R r.ms (evR r.ms.gl r.tm (r.o.looksAt ops.toArray)) r.o.op = some (r.s, r.ms')
  | .float c => r.o.guard = none ∧ r.s = .ptr c 0
structure RecOk (ρ : Env) (P : Program) (R : FuncId → Option Rule) (ops : List Oper) (gl : List (Nat × Nat)) (r : Rec) : Prop where
  sat : Sat ρ r.ms'.tr
  gl : r.ms.gl = gl
  body : Body ρ P R ops r

theorem floatOf_some {o : Oper} {t : TypeId} (h : floatOf o = some t) : o.guard = none ∧ o.op = .alloc t := by
  unfold floatOf at h
  split at h
  · rename_i hg
    split at h
    · rename_i t' ho
      simp only [Option.some.injEq] at h
      subst h
      exact ⟨hg, ho⟩
    · cases h
  · cases h

theorem dstep_ok (hR : ∀ f r, R f = some r → RuleOk P f r) {o : Oper} {fl k : Nat} {tm : Tm} {ms : Ms} {r : Rec} (h : dstep P R ops o fl k tm ms = some r) (hs : Sat ρ r.ms'.tr) :
    r.o = o ∧ r.tm = tm ∧ r.k = k ∧ Grows ρ ms r.ms' ∧ RecOk ρ P R ops ms.gl r ∧ (r.kd = .chain → r.ms.mem = ms.mem) ∧ (r.kd ≠ .chain → r.ms'.mem = ms.mem) ∧ (∀ c, r.kd = .float c → c = fl) := by
  have wl : ∀ {ms1 : Ms} {b : Bool}, wantS ops tm ms o = some (b, ms1) → ∀ r : Rec, r.o = o → r.tm = tm → Sat ρ ms1.tr → Wants ρ ops r b ∧ Grows ρ ms ms1 ∧ ms1.mem = ms.mem := by
    intro ms1 b hw r ho ht hs1
    obtain ⟨gw, em, kw⟩ := wantS_ok hw hs1
    refine ⟨fun α a hl => ?_, gw, em⟩
    subst ho ht
    exact kw α a fun t s _ hm hg => hl t s hm hg
  unfold dstep at h
  split at h
  · rename_i t hf
    simp only [Option.some.injEq] at h
    subst h
    obtain ⟨hg, ho⟩ := floatOf_some hf
    exact ⟨rfl, rfl, rfl, ⟨hs, rfl, Nat.le_refl _⟩, ⟨hs, rfl, by simp only [Body]; exact ⟨hg, trivial⟩⟩, fun h => by simp at h, fun _ => rfl, fun c hc => by simpa using hc.symm⟩
  · split at h
    · rename_i ms1 hw
      simp only [Option.some.injEq] at h
      subst h
      obtain ⟨w1, g1, e1⟩ := wl hw ⟨o, .skip, .undef, tm, k, ms1, ms1⟩ rfl rfl hs
      exact ⟨rfl, rfl, rfl, g1, ⟨hs, g1.gl, by simp only [Body]; exact ⟨w1, trivial⟩⟩, fun h => by simp at h, fun _ => e1, fun c hc => by simp at hc⟩
    · rename_i ms1 hw
      split at h
      · split at h
        · rename_i s es ni nb hp
          simp only [Option.some.injEq] at h
          subst h
          have hs' := hs
          simp only [sat_app] at hs'
          obtain ⟨w1, g1, e1⟩ := wl hw ⟨o, .pure, s, tm, k, ms1, { ms1 with tr := es ++ ms1.tr, ni := ni, nb := nb }⟩ rfl rfl hs'.2
          refine ⟨rfl, rfl, rfl, ⟨g1.sat, g1.gl, g1.len⟩, ⟨hs, g1.gl, ?_⟩, fun h => by simp at h, fun _ => e1, fun c hc => by simp at hc⟩
          simp only [Body]
          exact ⟨w1, es, ni, nb, hp, hs'.1, hs'.2⟩
        · cases h
      · split at h
        · rename_i s hp
          simp only [Option.some.injEq] at h
          subst h
          obtain ⟨w1, g1, e1⟩ := wl hw ⟨o, .load, s, tm, k, ms1, ms1⟩ rfl rfl hs
          exact ⟨rfl, rfl, rfl, g1, ⟨hs, g1.gl, by simp only [Body]; exact w1⟩, fun h => by simp at h, fun _ => e1, fun c hc => by simp at hc⟩
        · cases h
      · split at h
        · rename_i s ms2 hp
          simp only [Option.some.injEq] at h
          subst h
          have go := (seff_ok hR hp hs).1
          obtain ⟨w1, g1, e1⟩ := wl hw ⟨o, .chain, s, tm, k, ms1, ms2⟩ rfl rfl go.sat
          exact ⟨rfl, rfl, rfl, g1.trans go, ⟨hs, g1.gl, by simp only [Body]; exact ⟨w1, hp⟩⟩, fun _ => e1, fun h => by simp at h, fun c hc => by simp at hc⟩
        · cases h
    · cases h

def TmC (tm0 : Tm) (rs : List Rec) (i : Nat) (tm : Tm) : Prop :=
  ∀ t s, tm.get t = some s → (∃ j r, j < i ∧ rs[j]? = some r ∧ r.o.dst = some t ∧ s = r.s) ∨ (tm0.get t = some s ∧ ∀ j r, j < i → rs[j]? = some r → r.o.dst ≠ some t)
structure DF (ρ : Env) (P : Program) (R : FuncId → Option Rule) (ops : List Oper) (nt : Nat) (l : List Oper) (fl k : Nat) (tm : Tm) (ms : Ms) (rs : List Rec) (cm : List (List Chunk)) (tm' : Tm) (ms' : Ms) : Prop where
  grows : Grows ρ ms ms'
  len : rs.length = l.length
  ops_ : ∀ (i : Nat) r, rs[i]? = some r → l[i]? = some r.o
  rok : ∀ (i : Nat) r, rs[i]? = some r → RecOk ρ P R ops ms.gl r
  chain : ∀ (i : Nat) r, rs[i]? = some r → r.kd = .chain → k ≤ r.k ∧ (ms.mem :: cm)[r.k - k]? = some r.ms.mem ∧ (ms.mem :: cm)[r.k - k + 1]? = some r.ms'.mem
  surj : ∀ q, q < cm.length → ∃ (i : Nat) (r : Rec), rs[i]? = some r ∧ r.kd = .chain ∧ r.k = k + q
  last : (ms.mem :: cm)[cm.length]? = some ms'.mem
  mlen : ∀ M, M ∈ ms.mem :: cm → ms.mem.length ≤ M.length
  flo : ∀ (i : Nat) r c, rs[i]? = some r → r.kd = .float c → fl ≤ c
  tmc : ∀ (i : Nat) r, rs[i]? = some r → TmC tm rs i r.tm
  tmf : TmC tm rs rs.length tm'
  dlt : ∀ (i : Nat) r d, rs[i]? = some r → r.o.dst = some d → d < nt

theorem putS_get {nt : Nat} {tm tm' : Tm} {dst : Option Nat} {s : SV} (h : putS nt tm dst s = some tm') : (∀ d, dst = some d → d < nt) ∧ ∀ t x, tm'.get t = some x → (dst = some t ∧ x = s) ∨ (dst ≠ some t ∧ tm.get t = some x) := by
  cases dst with
  | none => simp only [putS, Option.some.injEq] at h; subst h; exact ⟨by simp, fun t x hx => .inr ⟨by simp, hx⟩⟩
  | some d =>
    simp only [putS] at h
    cases hb : Nat.blt d nt with
    | true =>
      simp only [hb, cond_true, Option.some.injEq] at h
      subst h
      have hd : d + 1 ≤ nt := by simpa [Nat.blt] using hb
      refine ⟨fun d' e => by cases e; exact hd, fun t x hx => ?_⟩
      rcases Tm.get_set tm d t s x hx with ⟨rfl, rfl⟩ | ⟨hne, hx'⟩
      · exact .inl ⟨rfl, rfl⟩
      · exact .inr ⟨fun e => hne (by cases e; rfl), hx'⟩
    | false => simp [hb] at h

theorem drun_ok (hR : ∀ f r, R f = some r → RuleOk P f r) {nt : Nat} : ∀ {l : List Oper} {fl k : Nat} {tm tm' : Tm} {ms ms' : Ms} {rs : List Rec} {cm : List (List Chunk)}, drun P R ops nt l fl k tm ms = some (rs, cm, tm', ms') → Sat ρ ms'.tr → DF ρ P R ops nt l fl k tm ms rs cm tm' ms'
  | [], fl, k, tm, tm', ms, ms', rs, cm, h, hs => by
    simp only [drun, Option.some.injEq, Prod.mk.injEq] at h
    obtain ⟨rfl, rfl, rfl, rfl⟩ := h
    refine ⟨⟨hs, rfl, Nat.le_refl _⟩, rfl, by simp, by simp, by simp, by simp, by simp, by simp, by simp, by simp, ?_, by simp⟩
    intro t s ht
    exact .inr ⟨ht, by simp⟩
  | o :: l, fl, k, tm, tm', ms, ms', rs, cm, h, hs => by
    simp only [drun] at h
    split at h
    · rename_i r hr
      split at h
      · rename_i tm1 hp
        split at h
        · rename_i rs' cm' tm2 ms2 hd
          simp only [Option.some.injEq, Prod.mk.injEq] at h
          obtain ⟨rfl, rfl, rfl, rfl⟩ := h
          have ih := drun_ok hR hd hs
          obtain ⟨ho, htm, hk, hg, hrok, hcm, hncm, hfl⟩ := dstep_ok hR hr ih.grows.sat
          obtain ⟨hdlt, hget⟩ := putS_get hp
          have hgl : r.ms'.gl = ms.gl := hg.gl
          have tmcl : ∀ i tmx, TmC tm1 rs' i tmx → TmC tm (r :: rs') (i + 1) tmx := by
            intro i tmx hc t s ht
            rcases hc t s ht with ⟨j, r', hj, hr', hd', hs'⟩ | ⟨h1, h2⟩
            · exact .inl ⟨j + 1, r', by omega, by simpa using hr', hd', hs'⟩
            · rcases hget t s h1 with ⟨e1, e2⟩ | ⟨e1, e2⟩
              · exact .inl ⟨0, r, by omega, by simp, by rw [ho]; exact e1, e2⟩
              · refine .inr ⟨e2, fun j r' hj hr' => ?_⟩
                cases j with
                | zero => simp only [List.getElem?_cons_zero, Option.some.injEq] at hr'; subst hr'; rw [ho]; exact e1
                | succ j => exact h2 j r' (by omega) (by simpa using hr')
          refine ⟨hg.trans ih.grows, by simp [ih.len], ?_, ?_, ?_, ?_, ?_, ?_, ?_, ?_, ?_, ?_⟩
          · intro i r' hi
            cases i with
            | zero => simp only [List.getElem?_cons_zero, Option.some.injEq] at hi ⊢; subst hi; exact ho.symm
            | succ i => simpa using ih.ops_ i r' (by simpa using hi)
          · intro i r' hi
            cases i with
            | zero => simp only [List.getElem?_cons_zero, Option.some.injEq] at hi; subst hi; exact hrok
            | succ i => rw [← hgl]; exact ih.rok i r' (by simpa using hi)
          · intro i r' hi hc
            cases i with
            | zero =>
              simp only [List.getElem?_cons_zero, Option.some.injEq] at hi
              subst hi
              have e : isChain r.kd = true := by rw [hc]; rfl
              rw [hk, e]
              simp only [cond_true, Nat.sub_self, List.getElem?_cons_zero, Nat.zero_add, List.getElem?_cons_succ]
              exact ⟨Nat.le_refl _, by rw [hcm hc], trivial⟩
            | succ i =>
              have h1 := ih.chain i r' (by simpa using hi) hc
              cases e : isChain r.kd with
              | true =>
                simp only [e, cond_true] at h1 ⊢
                obtain ⟨h2, h3, h4⟩ := h1
                refine ⟨by omega, ?_, ?_⟩
                · rw [show r'.k - k = (r'.k - (k + 1)) + 1 by omega, List.getElem?_cons_succ]; exact h3
                · rw [show r'.k - k + 1 = (r'.k - (k + 1) + 1) + 1 by omega, List.getElem?_cons_succ]; exact h4
              | false =>
                have hne : r.kd ≠ .chain := fun e' => by rw [e'] at e; simp [isChain] at e
                simp only [e, cond_false] at h1 ⊢
                rw [hncm hne] at h1
                exact h1
          · intro q hq
            cases e : isChain r.kd with
            | true =>
              simp only [e, cond_true, List.length_cons] at hq
              have hc : r.kd = .chain := by
                cases hkd : r.kd <;> rw [hkd] at e <;> simp [isChain] at e
              cases q with
              | zero => exact ⟨0, r, by simp, hc, by omega⟩
              | succ q =>
                obtain ⟨i, r', h1, h2, h3⟩ := ih.surj q (by omega)
                exact ⟨i + 1, r', by simpa using h1, h2, by simp only [e, cond_true] at h3; omega⟩
            | false =>
              simp only [e, cond_false] at hq
              obtain ⟨i, r', h1, h2, h3⟩ := ih.surj q hq
              exact ⟨i + 1, r', by simpa using h1, h2, by simpa only [e, cond_false] using h3⟩
          · cases e : isChain r.kd with
            | true => simpa only [cond_true, List.length_cons, List.getElem?_cons_succ] using ih.last
            | false =>
              have hne : r.kd ≠ .chain := fun e' => by rw [e'] at e; simp [isChain] at e
              have := ih.last
              rw [hncm hne] at this
              simpa only [cond_false] using this
          · intro M hM
            have hl := hg.len
            cases e : isChain r.kd with
            | true =>
              simp only [e, cond_true, List.mem_cons] at hM
              rcases hM with rfl | rfl | hM
              · exact Nat.le_refl _
              · exact hl
              · exact Nat.le_trans hl (ih.mlen M (List.mem_cons_of_mem _ hM))
            | false =>
              have hne : r.kd ≠ .chain := fun e' => by rw [e'] at e; simp [isChain] at e
              simp only [e, cond_false, List.mem_cons] at hM
              rcases hM with rfl | hM
              · exact Nat.le_refl _
              · exact Nat.le_trans hl (ih.mlen M (List.mem_cons_of_mem _ hM))
          · intro i r' c hi hc
            cases i with
            | zero => simp only [List.getElem?_cons_zero, Option.some.injEq] at hi; subst hi; have := hfl c hc; omega
            | succ i =>
              have := ih.flo i r' c (by simpa using hi) hc
              cases e : isFloat r.kd with
              | true => simp only [e, cond_true] at this; omega
              | false => simpa only [e, cond_false] using this
          · intro i r' hi
            cases i with
            | zero =>
              simp only [List.getElem?_cons_zero, Option.some.injEq] at hi
              subst hi
              intro t s ht
              rw [htm] at ht
              exact .inr ⟨ht, fun j r' hj => by omega⟩
            | succ i => exact tmcl i r'.tm (ih.tmc i r' (by simpa using hi))
          · rw [List.length_cons]; exact tmcl _ _ ih.tmf
          · intro i r' d hi hdd
            cases i with
            | zero => simp only [List.getElem?_cons_zero, Option.some.injEq] at hi; subst hi; rw [ho] at hdd; exact hdlt d hdd
            | succ i => exact ih.dlt i r' d (by simpa using hi) hdd
        · cases h
      · cases h
    · cases h
end
end Go.Proofs.YtklgdgeeillpaaaDoor
