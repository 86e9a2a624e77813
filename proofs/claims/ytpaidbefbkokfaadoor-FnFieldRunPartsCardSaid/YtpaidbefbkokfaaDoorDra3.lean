/- The run of a region that draws its order: what its records say. No condition. -/
import Derived.Test.YtpaidbefbkokfaaDoorDraw
namespace Go.Proofs.YtpaidbefbkokfaaDoor
open Go Go.RowKit
set_option linter.unusedVariables false
set_option linter.unusedSimpArgs false

section
variable {ρ : Env} {P : Program} {R : FuncId → Option Rule} {ops : List Oper}
def Wants (ρ : Env) (ops : List Oper) (r : Rec) (b : Bool) : Prop :=
  ∀ (α : Adr) (a : Act), (∀ t s, t ∈ r.o.looksAt ops.toArray → r.tm.get t = some s → VRel ρ α s (a.tmps.getD t undef)) → Region.wanted r.o (yielded ops.toArray a.tmps) = b
def Body (ρ : Env) (P : Program) (R : FuncId → Option Rule) (ops : List Oper) (r : Rec) : Prop :=
  match r.kd with
  | .skip => Wants ρ ops r false ∧ r.s = .undef
  | .pure => Wants ρ ops r true ∧ ∃ es ni nb, spure P (knOf r.ms.tr) r.ms.ni r.ms.nb (evR r.ms.gl r.tm (r.o.looksAt ops.toArray)) r.o.op = some (r.s, es, ni, nb) ∧ Sat ρ es ∧ Sat ρ r.ms.tr
  | .load => Wants ρ ops r true
  | .chain => Wants ρ ops r true ∧ seff P R r.ms (evR r.ms.gl r.tm (r.o.looksAt ops.toArray)) r.o.op = some (r.s, r.ms')
  | .float c => r.o.guard = none ∧ r.s = .ptr c 0
structure RecOk (ρ : Env) (P : Program) (R : FuncId → Option Rule) (ops : List Oper) (gl : List (Nat × Nat)) (r : Rec) : Prop where
  sat : Sat ρ r.ms'.tr
  gl : r.ms.gl = gl
  body : Body ρ P R ops r

theorem floatOf_some {o : Oper} {t : TypeId} (h : floatOf o = some t) : o.guard = none ∧ o.op = .alloc t := by
  unfold floatOf at h
  split at h
  · rename_i hg
    split at h
    · rename_i t' ho
      simp only [Option.some.injEq] at h
      subst h
      exact ⟨hg, ho⟩
    · cases h
  · cases h

theorem dstep_ok (hR : ∀ f r, R f = some r → RuleOk P f r) {o : Oper} {fl k : Nat} {tm : Tm} {ms : Ms} {r : Rec} (h : dstep P R ops o fl k tm ms = some r) (hs : Sat ρ r.ms'.tr) :
    r.o = o ∧ r.tm = tm ∧ r.k = k ∧ Grows ρ ms r.ms' ∧ RecOk ρ P R ops ms.gl r ∧ (r.kd = .chain → r.ms.mem = ms.mem) ∧ (r.kd ≠ .chain → r.ms'.mem = ms.mem) ∧ (∀ c, r.kd = .float c → c = fl) := by
  have wl : ∀ {ms1 : Ms} {b : Bool}, wantS ops tm ms o = some (b, ms1) → ∀ r : Rec, r.o = o → r.tm = tm → Sat ρ ms1.tr → Wants ρ ops r b ∧ Grows ρ ms ms1 ∧ ms1.mem = ms.mem := by
    intro ms1 b hw r ho ht hs1
    obtain ⟨gw, em, kw⟩ := wantS_ok hw hs1
    refine ⟨fun α a hl => ?_, gw, em⟩
    subst ho ht
    exact kw α a fun t s _ hm hg => hl t s hm hg
  unfold dstep at h
  split at h
  · rename_i t hf
    simp only [Option.some.injEq] at h
    subst h
    obtain ⟨hg, ho⟩ := floatOf_some hf
    exact ⟨rfl, rfl, rfl, ⟨hs, rfl, Nat.le_refl _⟩, ⟨hs, rfl, by simp only [Body]; exact ⟨hg, trivial⟩⟩, fun h => by simp at h, fun _ => rfl, fun c hc => by simpa using hc.symm⟩
  · split at h
    · rename_i ms1 hw
      simp only [Option.some.injEq] at h
      subst h
      obtain ⟨w1, g1, e1⟩ := wl hw ⟨o, .skip, .undef, tm, k, ms1, ms1⟩ rfl rfl hs
      exact ⟨rfl, rfl, rfl, g1, ⟨hs, g1.gl, by simp only [Body]; exact ⟨w1, trivial⟩⟩, fun h => by simp at h, fun _ => e1, fun c hc => by simp at hc⟩
    · rename_i ms1 hw
      split at h
      · split at h
        · rename_i s es ni nb hp
          simp only [Option.some.injEq] at h
          subst h
          have hs' := hs
          simp only [sat_app] at hs'
          obtain ⟨w1, g1, e1⟩ := wl hw ⟨o, .pure, s, tm, k, ms1, { ms1 with tr := es ++ ms1.tr, ni := ni, nb := nb }⟩ rfl rfl hs'.2
          refine ⟨rfl, rfl, rfl, ⟨g1.sat, g1.gl, g1.len⟩, ⟨hs, g1.gl, ?_⟩, fun h => by simp at h, fun _ => e1, fun c hc => by simp at hc⟩
          simp only [Body]
          exact ⟨w1, es, ni, nb, hp, hs'.1, hs'.2⟩
        · cases h
      · split at h
        · rename_i s hp
          simp only [Option.some.injEq] at h
          subst h
          obtain ⟨w1, g1, e1⟩ := wl hw ⟨o, .load, s, tm, k, ms1, ms1⟩ rfl rfl hs
          exact ⟨rfl, rfl, rfl, g1, ⟨hs, g1.gl, by simp only [Body]; exact w1⟩, fun h => by simp at h, fun _ => e1, fun c hc => by simp at hc⟩
        · cases h
      · split at h
        · rename_i s ms2 hp
          simp only [Option.some.injEq] at h
          subst h
          have go := (seff_ok hR hp hs).1
          obtain ⟨w1, g1, e1⟩ := wl hw ⟨o, .chain, s, tm, k, ms1, ms2⟩ rfl rfl go.sat
          exact ⟨rfl, rfl, rfl, g1.trans go, ⟨hs, g1.gl, by simp only [Body]; exact ⟨w1, hp⟩⟩, fun _ => e1, fun h => by simp at h, fun c hc => by simp at hc⟩
        · cases h
    · cases h

def TmC (tm0 : Tm) (rs : List Rec) (i : Nat) (tm : Tm) : Prop :=
  ∀ t s, tm.get t = some s → (∃ j r, j < i ∧ rs[j]? = some r ∧ r.o.dst = some t ∧ s = r.s) ∨ (tm0.get t = some s ∧ ∀ j r, j < i → rs[j]? = some r → r.o.dst ≠ some t)
structure DF (ρ : Env) (P : Program) (R : FuncId → Option Rule) (ops : List Oper) (nt : Nat) (l : List Oper) (fl k : Nat) (tm : Tm) (ms : Ms) (rs : List Rec) (cm : List (List Chunk)) (tm' : Tm) (ms' : Ms) : Prop where
  grows : Grows ρ ms ms'
  len : rs.length = l.length
  ops_ : ∀ (i : Nat) r, rs[i]? = some r → l[i]? = some r.o
  rok : ∀ (i : Nat) r, rs[i]? = some r → RecOk ρ P R ops ms.gl r
  chain : ∀ (i : Nat) r, rs[i]? = some r → r.kd = .chain → k ≤ r.k ∧ (ms.mem :: cm)[r.k - k]? = some r.ms.mem ∧ (ms.mem :: cm)[r.k - k + 1]? = some r.ms'.mem
  surj : ∀ q, q < cm.length → ∃ (i : Nat) (r : Rec), rs[i]? = some r ∧ r.kd = .chain ∧ r.k = k + q
  last : (ms.mem :: cm)[cm.length]? = some ms'.mem
  mlen : ∀ M, M ∈ ms.mem :: cm → ms.mem.length ≤ M.length
  flo : ∀ (i : Nat) r c, rs[i]? = some r → r.kd = .float c → fl ≤ c
  tmc : ∀ (i : Nat) r, rs[i]? = some r → TmC tm rs i r.tm
  tmf : TmC tm rs rs.length tm'
  dlt : ∀ (i : Nat) r d, rs[i]? = some r → r.o.dst = some d → d < nt

theorem putS_get {nt : Nat} {tm tm' : Tm} {dst : Option Nat} {s : SV} (h : putS nt tm dst s = some tm') : (∀ d, dst = some d → d < nt) ∧ ∀ t x, tm'.get t = some x → (dst = some t ∧ x = s) ∨ (dst ≠ some t ∧ tm.get t = some x) := by
  cases dst with
  | none => simp only [putS, Option.some.injEq] at h; subst h; exact ⟨by simp, fun t x hx => .inr ⟨by simp, hx⟩⟩
  | some d =>
    simp only [putS] at h
    cases hb : Nat.blt d nt with
    | true =>
      simp only [hb, cond_true, Option.some.injEq] at h
      subst h
      have hd : d + 1 ≤ nt := by simpa [Nat.blt] using hb
      refine ⟨fun d' e => by cases e; exact hd, fun t x hx => ?_⟩
      rcases Tm.get_set tm d t s x hx with ⟨rfl, rfl⟩ | ⟨hne, hx'⟩
      · exact .inl ⟨rfl, rfl⟩
      · exact .inr ⟨fun e => hne (by cases e; rfl), hx'⟩
    | false => simp [hb] at h

theorem drun_ok (hR : ∀ f r, R f = some r → RuleOk P f r) {nt : Nat} : ∀ {l : List Oper} {fl k : Nat} {tm tm' : Tm} {ms ms' : Ms} {rs : List Rec} {cm : List (List Chunk)}, drun P R ops nt l fl k tm ms = some (rs, cm, tm', ms') → Sat ρ ms'.tr → DF ρ P R ops nt l fl k tm ms rs cm tm' ms'
  | [], fl, k, tm, tm', ms, ms', rs, cm, h, hs => by
    simp only [drun, Option.some.injEq, Prod.mk.injEq] at h
    obtain ⟨rfl, rfl, rfl, rfl⟩ := h
    refine ⟨⟨hs, rfl, Nat.le_refl _⟩, rfl, by simp, by simp, by simp, by simp, by simp, by simp, by simp, by simp, ?_, by simp⟩
    intro t s ht
    exact .inr ⟨ht, by simp⟩
  | o :: l, fl, k, tm, tm', ms, ms', rs, cm, h, hs => by
    simp only [drun] at h
    split at h
    · rename_i r hr
      split at h
      · rename_i tm1 hp
        split at h
        · rename_i rs' cm' tm2 ms2 hd
          simp only [Option.some.injEq, Prod.mk.injEq] at h
          obtain ⟨rfl, rfl, rfl, rfl⟩ := h
          have ih := drun_ok hR hd hs
          obtain ⟨ho, htm, hk, hg, hrok, hcm, hncm, hfl⟩ := dstep_ok hR hr ih.grows.sat
          obtain ⟨hdlt, hget⟩ := putS_get hp
          have hgl : r.ms'.gl = ms.gl := hg.gl
          have tmcl : ∀ i tmx, TmC tm1 rs' i tmx → TmC tm (r :: rs') (i + 1) tmx := by
            intro i tmx hc t s ht
            rcases hc t s ht with ⟨j, r', hj, hr', hd', hs'⟩ | ⟨h1, h2⟩
            · exact .inl ⟨j + 1, r', by omega, by simpa using hr', hd', hs'⟩
            · rcases hget t s h1 with ⟨e1, e2⟩ | ⟨e1, e2⟩
              · exact .inl ⟨0, r, by omega, by simp, by rw [ho]; exact e1, e2⟩
              · refine .inr ⟨e2, fun j r' hj hr' => ?_⟩
                cases j with
                | zero => simp only [List.getElem?_cons_zero, Option.some.injEq] at hr'; subst hr'; rw [ho]; exact e1
                | succ j => exact h2 j r' (by omega) (by simpa using hr')
          refine ⟨hg.trans ih.grows, by simp [ih.len], ?_, ?_, ?_, ?_, ?_, ?_, ?_, ?_, ?_, ?_⟩
          · intro i r' hi
            cases i with
            | zero => simp only [List.getElem?_cons_zero, Option.some.injEq] at hi ⊢; subst hi; exact ho.symm
            | succ i => simpa using ih.ops_ i r' (by simpa using hi)
          · intro i r' hi
            cases i with
            | zero => simp only [List.getElem?_cons_zero, Option.some.injEq] at hi; subst hi; exact hrok
            | succ i => rw [← hgl]; exact ih.rok i r' (by simpa using hi)
          · intro i r' hi hc
            cases i with
            | zero =>
              simp only [List.getElem?_cons_zero, Option.some.injEq] at hi
              subst hi
              have e : isChain r.kd = true := by rw [hc]; rfl
              rw [hk, e]
              simp only [cond_true, Nat.sub_self, List.getElem?_cons_zero, Nat.zero_add, List.getElem?_cons_succ]
              exact ⟨Nat.le_refl _, by rw [hcm hc], trivial⟩
            | succ i =>
              have h1 := ih.chain i r' (by simpa using hi) hc
              cases e : isChain r.kd with
              | true =>
                simp only [e, cond_true] at h1 ⊢
                obtain ⟨h2, h3, h4⟩ := h1
                refine ⟨by omega, ?_, ?_⟩
                · rw [show r'.k - k = (r'.k - (k + 1)) + 1 by omega, List.getElem?_cons_succ]; exact h3
                · rw [show r'.k - k + 1 = (r'.k - (k + 1) + 1) + 1 by omega, List.getElem?_cons_succ]; exact h4
              | false =>
                have hne : r.kd ≠ .chain := fun e' => by rw [e'] at e; simp [isChain] at e
                simp only [e, cond_false] at h1 ⊢
                rw [hncm hne] at h1
                exact h1
          · intro q hq
            cases e : isChain r.kd with
            | true =>
              simp only [e, cond_true, List.length_cons] at hq
              have hc : r.kd = .chain := by
                cases hkd : r.kd <;> rw [hkd] at e <;> simp [isChain] at e
              cases q with
              | zero => exact ⟨0, r, by simp, hc, by omega⟩
              | succ q =>
                obtain ⟨i, r', h1, h2, h3⟩ := ih.surj q (by omega)
                exact ⟨i + 1, r', by simpa using h1, h2, by simp only [e, cond_true] at h3; omega⟩
            | false =>
              simp only [e, cond_false] at hq
              obtain ⟨i, r', h1, h2, h3⟩ := ih.surj q hq
              exact ⟨i + 1, r', by simpa using h1, h2, by simpa only [e, cond_false] using h3⟩
          · cases e : isChain r.kd with
            | true => simpa only [cond_true, List.length_cons, List.getElem?_cons_succ] using ih.last
            | false =>
              have hne : r.kd ≠ .chain := fun e' => by rw [e'] at e; simp [isChain] at e
              have := ih.last
              rw [hncm hne] at this
              simpa only [cond_false] using this
          · intro M hM
            have hl := hg.len
            cases e : isChain r.kd with
            | true =>
              simp only [e, cond_true, List.mem_cons] at hM
              rcases hM with rfl | rfl | hM
              · exact Nat.le_refl _
              · exact hl
              · exact Nat.le_trans hl (ih.mlen M (List.mem_cons_of_mem _ hM))
            | false =>
              have hne : r.kd ≠ .chain := fun e' => by rw [e'] at e; simp [isChain] at e
              simp only [e, cond_false, List.mem_cons] at hM
              rcases hM with rfl | hM
              · exact Nat.le_refl _
              · exact Nat.le_trans hl (ih.mlen M (List.mem_cons_of_mem _ hM))
          · intro i r' c hi hc
            cases i with
            | zero => simp only [List.getElem?_cons_zero, Option.some.injEq] at hi; subst hi; have := hfl c hc; omega
            | succ i =>
              have := ih.flo i r' c (by simpa using hi) hc
              cases e : isFloat r.kd with
              | true => simp only [e, cond_true] at this; omega
              | false => simpa only [e, cond_false] using this
          · intro i r' hi
            cases i with
            | zero =>
              simp only [List.getElem?_cons_zero, Option.some.injEq] at hi
              subst hi
              intro t s ht
              rw [htm] at ht
              exact .inr ⟨ht, fun j r' hj => by omega⟩
            | succ i => exact tmcl i r'.tm (ih.tmc i r' (by simpa using hi))
          · rw [List.length_cons]; exact tmcl _ _ ih.tmf
          · intro i r' d hi hdd
            cases i with
            | zero => simp only [List.getElem?_cons_zero, Option.some.injEq] at hi; subst hi; rw [ho] at hdd; exact hdlt d hdd
            | succ i => exact ih.dlt i r' d (by simpa using hi) hdd
        · cases h
      · cases h
    · cases h
end
end Go.Proofs.YtpaidbefbkokfaaDoor

/- Whatever order a region draws, it does what the run in the text's order says. No condition. -/
namespace Go.Proofs.YtpaidbefbkokfaaDoor
open Go Go.RowKit
set_option linter.unusedVariables false
set_option linter.unusedSimpArgs false

section
variable {ρ : Env} {P : Program} {R : FuncId → Option Rule} {ops : List Oper} {S : Nat → Nat → Prop} {w0 : World}
theorem waits_spec {j i : Nat} (h : waits ops j i = true) : ∃ oj, ops[j]? = some oj ∧ ∃ e ∈ oj.after, Region.binds .any e = true ∧ e.on = i := by
  unfold waits at h
  split at h
  · rename_i oj hj
    obtain ⟨e, he, hb⟩ := List.any_eq_true.1 h
    simp only [Bool.and_eq_true] at hb
    exact ⟨oj, hj, e, by simpa using he, hb.1, Nat.eq_of_beq_eq_true hb.2⟩
  · cases h
theorem all_zipIdx {β : Type} {l : List β} {f : β × Nat → Bool} (h : l.zipIdx.all f = true) {i : Nat} {x : β} (hx : l[i]? = some x) : f (x, i) = true := by
  refine List.all_eq_true.1 h (x, i) ?_
  rw [List.mem_zipIdx_iff_getElem?]
  exact hx
theorem any_zipIdx {β : Type} {l : List β} {f : β × Nat → Bool} (h : l.zipIdx.any f = true) : ∃ (i : Nat) (x : β), l[i]? = some x ∧ f (x, i) = true := by
  obtain ⟨⟨x, i⟩, hm, hf⟩ := List.any_eq_true.1 h
  rw [List.mem_zipIdx_iff_getElem?] at hm
  exact ⟨i, x, hm, hf⟩
theorem isChain_iff {d : DK} : isChain d = true ↔ d = .chain := by cases d <;> simp [isChain]

/-- What holds between two operations of a region that draws. -/
structure DInv (ρ : Env) (S : Nat → Nat → Prop) (w0 : World) (ops : List Oper) (nt : Nat) (tm0 : Tm) (gl : List (Nat × Nat)) (recs : List Rec) (mems : List (List Chunk)) (n0 : Nat) (α0 : Adr) (listed : Array Bool) (a : Act) (w : World) : Prop where
  sz : listed.size = ops.length
  closed : ∀ (j : Nat) oj, ops[j]? = some oj → listed.getD j false = true → ∀ e ∈ oj.after, Region.binds .any e = true → listed.getD e.on false = true
  st : ∃ (k : Nat) (α : Adr) (M : List Chunk), mems[k]? = some M ∧ MRep ρ S w0 α M w ∧ GRep gl α ∧ (∀ c, c < n0 → α c = α0 c) ∧
    (∀ (j : Nat) r, recs[j]? = some r → r.kd = .chain → (listed.getD j false = true ↔ r.k < k)) ∧
    (∀ (j : Nat) r c, recs[j]? = some r → r.kd = .float c → (listed.getD j false = true ↔ α c ≠ none)) ∧
    a.tmps.size = nt ∧ a.defers = [] ∧
    (∀ (j : Nat) r d, recs[j]? = some r → r.o.dst = some d → listed.getD j false = true → VRel ρ α r.s (a.tmps.getD d undef)) ∧
    (∀ d s, tm0.get d = some s → (∀ (j : Nat) r, recs[j]? = some r → r.o.dst = some d → listed.getD j false = false) → VRel ρ α s (a.tmps.getD d undef))

theorem getD_replicate_false' {m j : Nat} : (Array.replicate m false).getD j false = false := by
  rcases Nat.lt_or_ge j m with h | h
  · simp [h]
  · simp [h]
theorem getD_both' {listed : Array Bool} {i : Nat} (h : listed.getD i true = false) : listed.getD i false = false := by
  rcases Nat.lt_or_ge i listed.size with h' | h'
  · simp [h'] at h ⊢; exact h
  · simp [Array.getElem?_eq_none h'] at h
theorem getD_set_self' {listed : Array Bool} {i : Nat} (h : i < listed.size) : (listed.setIfInBounds i true).getD i false = true := by
  rw [Array.getD_eq_getD_getElem?, Array.getElem?_setIfInBounds_self_of_lt h]; rfl
theorem getD_set_ne' {listed : Array Bool} {i j : Nat} (b : Bool) (h : i ≠ j) : (listed.setIfInBounds i true).getD j b = listed.getD j b := by
  rw [Array.getD_eq_getD_getElem?, Array.getElem?_setIfInBounds_ne h, ← Array.getD_eq_getD_getElem?]
theorem put_getD_ne {a : Act} {dst : Option Nat} {v : Value} {d : Nat} (h : dst ≠ some d) : (a.put dst v).tmps.getD d undef = a.tmps.getD d undef := by
  cases dst with
  | none => rfl
  | some d' =>
    simp only [Act.put, Array.getD_eq_getD_getElem?]
    rw [Array.getElem?_setIfInBounds_ne (fun e => h (by rw [e]))]
theorem put_getD_self {a : Act} {v : Value} {d : Nat} (h : d < a.tmps.size) : (a.put (some d) v).tmps.getD d undef = v := by
  simp only [Act.put, Array.getD_eq_getD_getElem?]
  rw [Array.getElem?_setIfInBounds_self_of_lt h]; rfl
theorem put_size {a : Act} {dst : Option Nat} {v : Value} : (a.put dst v).tmps.size = a.tmps.size := by cases dst <;> simp [Act.put]
theorem put_defers {a : Act} {dst : Option Nat} {v : Value} : (a.put dst v).defers = a.defers := by cases dst <;> simp [Act.put]

theorem alloc_run {o : Oper} {t : TypeId} {z : List Value} {ρ : Operand → Value} {w : World} (ho : o.op = .alloc t) (hz : zeroOf P t = some z) : (execOp ρ o).run P w = .ok (.value (.pointer (some ⟨w.heap.size, 0, none⟩))) (w.alloc (.cells z.toArray t)) := by
  obtain ⟨dst, op, ty, pos, after, guard⟩ := o
  simp only at ho
  subst ho
  obtain ⟨zv, hrz, hzc⟩ := run_zero (P := P) (w := w) hz
  simp only [execOp, Instr.alloc, Sem.run_bind, hrz, Result.andThen_ok, newVar, newRow, hzc, run_newObj, Sem.run_pure, World.alloc_eq]
theorem draw_step (hR : ∀ f r, R f = some r → RuleOk P f r) {nt n0 fl : Nat} {tm0 tm' : Tm} {ms0 ms' : Ms} {recs : List Rec} {cm : List (List Chunk)} {α0 : Adr} (hn0 : n0 ≤ fl) (hdf : DF ρ P R ops nt ops fl 0 tm0 ms0 recs cm tm' ms')
    (htmps : tmpsB ops = true) (hchains : chainsB ops recs = true) (hloads : loadsB P ops recs (ms0.mem :: cm) = true) (hfl : ∀ (j : Nat) r c, recs[j]? = some r → r.kd = .float c → c < ms0.mem.length) (hn0' : n0 ≤ ms0.mem.length)
    {listed : Array Bool} {a : Act} {w : World} (hI : DInv ρ S w0 ops nt tm0 ms0.gl recs (ms0.mem :: cm) n0 α0 listed a w) {i : Nat} (hi : i ∈ Region.ready .any ops.toArray listed) {Q : Exit → Act → World → Prop} :
    wpOp P ops.toArray Q i (fun a' w' => DInv ρ S w0 ops nt tm0 ms0.gl recs (ms0.mem :: cm) n0 α0 (listed.setIfInBounds i true) a' w') a w := by
  obtain ⟨k, α, M, hM, hm, hg, h0, hchn, hflt, hsz, hdf0, hwr, hini⟩ := hI.st
  -- operation i and its record
  obtain ⟨hun, oi, hoi, hall⟩ := mem_ready.1 hi
  have hoi' : ops[i]? = some oi := by simpa using hoi
  have hilt : i < ops.length := (List.getElem?_eq_some_iff.1 hoi').1
  have hirec : i < recs.length := by rw [hdf.len]; exact hilt
  obtain ⟨r, hr⟩ : ∃ r, recs[i]? = some r := ⟨recs[i], by simp [hirec]⟩
  have hro : r.o = oi := by
    have := hdf.ops_ i r hr
    rw [hoi'] at this
    exact (Option.some.inj this).symm
  have hunf := getD_both' hun
  have hrok := hdf.rok i r hr
  -- an operation that i waits for is listed; one that waits for i is not
  have hbefore : ∀ j, waits ops i j = true → listed.getD j false = true := by
    intro j hj
    obtain ⟨o', ho', e, he, hb, hon⟩ := waits_spec hj
    rw [hoi'] at ho'
    cases ho'
    rw [← hon]
    exact hall e he hb
  have hbefore2 : ∀ j, waits2 ops i j = true → listed.getD j false = true := by
    intro j hj
    unfold waits2 at hj
    have one : ∀ m j, listed.getD m false = true → waits ops m j = true → listed.getD j false = true := by
      intro m j hm1 h2
      obtain ⟨o', ho', e, he, hb, hon⟩ := waits_spec h2
      rw [← hon]
      exact hI.closed m o' ho' hm1 e he hb
    have all : ∀ f m, listed.getD m false = true → ∀ j, waitsT ops f m j = true → listed.getD j false = true := by
      intro f
      induction f with
      | zero => intro m hm j h; exact one m j hm h
      | succ f ih =>
        intro m hm j h
        simp only [waitsT, Bool.or_eq_true, List.any_eq_true, Bool.and_eq_true] at h
        rcases h with h | ⟨m', _, ⟨_, h1⟩, h2⟩
        · exact one m j hm h
        · exact ih m' (one m m' hm h1) j h2
    have hj' : waitsT ops (7 + 1) i j = true := hj
    rw [waitsT] at hj'
    simp only [Bool.or_eq_true, List.any_eq_true, Bool.and_eq_true] at hj'
    rcases hj' with hj' | ⟨m, _, ⟨_, h1⟩, h2⟩
    · exact hbefore j hj'
    · exact all _ m (hbefore m h1) j h2
  have hafter : ∀ j, waits ops j i = true → listed.getD j false = false := by
    intro j hj
    obtain ⟨o', ho', e, he, hb, hon⟩ := waits_spec hj
    cases hl : listed.getD j false with
    | false => rfl
    | true =>
      have := hI.closed j o' ho' hl e he hb
      rw [hon, hunf] at this
      cases this
  -- two operations one of which writes what the other looks at
  have hpair : ∀ (j : Nat) (r' : Rec) (t : Nat), recs[j]? = some r' → r'.o.dst = some t → j ≠ i → r.o.dst ≠ some t ∧ (t ∈ r.o.looksAt ops.toArray → (j < i → listed.getD j false = true) ∧ (i < j → listed.getD j false = false)) := by
    intro j r' t hj hd hne
    have hoj := hdf.ops_ j r' hj
    have h1 := all_zipIdx htmps hoj
    simp only [hd] at h1
    have h2 := all_zipIdx h1 hoi'
    simp only [Bool.or_eq_true, Bool.and_eq_true] at h2
    rcases h2 with h2 | ⟨h2, h3⟩
    · exact absurd (Nat.eq_of_beq_eq_true h2) hne
    · refine ⟨fun e => ?_, fun hl => ?_⟩
      · rw [← hro, e] at h2; simp at h2
      · rcases h3 with h3 | h3
        · rw [← hro] at h3
          simp only [Bool.not_eq_true', List.contains_eq_mem, decide_eq_false_iff_not] at h3
          exact absurd hl h3
        · cases hb : Nat.blt j i with
          | true =>
            simp only [hb, cond_true] at h3
            have hji : j + 1 ≤ i := by simpa [Nat.blt] using hb
            exact ⟨fun _ => hbefore j h3, fun h => by omega⟩
          | false =>
            simp only [hb, cond_false] at h3
            have hji : ¬ j < i := fun h => by
              have : Nat.blt j i = true := by simp [Nat.blt]; omega
              rw [this] at hb; cases hb
            exact ⟨fun h => absurd h hji, fun _ => hafter j h3⟩
  -- what operation i sees is what it saw in the run
  have hlook : ∀ t s, t ∈ r.o.looksAt ops.toArray → r.tm.get t = some s → VRel ρ α s (a.tmps.getD t undef) := by
    intro t s hl ht
    rcases hdf.tmc i r hr t s ht with ⟨j, r', hji, hj, hd, rfl⟩ | ⟨h1, h2⟩
    · exact hwr j r' t hj hd (((hpair j r' t hj hd (by omega)).2 hl).1 hji)
    · refine hini t s h1 fun j r' hj hd => ?_
      rcases Nat.lt_trichotomy j i with h | h | h
      · exact absurd hd (h2 j r' h hj)
      · subst h; exact hunf
      · exact ((hpair j r' t hj hd (by omega)).2 hl).2 h
  have hev : ∀ x s, evR r.ms.gl r.tm (r.o.looksAt ops.toArray) x = some s → VRel ρ α s (a.eval x) := by
    intro x s hx
    cases x with
    | tmp t =>
      simp only [evR] at hx
      split at hx
      · rename_i hc
        exact hlook t s (by simpa using hc) hx
      · cases hx
    | const v => simp only [evR, evT, Option.some.injEq] at hx; subst hx; exact ofValue_ok v
    | global g =>
      simp only [evR, evT] at hx
      split at hx
      · rename_i c hc
        simp only [Option.some.injEq] at hx
        subst hx
        simp only [VRel]
        rw [hrok.gl] at hc
        exact ⟨g, 0, hg g c (glo_mem hc), rfl⟩
      · cases hx
    | func f => simp only [evR, evT] at hx; cases hx
  have hfeas : feas ops recs i k = true := by
    unfold feas
    rw [List.all_eq_true]
    rintro ⟨r', j⟩ hj
    rw [List.mem_zipIdx_iff_getElem?] at hj
    simp only at hj ⊢
    cases hc : isChain r'.kd with
    | false => rfl
    | true =>
      have hc' := isChain_iff.1 hc
      have hiff := hchn j r' hj hc'
      simp only [Bool.not_true, Bool.false_or, Bool.and_eq_true, Bool.or_eq_true, Bool.not_eq_true']
      refine ⟨?_, ?_⟩
      · cases hw : waits ops i j with
        | false => exact .inl rfl
        | true => right; have := hiff.1 (hbefore j hw); simp [Nat.blt]; omega
      · cases hw : waits ops j i with
        | false => exact .inl rfl
        | true =>
          right
          have h1 := hafter j hw
          have : ¬ r'.k < k := fun h => by rw [hiff.2 h] at h1; cases h1
          simp; omega
  have hfr : i < listed.size := by rw [hI.sz]; exact hilt
  -- the next state
  have close : ∀ (j : Nat) oj, ops[j]? = some oj → (listed.setIfInBounds i true).getD j false = true → ∀ e ∈ oj.after, Region.binds .any e = true → (listed.setIfInBounds i true).getD e.on false = true := by
    intro j oj hj hl e he hb
    have up : listed.getD e.on false = true → (listed.setIfInBounds i true).getD e.on false = true := by
      intro h
      by_cases hei : i = e.on
      · rw [← hei]; exact getD_set_self' hfr
      · rw [getD_set_ne' _ hei]; exact h
    by_cases hij : i = j
    · subst hij
      rw [hoi'] at hj
      cases hj
      exact up (hall e he hb)
    · rw [getD_set_ne' _ hij] at hl
      exact up (hI.closed j oj hj hl e he hb)
  have next : ∀ (k' : Nat) (α' : Adr) (M' : List Chunk) (v : Value) (w' : World), (ms0.mem :: cm)[k']? = some M' → MRep ρ S w0 α' M' w' → Le α α' → (∀ c, c < n0 → α' c = α0 c) →
      (∀ (j : Nat) r', recs[j]? = some r' → r'.kd = .chain → ((listed.setIfInBounds i true).getD j false = true ↔ r'.k < k')) →
      (∀ (j : Nat) r' c, recs[j]? = some r' → r'.kd = .float c → ((listed.setIfInBounds i true).getD j false = true ↔ α' c ≠ none)) → VRel ρ α' r.s v →
      DInv ρ S w0 ops nt tm0 ms0.gl recs (ms0.mem :: cm) n0 α0 (listed.setIfInBounds i true) (a.put r.o.dst v) w' := by
    intro k' α' M' v w' hM' hm' hle h0' hc' hf' hv
    refine ⟨by simp [hI.sz], close, k', α', M', hM', hm', hg.le hle, h0', hc', hf', by rw [put_size]; exact hsz, by rw [put_defers]; exact hdf0, ?_, ?_⟩
    · intro j r' d hj hd hl
      by_cases hij : i = j
      · subst hij
        rw [hr] at hj
        cases hj
        rw [hd, put_getD_self (by rw [hsz]; exact hdf.dlt i r d hr hd)]
        exact hv
      · rw [getD_set_ne' _ hij] at hl
        rw [put_getD_ne (hpair j r' d hj hd (Ne.symm hij)).1]
        exact VRel.le hle _ (hwr j r' d hj hd hl)
    · intro d s hds hno
      have hne : r.o.dst ≠ some d := fun e => by
        have := hno i r hr e
        rw [getD_set_self' hfr] at this
        cases this
      rw [put_getD_ne hne]
      refine VRel.le hle _ (hini d s hds fun j r' hj hd => ?_)
      have h1 := hno j r' hj hd
      by_cases hij : i = j
      · subst hij; exact hunf
      · rwa [getD_set_ne' _ hij] at h1
  have keepc : r.kd ≠ .chain → ∀ (j : Nat) r', recs[j]? = some r' → r'.kd = .chain → ((listed.setIfInBounds i true).getD j false = true ↔ r'.k < k) := by
    intro hnc j r' hj hc
    by_cases hij : i = j
    · subst hij; rw [hr] at hj; cases hj; exact absurd hc hnc
    · rw [getD_set_ne' _ hij]; exact hchn j r' hj hc
  have keepf : ∀ α' : Adr, (∀ (j : Nat) r' c, recs[j]? = some r' → r'.kd = .float c → α' c = α c) → (∀ c, r.kd ≠ .float c) → ∀ (j : Nat) r' c, recs[j]? = some r' → r'.kd = .float c → ((listed.setIfInBounds i true).getD j false = true ↔ α' c ≠ none) := by
    intro α' he hnf j r' c hj hc
    by_cases hij : i = j
    · subst hij; rw [hr] at hj; cases hj; exact absurd hc (hnf c)
    · rw [getD_set_ne' _ hij, he j r' c hj hc]; exact hflt j r' c hj hc
  -- one operation
  unfold wpOp
  simp only [hoi]
  have hbody := hrok.body
  unfold Body at hbody
  rw [← hro]
  cases hkd : r.kd with
  | skip =>
    simp only [hkd] at hbody
    rw [if_neg (by rw [hbody.1 α a hlook]; simp)]
    exact next k α M undef w hM hm (Le.refl _) h0 (keepc (by simp [hkd])) (keepf α (fun _ _ _ _ _ => rfl) (by simp [hkd])) (by rw [hbody.2]; simp only [VRel])
  | pure =>
    simp only [hkd] at hbody
    obtain ⟨hwant, es, ni, nb, hsp, hse, hst⟩ := hbody
    rw [if_pos (hwant α a hlook)]
    left
    obtain ⟨v, hv, hrel⟩ := spure_ok (w := w) hsp hse (kn_ok hst) hev
    simp only [Oper.wp, hv, Oper.upon]
    exact next k α M v w hM hm (Le.refl _) h0 (keepc (by simp [hkd])) (keepf α (fun _ _ _ _ _ => rfl) (by simp [hkd])) hrel
  | load =>
    simp only [hkd] at hbody
    rw [if_pos (hbody α a hlook)]
    left
    have h1 := all_zipIdx hloads hr
    simp only [hkd] at h1
    have h2 := all_zipIdx h1 hM
    simp only [hfeas, Bool.not_true, Bool.false_or] at h2
    split at h2
    · rename_i s hsl
      have := SV.beq_eq _ _ h2
      subst this
      obtain ⟨v, hv, hrel⟩ := sload_ok hm hsl hev
      simp only [Oper.wp, hv, Oper.upon]
      exact next k α M v w hM hm (Le.refl _) h0 (keepc (by simp [hkd])) (keepf α (fun _ _ _ _ _ => rfl) (by simp [hkd])) hrel
    · cases h2
  | chain =>
    simp only [hkd] at hbody
    obtain ⟨hwant, hse⟩ := hbody
    rw [if_pos (hwant α a hlook)]
    left
    obtain ⟨_, hk1, hk2⟩ := hdf.chain i r hr hkd
    rw [Nat.sub_zero] at hk1 hk2
    have hcb := all_zipIdx hchains hr
    simp only [hkd, isChain, Bool.not_true, Bool.false_or, Bool.and_eq_true] at hcb
    obtain ⟨hc1, hc2⟩ := hcb
    have hke : k = r.k := by
      have h1 : ¬ r.k < k := fun h => by
        have := (hchn i r hr hkd).2 h
        rw [hunf] at this; cases this
      simp only [Bool.or_eq_true] at hc1
      rcases hc1 with hc1 | hc1
      · have := Nat.eq_of_beq_eq_true hc1; omega
      · obtain ⟨j, r', hj, hx⟩ := any_zipIdx hc1
        simp only [Bool.and_eq_true] at hx
        obtain ⟨⟨hx1, hx2⟩, hx3⟩ := hx
        have hx1' : r'.kd = .chain := isChain_iff.1 (by unfold isChain; exact hx1)
        have := (hchn j r' hj hx1').1 (hbefore2 j hx3)
        have := Nat.eq_of_beq_eq_true hx2
        omega
    subst hke
    rw [hM] at hk1
    have hMe : M = r.ms.mem := Option.some.inj hk1
    subst hMe
    have hgl : GRep r.ms.gl α := by rw [hrok.gl]; exact hg
    obtain ⟨gro, hstep⟩ := seff_ok (o := r.o) hR hse hrok.sat
    refine hstep S w0 α a w hm hgl hev _ _ fun α' v w' hext hv hm' => ?_
    have hle := hm.le hext
    have hmem0 : ms0.mem.length ≤ r.ms.mem.length := hdf.mlen _ (List.mem_of_getElem? hM)
    refine next (r.k + 1) α' _ v w' hk2 hm' hle (fun c hc => by rw [hext c (by omega)]; exact h0 c hc) ?_ (keepf α' (fun j r' c hj hc => hext c (by have := hfl j r' c hj hc; omega)) (by simp [hkd])) hv
    intro j r' hj hc
    by_cases hij : i = j
    · subst hij; rw [hr] at hj; cases hj
      exact ⟨fun _ => by omega, fun _ => getD_set_self' hfr⟩
    · rw [getD_set_ne' _ hij, hchn j r' hj hc]
      have h3 := all_zipIdx hc2 hj
      simp only [Bool.or_eq_true] at h3
      rcases h3 with (h3 | h3) | h3
      · exact absurd (Nat.eq_of_beq_eq_true h3) hij
      · rw [hc] at h3; simp at h3
      · have : r'.k ≠ r.k := fun e => by rw [e] at h3; simp at h3
        omega
  | float c =>
    simp only [hkd] at hbody
    have h1 := all_zipIdx hloads hr
    simp only [hkd, Bool.and_eq_true] at h1
    obtain ⟨h1, h1d⟩ := h1
    split at h1
    · rename_i t ho
      split at h1
      · rename_i z hz
        have h2 := all_zipIdx h1 hM
        simp only [hfeas, Bool.not_true, Bool.false_or] at h2
        split at h2
        · rename_i ch hch
          have hcells := SV.beqs_eq _ _ h2
          rw [if_pos (by simp [Region.wanted, hbody.1])]
          left
          have hnone : α c = none := by
            cases hac : α c with
            | none => rfl
            | some x =>
              have := (hflt i r c hr hkd).2 (by rw [hac]; simp)
              rw [hunf] at this; cases this
          have hpl := hm.place hch hnone (T := t) (vs := z) (by rw [hcells]; exact ofCells_ok z)
          have hrun : (execOp a.eval r.o).run P w = .ok (.value (.pointer (some ⟨w.heap.size, 0, none⟩))) (w.alloc (.cells z.toArray t)) := by
            exact alloc_run ho hz
          simp only [Oper.wp, hrun, Oper.upon]
          have hc0 : n0 ≤ c := by have := hdf.flo i r c hr hkd; omega
          refine next k _ M _ _ hM hpl (Adr.le_put hnone) (fun c' hc' => by unfold Adr.put; rw [if_neg (by omega)]; exact h0 c' hc') (keepc (by simp [hkd])) ?_ ?_
          · intro j r' c' hj hc'
            by_cases hij : i = j
            · subst hij; rw [hr] at hj; cases hj
              rw [hkd] at hc'
              cases hc'
              exact ⟨fun _ => by unfold Adr.put; simp, fun _ => getD_set_self' hfr⟩
            · rw [getD_set_ne' _ hij, hflt j r' c' hj hc']
              have h3 := all_zipIdx h1d hj
              simp only [hc', Bool.or_eq_true] at h3
              rcases h3 with h3 | h3
              · exact absurd (Nat.eq_of_beq_eq_true h3) hij
              · have hne : c' ≠ c := fun e => by rw [e] at h3; simp at h3
                unfold Adr.put
                rw [if_neg hne]
          · rw [hbody.2]
            simp only [VRel]
            exact ⟨w.heap.size, 0, by unfold Adr.put; simp, by simp⟩
        · cases h2
      · cases h1
    · cases h1

/-! ### the whole region -/
def unl (listed : Array Bool) : Nat → Nat
  | 0 => 0
  | n + 1 => unl listed n + (if listed.getD n false = true then 0 else 1)
theorem unl_le (listed : Array Bool) : ∀ n, unl listed n ≤ n
  | 0 => Nat.le_refl _
  | n + 1 => by have := unl_le listed n; simp only [unl]; split <;> omega
theorem unl_same {listed : Array Bool} {i : Nat} : ∀ n, n ≤ i → unl (listed.setIfInBounds i true) n = unl listed n
  | 0, _ => rfl
  | n + 1, h => by simp only [unl, unl_same (listed := listed) (i := i) n (by omega), getD_set_ne' false (show i ≠ n by omega)]
theorem unl_set {listed : Array Bool} {i : Nat} (hs : i < listed.size) (hu : listed.getD i false = false) : ∀ n, i < n → unl (listed.setIfInBounds i true) n + 1 = unl listed n
  | 0, h => by omega
  | n + 1, h => by
    simp only [unl]
    by_cases hin : i = n
    · subst hin
      rw [unl_same i (Nat.le_refl _), getD_set_self' hs, hu]
      simp
    · rw [getD_set_ne' false hin, ← unl_set hs hu n (by omega)]
      omega
theorem unl_zero {listed : Array Bool} : ∀ n, unl listed n = 0 → ∀ j, j < n → listed.getD j false = true
  | 0, _, j, hj => by omega
  | n + 1, h, j, hj => by
    simp only [unl] at h
    split at h
    · rename_i hl
      rcases Nat.lt_or_ge j n with h1 | h1
      · exact unl_zero n (by omega) j h1
      · have : j = n := by omega
        subst this; exact hl
    · omega
/-- Where nothing is ready, everything is done. -/
theorem ready_nil (he : edgesB ops = true) {listed : Array Bool} (hsz : listed.size = ops.length) (h : Region.ready .any ops.toArray listed = []) : ∀ (n j : Nat), j < n → j < ops.length → listed.getD j false = true
  | 0, j, hj, _ => by omega
  | n + 1, j, hj, hl => by
    cases hlj : listed.getD j false with
    | true => rfl
    | false =>
      have hoj : ops[j]? = some ops[j] := by simp [hl]
      have : j ∈ Region.ready .any ops.toArray listed := by
        refine mem_ready.2 ⟨?_, ops[j], by simp, fun e hem hb => ?_⟩
        · have : j < listed.size := by omega
          simp [this] at hlj ⊢; exact hlj
        · have h1 := all_zipIdx he hoj
          have h2 := List.all_eq_true.1 h1 e (by simpa using hem)
          simp only [hb, Bool.not_true, Bool.false_or] at h2
          have h3 : e.on + 1 ≤ j := by simpa [Nat.blt] using h2
          exact ready_nil he hsz h n e.on (by omega) (by omega)
      rw [h] at this
      cases this
theorem floats_len : ∀ {l : List Oper} {fc : List Chunk}, floats P l = some fc → (∀ fl k tm ms (rs : List Rec) cm tm' ms' nt, drun P R ops nt l fl k tm ms = some (rs, cm, tm', ms') → ∀ (i : Nat) r c, rs[i]? = some r → r.kd = .float c → c < fl + fc.length)
  | [], fc, h => by
    intro fl k tm ms rs cm tm' ms' nt hd i r c hi
    simp only [drun, Option.some.injEq, Prod.mk.injEq] at hd
    rw [← hd.1] at hi
    simp at hi
  | o :: l, fc, h => by
    intro fl k tm ms rs cm tm' ms' nt hd i r c hi hc
    simp only [drun] at hd
    split at hd
    · rename_i r0 hr0
      split at hd
      · split at hd
        · rename_i rs' cm' tm2 ms2 hd'
          simp only [Option.some.injEq, Prod.mk.injEq] at hd
          obtain ⟨rfl, _⟩ := hd
          simp only [floats] at h
          cases hf : floatOf o with
          | some t =>
            simp only [hf] at h
            split at h
            · rename_i z fc' hz hfc'
              simp only [Option.some.injEq] at h
              subst h
              have hkd : r0.kd = .float fl := by
                unfold dstep at hr0
                simp only [hf, Option.some.injEq] at hr0
                rw [← hr0]
              cases i with
              | zero =>
                simp only [List.getElem?_cons_zero, Option.some.injEq] at hi
                subst hi
                rw [hkd] at hc
                cases hc
                simp
              | succ i =>
                rw [hkd] at hd'
                simp only [isFloat, cond_true] at hd'
                have := floats_len hfc' _ _ _ _ _ _ _ _ _ hd' i r c (by simpa using hi) hc
                simp; omega
            · cases h
          | none =>
            simp only [hf] at h
            have hkd : isFloat r0.kd = false := by
              unfold dstep at hr0
              simp only [hf] at hr0
              split at hr0
              · simp only [Option.some.injEq] at hr0; rw [← hr0]; rfl
              · split at hr0
                · split at hr0
                  · simp only [Option.some.injEq] at hr0; rw [← hr0]; rfl
                  · cases hr0
                · split at hr0
                  · simp only [Option.some.injEq] at hr0; rw [← hr0]; rfl
                  · cases hr0
                · split at hr0
                  · simp only [Option.some.injEq] at hr0; rw [← hr0]; rfl
                  · cases hr0
              · cases hr0
            cases i with
            | zero =>
              simp only [List.getElem?_cons_zero, Option.some.injEq] at hi
              subst hi
              rw [hc] at hkd
              simp [isFloat] at hkd
            | succ i =>
              rw [hkd] at hd'
              simp only [cond_false] at hd'
              exact floats_len h _ _ _ _ _ _ _ _ _ hd' i r c (by simpa using hi) hc
        · cases hd
      · cases hd
    · cases hd
theorem MRep.pushes {α : Adr} {w : World} : ∀ {fc M : List Chunk}, MRep ρ S w0 α M w → MRep ρ S w0 α (M ++ fc) w
  | [], M, h => by simpa using h
  | c :: fc, M, h => by
    have := MRep.pushes (fc := fc) (h.push c)
    simpa using this

theorem drawS_ok (hmix : P.follows .mixedOrders = true) (hR : ∀ f r, R f = some r → RuleOk P f r) {nt : Nat} {tm tm' : Tm} {ms ms' : Ms} (h : drawS P R nt ops tm ms = some (tm', ms')) (hs : Sat ρ ms'.tr) :
    Grows ρ ms ms' ∧ ∀ (S : Nat → Nat → Prop) (w0 : World) (α : Adr) (a : Act) (w : World) (id : Nat) (Q : Exit → Act → World → Prop), SRep ρ S w0 α nt tm ms a w →
      (∀ α' a' w', Ext ms.mem.length α α' → SRep ρ S w0 α' nt tm' ms' a' w' → Q .normal a' w') → (Code.region id ops.toArray true).wp P Q a w := by
  unfold drawS at h
  split at h
  · cases h
  · rename_i fc hfc
    split at h
    · cases h
    · rename_i recs cm tm2 ms2 hd
      split at h
      · rename_i hchk
        simp only [Option.some.injEq, Prod.mk.injEq] at h
        obtain ⟨rfl, rfl⟩ := h
        simp only [Bool.and_eq_true] at hchk
        obtain ⟨⟨⟨hedges, htmps⟩, hchains⟩, hloads⟩ := hchk
        have hdf := drun_ok hR hd hs
        have hfl : ∀ (j : Nat) r c, recs[j]? = some r → r.kd = .float c → c < (ms.mem ++ fc).length := by
          intro j r c hj hc
          have := floats_len hfc _ _ _ _ _ _ _ _ _ hd j r c hj hc
          simpa using this
        refine ⟨⟨hdf.grows.sat, hdf.grows.gl, by have := hdf.grows.len; simp at this; omega⟩, fun S w0 α a w id Q hr hQ => ?_⟩
        refine wp_region_any hmix ?_
        have fin : ∀ listed a' w', DInv ρ S w0 ops nt tm ms.gl recs ((ms.mem ++ fc) :: cm) ms.mem.length α listed a' w' → (∀ j, j < ops.length → listed.getD j false = true) → Q .normal a' w' := by
          intro listed a' w' hI hall
          obtain ⟨k, α', M, hM, hm, hg, h0, hchn, hflt, hsz, hdf0, hwr, hini⟩ := hI.st
          have hk : k = cm.length := by
            have h1 : k < ((ms.mem ++ fc) :: cm).length := (List.getElem?_eq_some_iff.1 hM).1
            simp only [List.length_cons] at h1
            rcases Nat.eq_zero_or_pos cm.length with h2 | h2
            · omega
            · obtain ⟨i, r, hi, hc, hrk⟩ := hdf.surj (cm.length - 1) (by omega)
              have hil : i < ops.length := by rw [← hdf.len]; exact (List.getElem?_eq_some_iff.1 hi).1
              have := (hchn i r hi hc).1 (hall i hil)
              omega
          subst hk
          have hMe : M = ms2.mem := by
            have := hdf.last
            rw [hM] at this
            exact Option.some.inj this
          subst hMe
          have hgl : ms2.gl = ms.gl := hdf.grows.gl
          refine hQ α' a' w' (fun c hc => h0 c hc) ⟨hm, by rw [hgl]; exact hg, hsz, hdf0, fun t s ht => ?_⟩
          rcases hdf.tmf t s ht with ⟨j, r, hj, hrj, hdst, rfl⟩ | ⟨h1, h2⟩
          · exact hwr j r t hrj hdst (hall j (by rw [← hdf.len]; exact hj))
          · refine hini t s h1 fun j r hj hdst => ?_
            exact absurd hdst (h2 j r (List.getElem?_eq_some_iff.1 hj).1 hj)
        have main : ∀ fuel listed a' w', unl listed ops.length ≤ fuel → DInv ρ S w0 ops nt tm ms.gl recs ((ms.mem ++ fc) :: cm) ms.mem.length α listed a' w' → wpAny P .any ops.toArray Q fuel listed a' w' := by
          intro fuel
          induction fuel with
          | zero =>
            intro listed a' w' hu hI
            have hall := unl_zero (listed := listed) ops.length (by omega)
            refine ⟨?_, fin listed a' w' hI hall⟩
            cases hrd : Region.ready .any ops.toArray listed with
            | nil => rfl
            | cons i l =>
              have hi : i ∈ Region.ready .any ops.toArray listed := by rw [hrd]; simp
              obtain ⟨hun, oi, hoi, _⟩ := mem_ready.1 hi
              have hil : i < ops.length := by
                have : ops[i]? = some oi := by simpa using hoi
                exact (List.getElem?_eq_some_iff.1 this).1
              have := hall i hil
              rw [getD_both' hun] at this
              cases this
          | succ fuel ih =>
            intro listed a' w' hu hI
            refine ⟨fun hrd => fin listed a' w' hI fun j hj => ready_nil hedges hI.sz hrd (j + 1) j (by omega) hj, fun i hi => ?_⟩
            obtain ⟨hun, oi, hoi, _⟩ := mem_ready.1 hi
            have hil : i < ops.length := by
              have : ops[i]? = some oi := by simpa using hoi
              exact (List.getElem?_eq_some_iff.1 this).1
            have hstep := draw_step (Q := Q) hR (Nat.le_refl _) hdf htmps hchains hloads hfl (by simp) hI hi
            refine wpOp_mono (fun a2 w2 h2 => ih _ a2 w2 ?_ h2) hstep
            have := unl_set (show i < listed.size by rw [hI.sz]; exact hil) (getD_both' hun) ops.length hil
            omega
        have hsize : ops.toArray.size = ops.length := by simp
        rw [hsize]
        refine main _ _ _ _ (unl_le _ _) ⟨by simp, ?_, 0, α, ms.mem ++ fc, by simp, (MRep.pushes hr.mem).drew, hr.gl, fun _ _ => rfl, ?_, ?_, hr.tm.size, hr.tm.defers, ?_, ?_⟩
        · intro j oj hj hl
          rw [getD_replicate_false'] at hl
          cases hl
        · intro j r hj hc
          rw [getD_replicate_false']
          exact ⟨fun h => (by cases h), fun h => (by omega)⟩
        · intro j r c hj hc
          rw [getD_replicate_false']
          refine ⟨fun h => (by cases h), fun h => ?_⟩
          exact absurd (hr.mem.out c (hdf.flo j r c hj hc)) h
        · intro j r d hj hd' hl
          rw [getD_replicate_false'] at hl
          cases hl
        · intro d s hds _
          exact hr.tm.get d s hds
      · cases h
end
end Go.Proofs.YtpaidbefbkokfaaDoor
