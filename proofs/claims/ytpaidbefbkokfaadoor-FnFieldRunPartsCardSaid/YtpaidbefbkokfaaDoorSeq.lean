/- Temporaries over symbols; a region whose order is fixed, walked. No condition. -/
import Derived.Test.YtpaidbefbkokfaaDoorEff
namespace Go.Proofs.YtpaidbefbkokfaaDoor
open Go Go.RowKit
set_option linter.unusedVariables false
set_option linter.unusedSimpArgs false

inductive Tm where
  | nil
  | node (l : Tm) (v : Option SV) (r : Tm)
  deriving Repr, Inhabited
def Tm.get : Tm → Nat → Option SV
  | .nil, _ => none
  | .node l v r, n => bif n.beq 0 then v else bif (n % 2).beq 1 then l.get (n / 2) else r.get (n / 2 - 1)
def Tm.set : Tm → Nat → SV → Tm
  | .nil, _, _ => .nil
  | .node l v r, n, s => bif n.beq 0 then .node l (some s) r else bif (n % 2).beq 1 then .node (l.set (n / 2) s) v r else .node l v (r.set (n / 2 - 1) s)
def Tm.full : Nat → Tm
  | 0 => .nil
  | d + 1 => .node (full d) none (full d)
theorem Tm.get_full : ∀ (d n : Nat), (Tm.full d).get n = none
  | 0, n => rfl
  | d + 1, n => by
    simp only [Tm.full, Tm.get]
    cases n.beq 0 <;> cases (n % 2).beq 1 <;> simp only [cond_true, cond_false, Tm.get_full]
theorem Tm.get_set : ∀ (t : Tm) (n m : Nat) (s x : SV), (t.set n s).get m = some x → (m = n ∧ x = s) ∨ (m ≠ n ∧ t.get m = some x)
  | .nil, n, m, s, x, h => by simp [Tm.set, Tm.get] at h
  | .node l v r, n, m, s, x, h => by
    simp only [Tm.set] at h
    cases hn : n.beq 0 with
    | true =>
      have n0 : n = 0 := Nat.eq_of_beq_eq_true hn
      simp only [hn, cond_true, Tm.get] at h
      cases hm : m.beq 0 with
      | true =>
        simp only [hm, cond_true, Option.some.injEq] at h
        exact .inl ⟨by have := Nat.eq_of_beq_eq_true hm; omega, h.symm⟩
      | false =>
        right
        refine ⟨fun e => by rw [e, hn] at hm; simp at hm, ?_⟩
        simpa only [hm, cond_false, Tm.get] using h
    | false =>
      have n0 : n ≠ 0 := fun e => by subst e; simp at hn
      simp only [hn, cond_false] at h
      cases hp : (n % 2).beq 1 with
      | true =>
        have n1 : n % 2 = 1 := Nat.eq_of_beq_eq_true hp
        simp only [hp, cond_true, Tm.get] at h
        cases hm : m.beq 0 with
        | true =>
          have m0 : m = 0 := Nat.eq_of_beq_eq_true hm
          right
          exact ⟨by omega, by simpa only [hm, cond_true, Tm.get] using h⟩
        | false =>
          have m0 : m ≠ 0 := fun e => by subst e; simp at hm
          cases hq : (m % 2).beq 1 with
          | true =>
            have m1 : m % 2 = 1 := Nat.eq_of_beq_eq_true hq
            simp only [hm, cond_false, hq, cond_true] at h
            rcases Tm.get_set l (n / 2) (m / 2) s x h with ⟨e, hx⟩ | ⟨e, hx⟩
            · exact .inl ⟨by omega, hx⟩
            · exact .inr ⟨by omega, by simpa only [Tm.get, hm, cond_false, hq, cond_true] using hx⟩
          | false =>
            have m1 : m % 2 ≠ 1 := fun e => by rw [e] at hq; simp at hq
            simp only [hm, cond_false, hq] at h
            exact .inr ⟨by omega, by simpa only [Tm.get, hm, cond_false, hq] using h⟩
      | false =>
        have n1 : n % 2 ≠ 1 := fun e => by rw [e] at hp; simp at hp
        simp only [hp, cond_false, Tm.get] at h
        cases hm : m.beq 0 with
        | true =>
          have m0 : m = 0 := Nat.eq_of_beq_eq_true hm
          right
          exact ⟨by omega, by simpa only [hm, cond_true, Tm.get] using h⟩
        | false =>
          have m0 : m ≠ 0 := fun e => by subst e; simp at hm
          cases hq : (m % 2).beq 1 with
          | true =>
            have m1 : m % 2 = 1 := Nat.eq_of_beq_eq_true hq
            simp only [hm, cond_false, hq, cond_true] at h
            exact .inr ⟨by omega, by simpa only [Tm.get, hm, cond_false, hq, cond_true] using h⟩
          | false =>
            have m1 : m % 2 ≠ 1 := fun e => by rw [e] at hq; simp at hq
            simp only [hm, cond_false, hq] at h
            rcases Tm.get_set r (n / 2 - 1) (m / 2 - 1) s x h with ⟨e, hx⟩ | ⟨e, hx⟩
            · exact .inl ⟨by omega, hx⟩
            · exact .inr ⟨by omega, by simpa only [Tm.get, hm, cond_false, hq] using hx⟩

def glo : List (Nat × Nat) → Nat → Option Nat
  | [], _ => none
  | (g, c) :: l, n => bif Nat.beq g n then some c else glo l n
theorem glo_mem : ∀ {l : List (Nat × Nat)} {n c : Nat}, glo l n = some c → (n, c) ∈ l
  | [], n, c, h => by simp [glo] at h
  | (g, d) :: l, n, c, h => by
    simp only [glo] at h
    cases hg : Nat.beq g n with
    | true =>
      have : g = n := Nat.eq_of_beq_eq_true hg
      simp only [hg, cond_true, Option.some.injEq] at h
      subst this h; simp
    | false => simp only [hg, cond_false] at h; exact List.mem_cons_of_mem _ (glo_mem h)
def evT (gl : List (Nat × Nat)) (tm : Tm) : Operand → Option SV
  | .tmp t => tm.get t
  | .const v => some (ofValue v)
  | .global g => match glo gl g with
    | some c => some (.ptr c 0)
    | none => none
  | .func _ => none

structure TRep (ρ : Env) (α : Adr) (nt : Nat) (tm : Tm) (a : Act) : Prop where
  size : a.tmps.size = nt
  defers : a.defers = []
  get : ∀ t s, tm.get t = some s → VRel ρ α s (a.tmps.getD t undef)
section
variable {ρ : Env} {α : Adr} {P : Program} {nt : Nat} {tm : Tm} {a : Act}
theorem TRep.le (h : TRep ρ α nt tm a) {α' : Adr} (hl : Le α α') : TRep ρ α' nt tm a := ⟨h.size, h.defers, fun t s ht => VRel.le hl _ (h.get t s ht)⟩
theorem TRep.put (h : TRep ρ α nt tm a) {d : Nat} (hd : d < nt) {s : SV} {v : Value} (hv : VRel ρ α s v) : TRep ρ α nt (tm.set d s) (a.put (some d) v) := by
  refine ⟨by simp [Act.put, h.size], by simpa [Act.put] using h.defers, fun t x ht => ?_⟩
  rcases Tm.get_set tm d t s x ht with ⟨rfl, rfl⟩ | ⟨hne, hx⟩
  · simp only [Act.put, Array.getD_eq_getD_getElem?]
    rw [Array.getElem?_setIfInBounds_self_of_lt (by rw [h.size]; exact hd)]
    exact hv
  · simp only [Act.put, Array.getD_eq_getD_getElem?]
    rw [Array.getElem?_setIfInBounds_ne (Ne.symm hne), ← Array.getD_eq_getD_getElem?]
    exact h.get t x hx
theorem evT_ok {gl : List (Nat × Nat)} (h : TRep ρ α nt tm a) (hg : GRep gl α) : ∀ x s, evT gl tm x = some s → VRel ρ α s (a.eval x) := by
  intro x s hx
  cases x with
  | tmp t => exact h.get t s hx
  | const v => simp only [evT, Option.some.injEq] at hx; subst hx; exact ofValue_ok v
  | global g =>
    simp only [evT] at hx
    split at hx
    · rename_i c hc
      simp only [Option.some.injEq] at hx
      subst hx
      simp only [VRel]
      exact ⟨g, 0, hg g c (glo_mem hc), rfl⟩
    · cases hx
  | func f => cases hx

/-! ### one operation -/
def putS (nt : Nat) (tm : Tm) (dst : Option Nat) (s : SV) : Option Tm :=
  match dst with
  | none => some tm
  | some d => bif Nat.blt d nt then some (tm.set d s) else none
theorem putS_ok (h : TRep ρ α nt tm a) {dst : Option Nat} {s : SV} {tm' : Tm} (hp : putS nt tm dst s = some tm') {v : Value} (hv : VRel ρ α s v) : TRep ρ α nt tm' (a.put dst v) := by
  cases dst with
  | none => simp only [putS, Option.some.injEq] at hp; subst hp; exact h
  | some d =>
    simp only [putS] at hp
    cases hb : Nat.blt d nt with
    | true =>
      simp only [hb, cond_true, Option.some.injEq] at hp
      subst hp
      have hd : d + 1 ≤ nt := by simpa [Nat.blt] using hb
      exact h.put hd hv
    | false => simp [hb] at hp
inductive Knd where
  | pure | load | eff
  deriving DecidableEq, Repr
def kindOf : Op → Knd
  | .load .. => .load
  | .alloc _ | .box .. | .store .. | .buildSlice .. => .eff
  | .call c => match c.callee with
    | .value _ | .builtin .copy | .builtin .append => .eff
    | _ => .pure
  | _ => .pure
def opS (P : Program) (R : FuncId → Option Rule) (ms : Ms) (ev : Operand → Option SV) (op : Op) : Option (SV × Ms) :=
  match kindOf op with
  | .pure => match spure P (knOf ms.tr) ms.ni ms.nb ev op with
    | some (s, es, ni, nb) => some (s, { ms with tr := es ++ ms.tr, ni := ni, nb := nb })
    | none => none
  | .load => match sload P ms.mem ev op with
    | some s => some (s, ms)
    | none => none
  | .eff => seff P R ms ev op
theorem sat_app {es l : List Ent} : Sat ρ (es ++ l) ↔ Sat ρ es ∧ Sat ρ l := by
  induction es with
  | nil => simp [Sat]
  | cons e es ih => simp only [List.cons_append, Sat, ih, and_assoc]
theorem opS_ok {R : FuncId → Option Rule} (hR : ∀ f r, R f = some r → RuleOk P f r) {ms ms' : Ms} {ev : Operand → Option SV} {o : Oper} {r : SV} (h : opS P R ms ev o.op = some (r, ms')) (hs : Sat ρ ms'.tr) :
    Grows ρ ms ms' ∧ ∀ (S : Nat → Nat → Prop) (w0 : World) (α : Adr) (a : Act) (w : World), MRep ρ S w0 α ms.mem w → GRep ms.gl α → (∀ x s, ev x = some s → VRel ρ α s (a.eval x)) →
      ∀ (K : Act → World → Prop) (Q : Exit → Act → World → Prop), (∀ α' v w', Ext ms.mem.length α α' → VRel ρ α' r v → MRep ρ S w0 α' ms'.mem w' → K (a.put o.dst v) w') → o.wp P a w K Q := by
  unfold opS at h
  split at h
  · split at h
    · rename_i s es ni nb hsp
      simp only [Option.some.injEq, Prod.mk.injEq] at h
      obtain ⟨rfl, rfl⟩ := h
      simp only [sat_app] at hs
      refine ⟨⟨hs.2, rfl, Nat.le_refl _⟩, fun S w0 α a w hm hg he K Q hK => ?_⟩
      obtain ⟨v, hv, hr⟩ := spure_ok (w := w) hsp hs.1 (kn_ok hs.2) he
      simp only [Oper.wp, hv, Oper.upon]
      exact hK α v w (Ext.refl _ _) hr hm
    · cases h
  · split at h
    · rename_i s hsp
      simp only [Option.some.injEq, Prod.mk.injEq] at h
      obtain ⟨rfl, rfl⟩ := h
      refine ⟨⟨hs, rfl, Nat.le_refl _⟩, fun S w0 α a w hm hg he K Q hK => ?_⟩
      obtain ⟨v, hv, hr⟩ := sload_ok hm hsp he
      simp only [Oper.wp, hv, Oper.upon]
      exact hK α v w (Ext.refl _ _) hr hm
    · cases h
  · exact seff_ok hR h hs

/-- Whether a guard lets an operation by. -/
def wantS (ops : List Oper) (tm : Tm) (ms : Ms) (o : Oper) : Option (Bool × Ms) :=
  match o.guard with
  | none => some (true, ms)
  | some (j, want) => match ops[j]? with
    | some oj => match oj.dst with
      | some d => match tm.get d with
        | some (.bool s) => match s.known (knOf ms.tr) with
          | some b => some (b == want, ms)
          | none => match ms.orc with
            | x :: rest => some (x == want, { ms with orc := rest, tr := .asm s x :: ms.tr })
            | [] => none
        | some .undef => some (false, ms)
        | _ => none
      | none => none
    | none => none
theorem yielded_get {ops : List Oper} {j d : Nat} {oj : Oper} {tmps : Array Value} (hj : ops[j]? = some oj) (hd : oj.dst = some d) : yielded ops.toArray tmps j = match tmps[d]? with
    | some (.bool b) => some b
    | _ => none := by
  simp only [yielded, List.getElem?_toArray, hj, Option.bind_some, hd]
  rfl
theorem wantS_ok {ops : List Oper} {ms ms' : Ms} {o : Oper} {b : Bool} (h : wantS ops tm ms o = some (b, ms')) (hs : Sat ρ ms'.tr) :
    Grows ρ ms ms' ∧ ms'.mem = ms.mem ∧ ∀ (α : Adr) (a : Act), (∀ t s, o.guard ≠ none → t ∈ (o.looksAt ops.toArray) → tm.get t = some s → VRel ρ α s (a.tmps.getD t undef)) → Region.wanted o (yielded ops.toArray a.tmps) = b := by
  unfold wantS at h
  split at h
  · rename_i hgu
    simp only [Option.some.injEq, Prod.mk.injEq] at h
    obtain ⟨rfl, rfl⟩ := h
    exact ⟨⟨hs, rfl, Nat.le_refl _⟩, rfl, fun α a _ => by simp [Region.wanted, hgu]⟩
  · rename_i j want hgu
    split at h
    · rename_i oj hj
      split at h
      · rename_i d hd
        have hlook : d ∈ o.looksAt ops.toArray := by
          unfold Oper.looksAt
          simp [hgu, hj, hd]
        split at h
        · rename_i s hg
          have key : ∀ (α : Adr) (a : Act), (∀ t s, o.guard ≠ none → t ∈ (o.looksAt ops.toArray) → tm.get t = some s → VRel ρ α s (a.tmps.getD t undef)) → yielded ops.toArray a.tmps j = some (s.val ρ) := by
            intro α a ht
            have h1 := ht d _ (by simp [hgu]) hlook hg
            simp only [VRel] at h1
            rw [yielded_get hj hd]
            cases hx : a.tmps[d]? with
            | none => rw [Array.getD_eq_getD_getElem?, hx] at h1; simp [undef] at h1
            | some u => rw [Array.getD_eq_getD_getElem?, hx] at h1; simp only [Option.getD_some] at h1; rw [h1]
          split at h
          · rename_i b' hb
            simp only [Option.some.injEq, Prod.mk.injEq] at h
            obtain ⟨rfl, rfl⟩ := h
            refine ⟨⟨hs, rfl, Nat.le_refl _⟩, rfl, fun α a ht => ?_⟩
            simp only [Region.wanted, hgu, key α a ht, known_ok (kn_ok hs) hb]
            cases b' <;> cases want <;> rfl
          · split at h
            · rename_i x rest ho
              simp only [Option.some.injEq, Prod.mk.injEq] at h
              obtain ⟨rfl, rfl⟩ := h
              refine ⟨⟨hs.2, rfl, Nat.le_refl _⟩, rfl, fun α a ht => ?_⟩
              have h1 : s.val ρ = x := hs.1
              simp only [Region.wanted, hgu, key α a ht, h1]
              cases x <;> cases want <;> rfl
            · cases h
        · rename_i hg
          simp only [Option.some.injEq, Prod.mk.injEq] at h
          obtain ⟨rfl, rfl⟩ := h
          refine ⟨⟨hs, rfl, Nat.le_refl _⟩, rfl, fun α a ht => ?_⟩
          have h1 := ht d _ (by simp [hgu]) hlook hg
          simp only [VRel] at h1
          simp only [Region.wanted, hgu]
          rw [yielded_get hj hd]
          cases hx : a.tmps[d]? with
          | none => simp
          | some u => rw [Array.getD_eq_getD_getElem?, hx] at h1; simp only [Option.getD_some] at h1; rw [h1]; simp [undef]
        · cases h
      · cases h
    · cases h

def stepS (P : Program) (R : FuncId → Option Rule) (ops : List Oper) (nt : Nat) (tm : Tm) (ms : Ms) (o : Oper) : Option (Tm × Ms) :=
  match wantS ops tm ms o with
  | some (true, ms1) => match opS P R ms1 (evT ms1.gl tm) o.op with
    | some (s, ms2) => match putS nt tm o.dst s with
      | some tm' => some (tm', ms2)
      | none => none
    | none => none
  | some (false, ms1) => match putS nt tm o.dst .undef with
    | some tm' => some (tm', ms1)
    | none => none
  | none => none
def seqS (P : Program) (R : FuncId → Option Rule) (ops : List Oper) (nt : Nat) : List Oper → Tm → Ms → Option (Tm × Ms)
  | [], tm, ms => some (tm, ms)
  | o :: l, tm, ms => match stepS P R ops nt tm ms o with
    | some (tm', ms') => seqS P R ops nt l tm' ms'
    | none => none
structure SRep (ρ : Env) (S : Nat → Nat → Prop) (w0 : World) (α : Adr) (nt : Nat) (tm : Tm) (ms : Ms) (a : Act) (w : World) : Prop where
  mem : MRep ρ S w0 α ms.mem w
  gl : GRep ms.gl α
  tm : TRep ρ α nt tm a
theorem seqS_ok {R : FuncId → Option Rule} (hR : ∀ f r, R f = some r → RuleOk P f r) {ops : List Oper} : ∀ {l : List Oper} {tm tm' : Tm} {ms ms' : Ms}, seqS P R ops nt l tm ms = some (tm', ms') → Sat ρ ms'.tr →
    Grows ρ ms ms' ∧ ∀ (S : Nat → Nat → Prop) (w0 : World) (α : Adr) (a : Act) (w : World) (Q : Exit → Act → World → Prop), SRep ρ S w0 α nt tm ms a w →
      (∀ α' a' w', Ext ms.mem.length α α' → SRep ρ S w0 α' nt tm' ms' a' w' → Q .normal a' w') → wpList P ops.toArray Q l a w
  | [], tm, tm', ms, ms', h, hs => by
    simp only [seqS, Option.some.injEq, Prod.mk.injEq] at h
    obtain ⟨rfl, rfl⟩ := h
    exact ⟨⟨hs, rfl, Nat.le_refl _⟩, fun S w0 α a w Q hr hQ => hQ α a w (Ext.refl _ _) hr⟩
  | o :: l, tm, tm', ms, ms', h, hs => by
    simp only [seqS] at h
    split at h
    · rename_i tm1 ms1 h1
      obtain ⟨g2, k2⟩ := seqS_ok hR h hs
      unfold stepS at h1
      split at h1
      · rename_i msw hw
        split at h1
        · rename_i s mso ho
          split at h1
          · rename_i tmp hp
            simp only [Option.some.injEq, Prod.mk.injEq] at h1
            obtain ⟨rfl, rfl⟩ := h1
            obtain ⟨go, ko⟩ := opS_ok hR ho g2.sat
            obtain ⟨gw, em, kw⟩ := wantS_ok hw go.sat
            refine ⟨(gw.trans go).trans g2, fun S w0 α a w Q hr hQ => ?_⟩
            simp only [wpList]
            rw [if_pos (kw α a fun t s _ _ ht => hr.tm.get t s ht)]
            left
            have hg' : GRep msw.gl α := by rw [gw.gl]; exact hr.gl
            refine ko S w0 α a w (by rw [em]; exact hr.mem) hg' (evT_ok hr.tm hg') _ _ fun α' v w' hext hv hm' => ?_
            rw [em] at hext
            have hle := hr.mem.le hext
            refine k2 S w0 α' _ w' Q ⟨hm', by rw [go.gl]; exact hg'.le hle, putS_ok (hr.tm.le hle) hp hv⟩ fun α'' a'' w'' hext' hr'' => ?_
            exact hQ α'' a'' w'' (hext.trans hext' (by have := go.len; rw [em] at this; exact this)) hr''
          · cases h1
        · cases h1
      · rename_i msw hw
        split at h1
        · rename_i tmp hp
          simp only [Option.some.injEq, Prod.mk.injEq] at h1
          obtain ⟨rfl, rfl⟩ := h1
          obtain ⟨gw, em, kw⟩ := wantS_ok hw g2.sat
          refine ⟨gw.trans g2, fun S w0 α a w Q hr hQ => ?_⟩
          simp only [wpList]
          rw [if_neg (by rw [kw α a fun t s _ _ ht => hr.tm.get t s ht]; simp)]
          refine k2 S w0 α _ w Q ⟨by rw [em]; exact hr.mem, by rw [gw.gl]; exact hr.gl, putS_ok hr.tm hp (by simp only [VRel])⟩ fun α'' a'' w'' hext' hr'' => ?_
          rw [em] at hext'
          exact hQ α'' a'' w'' hext' hr''
        · cases h1
      · cases h1
    · cases h
end
end Go.Proofs.YtpaidbefbkokfaaDoor
