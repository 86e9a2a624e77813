/- Pieces that end at a loop's head or in a return, as the kernel reckons them. No condition. -/
import Derived.Test.YtpaidbefbkokfaaDoorPiece
namespace Go.Proofs.YtpaidbefbkokfaaDoor
open Go Go.RowKit
set_option linter.unusedVariables false
set_option linter.unusedSimpArgs false

/-- Temporaries that hold the named values. -/
def tmS (d : Nat) : List (Nat × SV) → Tm
  | [] => Tm.full d
  | (n, s) :: l => (tmS d l).set n s
def lowMs (ms : Ms) (tm : Tm) : Bool := ms.mem.all (fun c => SV.lows ms.cn c.cells) && tm.all (SV.low ms.cn)
/-- A run from a state to a state that is told anew: how it ends, its trace, what is to be shown. -/
def runTo (P : Program) (R : FuncId → Option Rule) (nt : Nat) (l : List Code) (tm : Tm) (ms : Ms) (tH : Tm) (mH : Ms) : Option (SE × List Ent × List Ob) :=
  match sexecL P R nt 100000 l tm ms with
  | some (e, tm', ms') => match genS tH mH tm' ms' with
    | some obs => bif wfT ms.cn ms'.tr.reverse && lowMs ms tm then some (e, ms'.tr, obs) else none
    | none => none
  | none => none
/-- A run from a state to a function's end: the results, the trace, the memory. -/
def runRet (P : Program) (R : FuncId → Option Rule) (nt : Nat) (f : FuncId) (l : List Code) (tm : Tm) (ms : Ms) : Option (List SV × List Ent × List Chunk) :=
  match sexecL P R nt 100000 l tm ms with
  | some (.exit _, _, _) => none
  | some (_, tm', ms') => match sresL P tm' ms'.mem (fnRes P f) with
    | some rs => bif wfT ms.cn ms'.tr.reverse && lowMs ms tm then some (rs, ms'.tr, ms'.mem) else none
    | none => none
  | none => none
/-- The same, where it ends in a return. -/
def runRt (P : Program) (R : FuncId → Option Rule) (nt : Nat) (f : FuncId) (l : List Code) (tm : Tm) (ms : Ms) : Option (List SV × List Ent × List Chunk) :=
  match sexecL P R nt 100000 l tm ms with
  | some (.ret, tm', ms') => match sresL P tm' ms'.mem (fnRes P f) with
    | some rs => bif wfT ms.cn ms'.tr.reverse && lowMs ms tm then some (rs, ms'.tr, ms'.mem) else none
    | none => none
  | _ => none
section
variable {ρ : Env} {P : Program} {R : FuncId → Option Rule} {nt : Nat} {α : Adr} {S : Nat → Nat → Prop} {w0 : World}
theorem to_head (hmix : P.follows .mixedOrders = true) (hR : ∀ f r, R f = some r → RuleOk P f r) {l : List Code} {tm tH : Tm} {ms mH : Ms} {e : SE} {tr : List Ent} {obs : List Ob} (h : runTo P R nt l tm ms tH mH = some (e, tr, obs)) {a : Act} {w : World} {Q : Exit → Act → World → Prop} {K : Env → Prop}
    (hr : SRep ρ S w0 α nt tm ms a w) (hm : ∀ ρ', Agree ms.cn ρ ρ' → Defs ρ' tr → Asms ρ' tr ∧ ∃ ρH : Env, ρH.v = ρ'.v ∧ Obs ρH ρ' obs ∧ K ρH)
    (hQ : ∀ ρH α' a' w', K ρH → (∀ c, c < ms.mem.length → c < mH.mem.length → α' c = α c) → SRep ρH S w0 α' nt tH mH a' w' → Q e.toExit a' w') : wps P Q l a w := by
  unfold runTo at h
  split at h
  · rename_i e' tm' ms' h1
    split at h
    · rename_i obs' h2
      cases hb : (wfT ms.cn ms'.tr.reverse && lowMs ms tm) with
      | false => simp [hb] at h
      | true =>
        simp only [hb, cond_true, Option.some.injEq, Prod.mk.injEq] at h
        obtain ⟨rfl, rfl, rfl⟩ := h
        simp only [lowMs, Bool.and_eq_true] at hb
        refine piece hmix hR ⟨h1, hb.1, hb.2.1, hb.2.2⟩ hr (fun ρ' ha hd => (hm ρ' ha hd).1) fun ρ' α' a' w' ha hd he hr' => ?_
        obtain ⟨ρH, hv, ho, hk⟩ := (hm ρ' ha hd).2
        obtain ⟨α'', he', hr''⟩ := retell hr' h2 ho hv
        exact hQ ρH α'' a' w' hk (fun c h3 h4 => (he' c h4).trans (he c h3)) hr''
    · cases h
  · cases h
theorem to_ret (hmix : P.follows .mixedOrders = true) (hR : ∀ f r, R f = some r → RuleOk P f r) {f : FuncId} {l : List Code} {tm : Tm} {ms : Ms} {rs : List SV} {tr : List Ent} {mem : List Chunk} (h : runRet P R nt f l tm ms = some (rs, tr, mem)) {a : Act} {w : World} {Post : Value → World → Prop}
    (hr : SRep ρ S w0 α nt tm ms a w) (hm : ∀ ρ', Agree ms.cn ρ ρ' → Defs ρ' tr → Asms ρ' tr ∧ ∀ α' w' v, Ext ms.mem.length α α' → VRel ρ' α' (retOf rs) v → MRep ρ' S w0 α' mem w' → Post v w') : wps P (RetQ P f Post) l a w := by
  unfold runRet at h
  split at h
  · cases h
  · rename_i e tm' ms' hne h1
    split at h
    · rename_i rs' h2
      cases hb : (wfT ms.cn ms'.tr.reverse && lowMs ms tm) with
      | false => simp [hb] at h
      | true =>
        simp only [hb, cond_true, Option.some.injEq, Prod.mk.injEq] at h
        obtain ⟨rfl, rfl, rfl⟩ := h
        simp only [lowMs, Bool.and_eq_true] at hb
        refine piece hmix hR ⟨h1, hb.1, hb.2.1, hb.2.2⟩ hr (fun ρ' ha hd => (hm ρ' ha hd).1) fun ρ' α' a' w' ha hd he hr' => ?_
        refine retQ_of hr' ?_ h2 fun v hv => (hm ρ' ha hd).2 α' w' v he hv hr'.mem
        cases e with
        | normal => exact .inl rfl
        | ret => exact .inr rfl
        | exit i => exact absurd rfl (hne i)
    · cases h
  · cases h
/-- The same where the return leaves from within a loop's round. -/
theorem to_retL (hmix : P.follows .mixedOrders = true) (hR : ∀ f r, R f = some r → RuleOk P f r) {f : FuncId} {l : List Code} {tm : Tm} {ms : Ms} {rs : List SV} {tr : List Ent} {mem : List Chunk} (h : runRt P R nt f l tm ms = some (rs, tr, mem)) {a : Act} {w : World} {Post : Value → World → Prop} {Q : Exit → Act → World → Prop}
    (hr : SRep ρ S w0 α nt tm ms a w) (hm : ∀ ρ', Agree ms.cn ρ ρ' → Defs ρ' tr → Asms ρ' tr ∧ ∀ α' w' v, Ext ms.mem.length α α' → VRel ρ' α' (retOf rs) v → MRep ρ' S w0 α' mem w' → Post v w') (hQ : ∀ a' w', RetQ P f Post .ret a' w' → Q .ret a' w') : wps P Q l a w := by
  unfold runRt at h
  split at h
  · rename_i tm' ms' h1
    split at h
    · rename_i rs' h2
      cases hb : (wfT ms.cn ms'.tr.reverse && lowMs ms tm) with
      | false => simp [hb] at h
      | true =>
        simp only [hb, cond_true, Option.some.injEq, Prod.mk.injEq] at h
        obtain ⟨rfl, rfl, rfl⟩ := h
        simp only [lowMs, Bool.and_eq_true] at hb
        refine piece hmix hR ⟨h1, hb.1, hb.2.1, hb.2.2⟩ hr (fun ρ' ha hd => (hm ρ' ha hd).1) fun ρ' α' a' w' ha hd he hr' => ?_
        exact hQ a' w' (retQ_of (e := .ret) hr' (.inr rfl) h2 fun v hv => (hm ρ' ha hd).2 α' w' v he hv hr'.mem)
    · cases h
  · cases h
theorem SRep.orc {tm : Tm} {ms ms' : Ms} {a : Act} {w : World} (h : SRep ρ S w0 α nt tm ms a w) (h1 : ms'.mem = ms.mem) (h2 : ms'.gl = ms.gl) : SRep ρ S w0 α nt tm ms' a w := ⟨by rw [h1]; exact h.mem, by rw [h2]; exact h.gl, h.tm⟩
theorem wps_mono {Q Q' : Exit → Act → World → Prop} : ∀ {l : List Code} {a : Act} {w : World}, wps P Q l a w → (∀ e a w, Q e a w → Q' e a w) → wps P Q' l a w
  | [], a, w, h, hq => hq _ _ _ h
  | c :: l, a, w, h, hq => Code.wp_mono (then_mono (fun a' w' h' => wps_mono h' hq) fun e a' w' _ h' => hq e a' w' h') h
/-- The parts of a function with a loop. -/
def prL (P : Program) (f : FuncId) : List Code := cutB (flat (fnBody P f))
def idL (P : Program) (f : FuncId) : Nat := cutI (flat (fnBody P f))
def lpL (P : Program) (f : FuncId) : Code := unloop (cutC (flat (fnBody P f)))
def poL (P : Program) (f : FuncId) : List Code := cutA (flat (fnBody P f))
def loopOk (P : Program) (f : FuncId) : Bool := cutOk (flat (fnBody P f)) && isLoop (cutC (flat (fnBody P f)))
theorem fn_loop {f : FuncId} (hok : loopOk P f = true) {Q : Exit → Act → World → Prop} {a : Act} {w : World} (h : wps P (Exit.then (wps P Q (.block (idL P f) (.loop (lpL P f)) :: poL P f)) Q) (prL P f) a w) : wps P Q (flat (fnBody P f)) a w := by
  simp only [loopOk, Bool.and_eq_true] at hok
  rw [cut_eq hok.1, unloop_eq hok.2]
  exact wps_app _ _ h
/-- How a run of a list ends, when it ends in an exit that is not normal. -/
def rndQ (P : Program) (Q : Exit → Act → World → Prop) (id : Nat) (N : Act → World → Prop) (e : Exit) (a : Act) (w : World) : Prop := match e with
  | .normal => N a w
  | .exit i => if i = id then Q .normal a w else Q (.exit i) a w
  | e => Q e a w
theorem MRep.none {ρ : Env} {w : World} : MRep ρ (fun _ _ => False) w (fun _ => .none) [] w := ⟨Fr.refl _ _, fun _ _ => rfl, fun c ch b s hc => by simp at hc, fun c b s ha => by simp at ha, fun c ch b s hc => by simp at hc, fun c c' ch ch' b s b' s' _ hc => by simp at hc⟩
end
end Go.Proofs.YtpaidbefbkokfaaDoor
