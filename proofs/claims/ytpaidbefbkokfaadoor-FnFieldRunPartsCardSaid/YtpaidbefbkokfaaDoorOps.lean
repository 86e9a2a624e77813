/- Single operations, parts of a region, loops over states told by hand; append. No condition. -/
import Derived.Test.YtpaidbefbkokfaaDoorBit
import Derived.Test.YtpaidbefbkokfaaDoorLay
import Derived.Deep.AppendLies
import Derived.Great.BuildSlice
namespace Go.Proofs.YtpaidbefbkokfaaDoor
open Go Go.RowKit
set_option linter.unusedVariables false
set_option linter.unusedSimpArgs false
set_option maxRecDepth 100000

section
variable {ρ : Env} {P : Program} {R : FuncId → Option Rule} {nt : Nat} {α : Adr} {S : Nat → Nat → Prop} {w0 : World}
theorem wpList_assign {ops : Array Oper} {rest : List Oper} {o : Oper} {a : Act} {w : World} {Q : Exit → Act → World → Prop} (hg : o.guard = none) (x : Operand) (ho : o.op = .assign x) (h : wpList P ops Q rest (a.put o.dst (a.eval x)) w) : wpList P ops Q (o :: rest) a w :=
  wpList_plain hg fun K hK => by
    unfold Oper.wp execOp
    simp only [ho, Sem.run_pure]
    exact hK _ _ h
theorem wpList_call {ops : Array Oper} {rest : List Oper} {o : Oper} {a : Act} {w : World} {Q : Exit → Act → World → Prop} (hg : o.guard = none) {f : FuncId} {args : Array Operand} {ts : Array TypeId} (ho : o.op = .call ⟨.value (.func f), args, ts⟩)
    {vs : Array Value} (hvs : args.map a.eval = vs) {Post : Value → World → Prop} (hI : Invokes P f vs w Post) (h : ∀ v w', Post v w' → wpList P ops Q rest (a.put o.dst v) w') : wpList P ops Q (o :: rest) a w :=
  wpList_plain hg fun K hK => by
    subst hvs
    have hex : (execOp a.eval o).run P w = (callFunc f (args.map a.eval)).run P w := by
      unfold execOp
      simp only [ho, resolve, Act.eval, Deferred.ofValue, Sem.run_bind, Sem.run_pure, Result.andThen_ok, invoke, Array.empty_append, Array.append_empty]
    rcases hI with ⟨v, w', h1, h2⟩ | ⟨h1, h2⟩
    · simp only [Oper.wp, hex, h1, Oper.upon]
      exact hK _ _ (h v w' h2)
    · simp only [Oper.wp, hex, h1, Oper.upon]
      refine h2.mono ?_
      rintro e w' ⟨v, rfl, hp⟩
      exact hK _ _ (h v w' hp)

/-- The first part of a region's operations, run by the kernel. -/
theorem seqS_rest {R : FuncId → Option Rule} (hR : ∀ f r, R f = some r → RuleOk P f r) {ops rest : List Oper} : ∀ {l : List Oper} {tm tm' : Tm} {ms ms' : Ms}, seqS P R ops nt l tm ms = some (tm', ms') → Sat ρ ms'.tr →
    Grows ρ ms ms' ∧ ∀ (S : Nat → Nat → Prop) (w0 : World) (α : Adr) (a : Act) (w : World) (Q : Exit → Act → World → Prop), SRep ρ S w0 α nt tm ms a w →
      (∀ α' a' w', Ext ms.mem.length α α' → SRep ρ S w0 α' nt tm' ms' a' w' → wpList P ops.toArray Q rest a' w') → wpList P ops.toArray Q (l ++ rest) a w
  | [], tm, tm', ms, ms', h, hs => by
    simp only [seqS, Option.some.injEq, Prod.mk.injEq] at h
    obtain ⟨rfl, rfl⟩ := h
    exact ⟨⟨hs, rfl, Nat.le_refl _⟩, fun S w0 α a w Q hr hQ => hQ α a w (Ext.refl _ _) hr⟩
  | o :: l, tm, tm', ms, ms', h, hs => by
    simp only [seqS] at h
    split at h
    · rename_i tm1 ms1 h1
      obtain ⟨g2, k2⟩ := seqS_rest hR (rest := rest) h hs
      unfold stepS at h1
      split at h1
      · rename_i msw hw
        split at h1
        · rename_i s mso ho
          split at h1
          · rename_i tmp hp
            simp only [Option.some.injEq, Prod.mk.injEq] at h1
            obtain ⟨rfl, rfl⟩ := h1
            obtain ⟨go, ko⟩ := opS_ok hR ho g2.sat
            obtain ⟨gw, em, kw⟩ := wantS_ok hw go.sat
            refine ⟨(gw.trans go).trans g2, fun S w0 α a w Q hr hQ => ?_⟩
            simp only [wpList, List.cons_append]
            rw [if_pos (kw α a fun t s _ _ ht => hr.tm.get t s ht)]
            left
            have hg' : GRep msw.gl α := by rw [gw.gl]; exact hr.gl
            refine ko S w0 α a w (by rw [em]; exact hr.mem) hg' (evT_ok hr.tm hg') _ _ fun α' v w' hext hv hm' => ?_
            rw [em] at hext
            have hle := hr.mem.le hext
            refine k2 S w0 α' _ w' Q ⟨hm', by rw [go.gl]; exact hg'.le hle, putS_ok (hr.tm.le hle) hp hv⟩ fun α'' a'' w'' hext' hr'' => ?_
            exact hQ α'' a'' w'' (hext.trans hext' (by have := go.len; rw [em] at this; exact this)) hr''
          · cases h1
        · cases h1
      · rename_i msw hw
        split at h1
        · rename_i tmp hp
          simp only [Option.some.injEq, Prod.mk.injEq] at h1
          obtain ⟨rfl, rfl⟩ := h1
          obtain ⟨gw, em, kw⟩ := wantS_ok hw g2.sat
          refine ⟨gw.trans g2, fun S w0 α a w Q hr hQ => ?_⟩
          simp only [wpList, List.cons_append]
          rw [if_neg (by rw [kw α a fun t s _ _ ht => hr.tm.get t s ht]; simp)]
          refine k2 S w0 α _ w Q ⟨by rw [em]; exact hr.mem, by rw [gw.gl]; exact hr.gl, putS_ok hr.tm hp (by simp only [VRel])⟩ fun α'' a'' w'' hext' hr'' => ?_
          rw [em] at hext'
          exact hQ α'' a'' w'' hext' hr''
        · cases h1
      · cases h1
    · cases h
def runOps (P : Program) (R : FuncId → Option Rule) (nt : Nat) (ops l : List Oper) (tm : Tm) (ms : Ms) (tH : Tm) (mH : Ms) : Option (List Ent × List Ob) :=
  match seqS P R ops nt l tm ms with
  | some (tm', ms') => match genS tH mH tm' ms' with
    | some obs => bif wfT ms.cn ms'.tr.reverse && lowMs ms tm then some (ms'.tr, obs) else none
    | none => none
  | none => none
theorem to_ops (hR : ∀ f r, R f = some r → RuleOk P f r) {ops l rest : List Oper} {tm tH : Tm} {ms mH : Ms} {tr : List Ent} {obs : List Ob} (h : runOps P R nt ops l tm ms tH mH = some (tr, obs)) {a : Act} {w : World} {Q : Exit → Act → World → Prop} {K : Env → Prop}
    (hr : SRep ρ S w0 α nt tm ms a w) (hm : ∀ ρ', Agree ms.cn ρ ρ' → Defs ρ' tr → Asms ρ' tr ∧ ∃ ρH : Env, ρH.v = ρ'.v ∧ Obs ρH ρ' obs ∧ K ρH)
    (hQ : ∀ ρH α' a' w', K ρH → (∀ c, c < ms.mem.length → c < mH.mem.length → α' c = α c) → SRep ρH S w0 α' nt tH mH a' w' → wpList P ops.toArray Q rest a' w') : wpList P ops.toArray Q (l ++ rest) a w := by
  unfold runOps at h
  split at h
  · rename_i tm' ms' h1
    split at h
    · rename_i obs' h2
      cases hb : (wfT ms.cn ms'.tr.reverse && lowMs ms tm) with
      | false => simp [hb] at h
      | true =>
        simp only [hb, cond_true, Option.some.injEq, Prod.mk.injEq] at h
        obtain ⟨rfl, rfl⟩ := h
        simp only [lowMs, Bool.and_eq_true] at hb
        obtain ⟨ρ', ha, hd⟩ := solve _ _ ρ hb.1
        have hd' := defs_rev hd
        obtain ⟨has, ρH, hv, ho, hk⟩ := hm ρ' ha hd'
        refine (seqS_rest hR (rest := rest) h1 (sat_iff.2 ⟨hd', has⟩)).2 S w0 α a w Q (hr.agree ha hb.2.1 hb.2.2) fun α' a' w' he hr' => ?_
        obtain ⟨α'', he', hr''⟩ := retell hr' h2 ho hv
        exact hQ ρH α'' a' w' hk (fun c h3 h4 => (he' c h4).trans (he c h3)) hr''
    · cases h
  · cases h
theorem tmS_get {d : Nat} : ∀ {l : List (Nat × SV)} {t : Nat} {s : SV}, (tmS d l).get t = some s → (t, s) ∈ l
  | [], t, s, h => by simp only [tmS] at h; rw [Tm.get_full] at h; cases h
  | (n, x) :: l, t, s, h => by
    simp only [tmS] at h
    rcases Tm.get_set _ _ _ _ _ h with ⟨rfl, rfl⟩ | ⟨_, h'⟩
    · exact List.mem_cons_self ..
    · exact List.mem_cons_of_mem _ (tmS_get h')
/-- A state told by its parts. -/
theorem srep_mk {d : Nat} {l : List (Nat × SV)} {ms : Ms} {a : Act} {w : World} (hs : a.tmps.size = nt) (hd : a.defers = []) (hm : MRep ρ S w0 α ms.mem w) (hg : GRep ms.gl α) (h : ∀ x ∈ l, VRel ρ α x.2 (a.tmps.getD x.1 undef)) : SRep ρ S w0 α nt (tmS d l) ms a w :=
  ⟨hm, hg, hs, hd, fun t s ht => h (t, s) (tmS_get ht)⟩
theorem grep_nil : GRep [] α := fun g c h => by simp at h
theorem mrep_nil {w : World} : MRep ρ (fun _ _ => False) w (fun _ => none) [] w := MRep.none

/-! ### codes -/
def opsOf : Code → List Oper
  | .region _ ops _ => ops.toList
  | _ => []
def isReg : Code → Bool
  | .region _ _ d => !d
  | _ => false
theorem wps_reg {c : Code} {l : List Code} {Q : Exit → Act → World → Prop} {a : Act} {w : World} (hc : isReg c = true) (h : wpList P (opsOf c).toArray (Exit.then (wps P Q l) Q) (opsOf c) a w) : wps P Q (c :: l) a w := by
  cases c with
  | region id ops d =>
    cases d with
    | true => simp [isReg] at hc
    | false =>
      simp only [wps]
      refine wp_region_list ?_
      simpa [opsOf] using h
  | _ => simp [isReg] at hc
/-- What a block's content must show: it leaves by its end, or the round. -/
theorem wps_blk {i : Nat} {c : Code} {l : List Code} {Q : Exit → Act → World → Prop} {a : Act} {w : World} (h : wps P (fun e a w => match e with
    | .normal => wps P Q l a w
    | .exit j => if j = i then wps P Q l a w else Q (.exit j) a w
    | e => Q e a w) (flat c) a w) : wps P Q (.block i c :: l) a w := by
  simp only [wps]
  refine wp_block (Code.wp_mono (fun e a' w' hq => ?_) (wp_flat h))
  cases e with
  | normal => exact hq
  | exit j =>
    simp only [Exit.inBlock] at hq ⊢
    split
    · rename_i h; rw [if_pos h] at hq; exact hq
    · rename_i h; rw [if_neg h] at hq; exact hq
  | _ => exact hq
theorem wps_if {b : Operand} {x y : Code} {l : List Code} {Q : Exit → Act → World → Prop} {a : Act} {w : World} {v : Bool} (hb : a.eval b = .bool v) (h : wps P Q (flat (if v = true then x else y) ++ l) a w) : wps P Q (.cond b x y :: l) a w := by
  simp only [wps]
  cases v with
  | true => exact wp_cond_true hb (wps_flat _ (by simpa using h))
  | false => exact wp_cond_false hb (wps_flat _ (by simpa using h))
/-- A loop by what its rounds keep, told by hand. -/
theorem loop_raw {c : Code} {id : Nat} {Q : Exit → Act → World → Prop} (I : Nat → Act → World → Prop)
    (hround : ∀ m a w, I m a w → wps P (fun e a' w' => match e with
        | .normal => ∃ m', m' < m ∧ I m' a' w'
        | .exit i => if i = id then Q .normal a' w' else Q (.exit i) a' w'
        | e => Q e a' w') (flat c) a w) {m : Nat} {a : Act} {w : World} (h : I m a w) : (Code.block id (.loop c)).wp P Q a w := by
  refine wp_block (wp_of_wpL (wpL_inv I (fun n a w h => ?_) m a w h))
  refine Code.wp_mono (fun e a' w' hq => ?_) (wp_flat (hround n a w h))
  cases e with
  | normal => obtain ⟨m', h4, h5⟩ := hq; exact ⟨m', h4, h5⟩
  | exit i => simpa only [Exit.then, Exit.inBlock] using hq
  | _ => exact hq
end

/-! ### slices of 32 bytes each -/
def ByS (w : World) (v : Value) (n : Nat) (N : Nat → Nat) : Prop := ∃ (ad : Option Addr) (cap : Nat), v = .slice ad n cap ∧ ∀ i, i < n → ∃ b s, ad = some ⟨b, s, none⟩ ∧ RoN 32 w (b, s + i * 32) (N i)
theorem RoN.below {H L : Nat} {w w' : World} {p : Nat × Nat} {n : Nat} (h : RoN L w p n) (hb : Below H w w') (hp : p.1 < H) : RoN L w' p n := fun j hj => by
  rw [hb.cell (p := ⟨p.1, p.2 + j, none⟩) hp]; exact h j hj
theorem ByS.below {w w' : World} {v : Value} {n : Nat} {N : Nat → Nat} (h : ByS w v n N) (hb : Below w.heap.size w w') : ByS w' v n N := by
  obtain ⟨ad, cap, rfl, h2⟩ := h
  refine ⟨ad, cap, rfl, fun i hi => ?_⟩
  obtain ⟨b, s, h3, h4⟩ := h2 i hi
  exact ⟨b, s, h3, h4.below hb (cell_lt (h4 0 (by decide)))⟩
theorem ownsRow.of_fr {S : Nat → Nat → Prop} {w w' : World} {base size n g cap : Nat} {e : TypeId} {xs : List Value} (h : w.ownsRow base e size (.slice (some ⟨g, 0, none⟩) n cap) n xs) (hf : Fr S w w') (hS : ∀ j, ¬ S g j) : w'.ownsRow base e size (.slice (some ⟨g, 0, none⟩) n cap) n xs := by
  obtain ⟨h1, h2 | ⟨g', cap', cur, hv, hb, hg, h3⟩⟩ := h
  · obtain ⟨h2, _⟩ := h2; simp at h2
  · refine ⟨h1, .inr ⟨g', cap', cur, hv, hb, ?_, h3⟩⟩
    simp only [Value.slice.injEq, Option.some.injEq, Addr.mk.injEq, and_true, true_and] at hv
    obtain ⟨rfl, rfl⟩ := hv
    have hlt : g < w.heap.size := by
      rcases Nat.lt_or_ge g w.heap.size with hlt | hge
      · exact hlt
      · rw [Array.getElem?_eq_none hge] at hg; cases hg
    obtain ⟨c', g1, g2, g3⟩ := hf.row g hlt cur e _ hg
    rw [g1, show c' = cur from Array.ext_getElem? fun j => g3 j (hS j)]
theorem Below.of_grown {H : Nat} {w0 w w' : World} {row : Option Nat} (h : Below H w0 w) (hg : w.grownBy w' row) (hH : H ≤ w.heap.size) (hr : ∀ k, row = some k → H ≤ k) : Below H w0 w' :=
  ⟨hg.os.trans h.os, hg.tape.trans h.tape, hg.output.trans h.output, Nat.le_trans h.size hg.size, fun k hk => (hg.block k (by omega) (fun e => by have := hr k e.symm; omega)).trans (h.block k hk)⟩
theorem Below.of_fr {H : Nat} {S : Nat → Nat → Prop} {w0 w w' : World} (h : Below H w0 w) (hf : Fr S w w') (hH : H ≤ w.heap.size) (hS : ∀ b j, S b j → H ≤ b) : Below H w0 w' := by
  refine ⟨hf.os.trans h.os, hf.tape.trans h.tape, hf.output.trans h.output, Nat.le_trans h.size hf.size, fun b hb => ?_⟩
  rw [← h.block b hb]
  have hlt : b < w.heap.size := by omega
  cases hh : w.heap[b]? with
  | none => simp [hlt] at hh
  | some o =>
    cases o with
    | cells c T fr =>
      obtain ⟨c', g1, g2, g3⟩ := hf.row b hlt c T fr hh
      rw [g1, show c' = c from Array.ext_getElem? fun j => g3 j (fun hs => by have := hS b j hs; omega)]
    | _ => rw [hf.obj b hlt (by intro c T fr e; rw [hh] at e; cases e), hh]
end Go.Proofs.YtpaidbefbkokfaaDoor
