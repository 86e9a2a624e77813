/- Code and whole functions, reckoned over symbols, and that the model does the same. No condition. -/
import Derived.Test.YtpaidbefbkokfaaDoorDra3
namespace Go.Proofs.YtpaidbefbkokfaaDoor
open Go Go.RowKit
set_option linter.unusedVariables false
set_option linter.unusedSimpArgs false

inductive SE where
  | normal | ret
  | exit (id : Nat)
  deriving Repr, DecidableEq, Inhabited
def SE.toExit : SE → Exit
  | .normal => .normal
  | .ret => .ret
  | .exit i => .exit i

/-- At the head of a loop whose body is c. -/
def wpL (P : Program) (c : Code) (Q : Exit → Act → World → Prop) (a : Act) (w : World) : Prop :=
  ∀ (b : Frame) (k : List Item) (cs : List Frame), ∃ e a' w', Q e a' w' ∧ Arrives P (lone (b.at a (.code c :: .inLoop c :: k)) cs w) b k cs e a' w'
section
variable {P : Program} {Q : Exit → Act → World → Prop} {a : Act} {w : World} {c : Code}
theorem wpL_step (h : c.wp P (Exit.then (wpL P c Q) Q) a w) : wpL P c Q a w := by
  intro b k cs
  obtain ⟨e, a₁, w₁, hq, harr⟩ := h b (.inLoop c :: k) cs
  cases e with
  | normal =>
    obtain ⟨e₂, a₂, w₂, hq₂, harr₂⟩ := hq b k cs
    exact ⟨e₂, a₂, w₂, hq₂, .of_steps (Steps.trans harr (.one step_inLoop)) harr₂⟩
  | exit id => exact ⟨_, a₁, w₁, hq, .pass (x := .inLoop c) rfl (fun _ _ => .inl (by simp)) harr⟩
  | goto l => exact ⟨_, a₁, w₁, hq, .pass (x := .inLoop c) rfl (fun _ _ => .inl (by simp)) harr⟩
  | ret => exact ⟨_, a₁, w₁, hq, .pass (x := .inLoop c) rfl (fun _ _ => .inl (by simp)) harr⟩
  | panic ch => exact ⟨_, a₁, w₁, hq, .pass (x := .inLoop c) rfl (fun _ _ => .inl (by simp)) harr⟩
  | outgrown => exact ⟨_, a₁, w₁, hq, .pass (x := .inLoop c) rfl (fun _ _ => .inl (by simp)) harr⟩
theorem wp_of_wpL (h : wpL P c Q a w) : (Code.loop c).wp P Q a w := by
  intro b k cs
  obtain ⟨e, a', w', hq, harr⟩ := h b k cs
  exact ⟨e, a', w', hq, .of_steps (.one step_loop) harr⟩
/-- A loop by an invariant that counts down. -/
theorem wpL_inv (I : Nat → Act → World → Prop) (hr : ∀ n a w, I n a w → c.wp P (Exit.then (fun a' w' => ∃ m, m < n ∧ I m a' w') Q) a w) : ∀ n a w, I n a w → wpL P c Q a w := by
  intro n
  induction n using Nat.strongRecOn with
  | _ n ih =>
    intro a w hI
    refine wpL_step (Code.wp_mono (fun e a' w' hq => ?_) (hr n a w hI))
    cases e with
    | normal => obtain ⟨m, hm, hI'⟩ := hq; exact ih m hm a' w' hI'
    | _ => exact hq
end

def sexec (P : Program) (R : FuncId → Option Rule) (nt : Nat) : Nat → Bool → Code → Tm → Ms → Option (SE × Tm × Ms)
  | 0, _, _, _, _ => none
  | f + 1, true, c, tm, ms => match sexec P R nt f false c tm ms with
    | some (.normal, tm', ms') => sexec P R nt f true c tm' ms'
    | r => r
  | f + 1, false, c, tm, ms => match c with
    | .skip => some (.normal, tm, ms)
    | .region _ ops draw => match (bif draw then drawS P R nt ops.toList tm ms else seqS P R ops.toList nt ops.toList tm ms) with
      | some (tm', ms') => some (.normal, tm', ms')
      | none => none
    | .seq x y => match sexec P R nt f false x tm ms with
      | some (.normal, tm', ms') => sexec P R nt f false y tm' ms'
      | r => r
    | .cond b x y => match evT ms.gl tm b with
      | some (.bool s) => match s.known (knOf ms.tr) with
        | some true => sexec P R nt f false x tm ms
        | some false => sexec P R nt f false y tm ms
        | none => match ms.orc with
          | true :: rest => sexec P R nt f false x tm { ms with orc := rest, tr := .asm s true :: ms.tr }
          | false :: rest => sexec P R nt f false y tm { ms with orc := rest, tr := .asm s false :: ms.tr }
          | [] => none
      | _ => none
    | .block id x => match sexec P R nt f false x tm ms with
      | some (.exit i, tm', ms') => bif Nat.beq i id then some (.normal, tm', ms') else some (.exit i, tm', ms')
      | r => r
    | .loop x => sexec P R nt f true x tm ms
    | .exit id => some (.exit id, tm, ms)
    | .ret => some (.ret, tm, ms)
    | _ => none

section
variable {ρ : Env} {P : Program} {R : FuncId → Option Rule} {nt : Nat}
def Does (ρ : Env) (P : Program) (nt : Nat) (lp : Bool) (c : Code) (tm : Tm) (ms : Ms) (e : SE) (tm' : Tm) (ms' : Ms) : Prop :=
  Grows ρ ms ms' ∧ ∀ (S : Nat → Nat → Prop) (w0 : World) (α : Adr) (a : Act) (w : World) (Q : Exit → Act → World → Prop), SRep ρ S w0 α nt tm ms a w →
    (∀ α' a' w', Ext ms.mem.length α α' → SRep ρ S w0 α' nt tm' ms' a' w' → Q e.toExit a' w') → (if lp = true then wpL P c Q a w else c.wp P Q a w)

theorem Does.seq {lp : Bool} {x y z : Code} {tm tm1 tm' : Tm} {ms ms1 ms' : Ms} {e : SE} (h1 : Does ρ P nt false x tm ms .normal tm1 ms1) (h2 : Does ρ P nt lp y tm1 ms1 e tm' ms')
    (hz : ∀ (Q : Exit → Act → World → Prop) (a : Act) (w : World), x.wp P (Exit.then (fun a' w' => if lp = true then wpL P y Q a' w' else y.wp P Q a' w') Q) a w → (if lp = true then wpL P z Q a w else z.wp P Q a w)) : Does ρ P nt lp z tm ms e tm' ms' := by
  refine ⟨h1.1.trans h2.1, fun S w0 α a w Q hr hQ => ?_⟩
  apply hz
  have := h1.2 S w0 α a w (Exit.then (fun a' w' => if lp = true then wpL P y Q a' w' else y.wp P Q a' w') Q) hr fun α1 a1 w1 e1 r1 => by
    simp only [SE.toExit, Exit.then]
    exact h2.2 S w0 α1 a1 w1 Q r1 fun α2 a2 w2 e2 r2 => hQ α2 a2 w2 (e1.trans e2 h1.1.len) r2
  simpa using this
theorem Does.stop {lp : Bool} {x z : Code} {tm tm' : Tm} {ms ms' : Ms} {e : SE} (h1 : Does ρ P nt false x tm ms e tm' ms') (he : e ≠ .normal) {K : (Exit → Act → World → Prop) → Act → World → Prop}
    (hz : ∀ (Q : Exit → Act → World → Prop) (a : Act) (w : World), x.wp P (Exit.then (K Q) Q) a w → (if lp = true then wpL P z Q a w else z.wp P Q a w)) : Does ρ P nt lp z tm ms e tm' ms' := by
  refine ⟨h1.1, fun S w0 α a w Q hr hQ => ?_⟩
  apply hz
  have := h1.2 S w0 α a w (Exit.then (K Q) Q) hr fun α1 a1 w1 e1 r1 => by
    cases e with
    | normal => exact absurd rfl he
    | ret => exact hQ α1 a1 w1 e1 r1
    | exit i => exact hQ α1 a1 w1 e1 r1
  simpa using this

theorem sexec_ok (hmix : P.follows .mixedOrders = true) (hR : ∀ f r, R f = some r → RuleOk P f r) : ∀ {fuel : Nat} {lp : Bool} {c : Code} {tm tm' : Tm} {ms ms' : Ms} {e : SE}, sexec P R nt fuel lp c tm ms = some (e, tm', ms') → Sat ρ ms'.tr → Does ρ P nt lp c tm ms e tm' ms' := by
  intro fuel
  induction fuel with
  | zero => intro lp c tm tm' ms ms' e h; simp [sexec] at h
  | succ f ih =>
    intro lp c tm tm' ms ms' e h hs
    cases lp with
    | true =>
      simp only [sexec] at h
      split at h
      · rename_i tm1 ms1 h1
        have h2 := ih h hs
        exact (ih h1 h2.1.sat).seq h2 fun Q a w hw => by simp only [if_true] at hw ⊢; exact wpL_step hw
      · rename_i hne
        have he : e ≠ .normal := fun e' => by subst e'; exact hne _ _ h
        exact (ih h hs).stop he (K := fun Q => wpL P c Q) fun Q a w hw => by simp only [if_true]; exact wpL_step hw
    | false =>
      cases c with
      | skip =>
        simp only [sexec, Option.some.injEq, Prod.mk.injEq] at h
        obtain ⟨rfl, rfl, rfl⟩ := h
        exact ⟨⟨hs, rfl, Nat.le_refl _⟩, fun S w0 α a w Q hr hQ => by simp only [Bool.false_eq_true, if_false]; exact wp_skip (hQ α a w (Ext.refl _ _) hr)⟩
      | region id ops draw =>
        simp only [sexec] at h
        split at h
        · rename_i tm1 ms1 h1
          simp only [Option.some.injEq, Prod.mk.injEq] at h
          obtain ⟨rfl, rfl, rfl⟩ := h
          cases draw with
          | true =>
            simp only [cond_true] at h1
            obtain ⟨g, hd⟩ := drawS_ok hmix hR h1 hs
            refine ⟨g, fun S w0 α a w Q hr hQ => ?_⟩
            have := hd S w0 α a w id Q hr hQ
            simpa using this
          | false =>
            simp only [cond_false] at h1
            obtain ⟨g, hd⟩ := seqS_ok hR h1 hs
            refine ⟨g, fun S w0 α a w Q hr hQ => ?_⟩
            have := wp_region_lit (id := id) (hd S w0 α a w Q hr hQ)
            simpa using this
        · cases h
      | seq x y =>
        simp only [sexec] at h
        split at h
        · rename_i tm1 ms1 h1
          have h2 := ih h hs
          exact (ih h1 h2.1.sat).seq h2 fun Q a w hw => by
            simp only [Bool.false_eq_true, if_false] at hw ⊢; exact wp_seq hw
        · rename_i hne
          have he : e ≠ .normal := fun e' => by subst e'; exact hne _ _ h
          exact (ih h hs).stop he (K := fun Q => y.wp P Q) fun Q a w hw => by simp only [Bool.false_eq_true, if_false]; exact wp_seq hw
      | cond b x y =>
        simp only [sexec] at h
        split at h
        · rename_i s hb
          have hev : ∀ {S : Nat → Nat → Prop} {w0 : World} {α : Adr} {a : Act} {w : World}, SRep ρ S w0 α nt tm ms a w → a.eval b = .bool (s.val ρ) := fun hr => by
            have := evT_ok hr.tm hr.gl b _ hb
            simpa only [VRel] using this
          split at h
          · rename_i hk
            have h1 := ih h hs
            refine ⟨h1.1, fun S w0 α a w Q hr hQ => ?_⟩
            have h2 := h1.2 S w0 α a w Q hr hQ
            simp only [Bool.false_eq_true, if_false] at h2 ⊢
            exact wp_cond_true (by rw [hev hr, known_ok (kn_ok h1.1.sat) hk]) h2
          · rename_i hk
            have h1 := ih h hs
            refine ⟨h1.1, fun S w0 α a w Q hr hQ => ?_⟩
            have h2 := h1.2 S w0 α a w Q hr hQ
            simp only [Bool.false_eq_true, if_false] at h2 ⊢
            exact wp_cond_false (by rw [hev hr, known_ok (kn_ok h1.1.sat) hk]) h2
          · split at h
            · rename_i rest ho
              have h1 := ih h hs
              have hsat := h1.1.sat
              refine ⟨⟨hsat.2, h1.1.gl, h1.1.len⟩, fun S w0 α a w Q hr hQ => ?_⟩
              have h2 := h1.2 S w0 α a w Q ⟨hr.mem, hr.gl, hr.tm⟩ hQ
              simp only [Bool.false_eq_true, if_false] at h2 ⊢
              have hv : s.val ρ = true := hsat.1
              exact wp_cond_true (by rw [hev hr, hv]) h2
            · rename_i rest ho
              have h1 := ih h hs
              have hsat := h1.1.sat
              refine ⟨⟨hsat.2, h1.1.gl, h1.1.len⟩, fun S w0 α a w Q hr hQ => ?_⟩
              have h2 := h1.2 S w0 α a w Q ⟨hr.mem, hr.gl, hr.tm⟩ hQ
              simp only [Bool.false_eq_true, if_false] at h2 ⊢
              have hv : s.val ρ = false := hsat.1
              exact wp_cond_false (by rw [hev hr, hv]) h2
            · cases h
        · cases h
      | block id x =>
        simp only [sexec] at h
        split at h
        · rename_i i tm1 ms1 h1
          cases hb : Nat.beq i id with
          | true =>
            have hid : i = id := Nat.eq_of_beq_eq_true hb
            subst hid
            simp only [hb, cond_true, Option.some.injEq, Prod.mk.injEq] at h
            obtain ⟨rfl, rfl, rfl⟩ := h
            have h2 := ih h1 hs
            refine ⟨h2.1, fun S w0 α a w Q hr hQ => ?_⟩
            have h3 := h2.2 S w0 α a w (Exit.inBlock i Q) hr fun α1 a1 w1 e1 r1 => by
              simp only [SE.toExit, Exit.inBlock, if_true]
              exact hQ α1 a1 w1 e1 r1
            simp only [Bool.false_eq_true, if_false] at h3 ⊢
            exact wp_block h3
          | false =>
            have hid : i ≠ id := fun e' => by rw [e'] at hb; simp at hb
            simp only [hb, cond_false, Option.some.injEq, Prod.mk.injEq] at h
            obtain ⟨rfl, rfl, rfl⟩ := h
            have h2 := ih h1 hs
            refine ⟨h2.1, fun S w0 α a w Q hr hQ => ?_⟩
            have h3 := h2.2 S w0 α a w (Exit.inBlock id Q) hr fun α1 a1 w1 e1 r1 => by
              simp only [SE.toExit, Exit.inBlock, if_neg hid]
              exact hQ α1 a1 w1 e1 r1
            simp only [Bool.false_eq_true, if_false] at h3 ⊢
            exact wp_block h3
        · rename_i hne
          have h2 := ih h hs
          refine ⟨h2.1, fun S w0 α a w Q hr hQ => ?_⟩
          have h3 := h2.2 S w0 α a w (Exit.inBlock id Q) hr fun α1 a1 w1 e1 r1 => by
            cases e with
            | normal => exact hQ α1 a1 w1 e1 r1
            | ret => exact hQ α1 a1 w1 e1 r1
            | exit i => exact absurd h (hne _ _ _)
          simp only [Bool.false_eq_true, if_false] at h3 ⊢
          exact wp_block h3
      | loop x =>
        simp only [sexec] at h
        have h2 := ih h hs
        refine ⟨h2.1, fun S w0 α a w Q hr hQ => ?_⟩
        have h3 := h2.2 S w0 α a w Q hr hQ
        simp only [if_true] at h3
        simp only [Bool.false_eq_true, if_false]
        exact wp_of_wpL h3
      | exit id =>
        simp only [sexec, Option.some.injEq, Prod.mk.injEq] at h
        obtain ⟨rfl, rfl, rfl⟩ := h
        exact ⟨⟨hs, rfl, Nat.le_refl _⟩, fun S w0 α a w Q hr hQ => by simp only [Bool.false_eq_true, if_false]; exact wp_exit (hQ α a w (Ext.refl _ _) hr)⟩
      | ret =>
        simp only [sexec, Option.some.injEq, Prod.mk.injEq] at h
        obtain ⟨rfl, rfl, rfl⟩ := h
        exact ⟨⟨hs, rfl, Nat.le_refl _⟩, fun S w0 α a w Q hr hQ => by simp only [Bool.false_eq_true, if_false]; exact wp_ret (hQ α a w (Ext.refl _ _) hr)⟩
      | _ => simp [sexec] at h
end
end Go.Proofs.YtpaidbefbkokfaaDoor
