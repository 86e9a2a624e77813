/- The operations that touch no memory, all of them in one function, and that the model does the same. No condition. -/
import Derived.Test.YtklgdgeeillpaaaDoorPure
namespace Go.Proofs.YtklgdgeeillpaaaDoor
open Go Go.RowKit
set_option linter.unusedVariables false
set_option linter.unusedSimpArgs false

/-! ### equality of arrays of integers -/
def sints (k : IntKind) : List SV → Option (List Sx)
  | [] => some []
  | .int k' x :: l => if k = k' then (match sints k l with
    | some r => some (x :: r)
    | none => none) else none
  | _ :: _ => none
theorem sints_ok {ρ : Env} {α : Adr} {k : IntKind} : ∀ {vs : List SV} {us : List Value} {xs : List Sx}, sints k vs = some xs → VRels ρ α vs us → us = (xs.map (Sx.val ρ)).map (Value.int k)
  | [], us, xs, h, hv => by simp only [sints, Option.some.injEq] at h; simp only [VRels] at hv; subst h hv; rfl
  | s :: l, us, xs, h, hv => by
    cases s <;> simp only [sints, reduceCtorEq] at h
    split at h
    · rename_i hk
      subst hk
      cases hl : sints k l with
      | none => simp [hl] at h
      | some r =>
        simp only [hl, Option.some.injEq] at h
        subst h
        simp only [VRels, VRel] at hv
        obtain ⟨u, us', rfl, ⟨rfl, _⟩, h3⟩ := hv
        simp only [List.map_cons, sints_ok hl h3]
    · cases h
theorem eqArr {P : Program} {w : World} {t e : TypeId} {n d : Nat} {k k' : IntKind} (as bs : List Int) (h : P.underlying t = some (.array n e)) (he : P.underlying e = some (.int k')) (hs : tySize P e = some 1) (ha : as.length = n) (hb : bs.length = n) :
    (Op.equalIn (d + 2) t (.agg (as.map (Value.int k)).toArray) (.agg (bs.map (Value.int k)).toArray)).run P w = .ok (decide (as = bs)) w := by
  have hg : tyAgg P e = some false := by unfold tyAgg; rw [he]
  simp only [Op.equalIn, Sem.run_bind, run_und h, Result.andThen_ok, run_size hs, Std.Legacy.Range.forIn_eq_forIn_range', Std.Legacy.Range.size, Nat.sub_zero, Nat.add_sub_cancel, Nat.div_one]
  have key : ∀ m i, i + m = n → ∀ body, (∀ (j : Nat) (s : Option Bool × Unit) (hj : j < n), (body j s).run P w = if as[j]'(by omega) = bs[j]'(by omega) then .ok (.yield (none, ())) w else .ok (.done (some false, ())) w) →
      (forIn (m := Sem) (List.range' i m) ((none, ()) : Option Bool × Unit) body).run P w = .ok (if as.drop i = bs.drop i then (none, ()) else (some false, ())) w := by
    intro m
    induction m with
    | zero =>
      intro i hi body hb'
      have h1 : as.drop i = [] := List.drop_eq_nil_of_le (by omega)
      have h2 : bs.drop i = [] := List.drop_eq_nil_of_le (by omega)
      simp [h1, h2]
    | succ m ih =>
      intro i hi body hb'
      simp only [List.range'_succ, List.forIn_cons, Sem.run_bind, hb' i _ (show i < n by omega)]
      rw [List.drop_eq_getElem_cons (show i < as.length by omega), List.drop_eq_getElem_cons (show i < bs.length by omega)]
      by_cases hab : as[i]'(by omega) = bs[i]'(by omega)
      · simp only [hab, if_true, Result.andThen_ok, List.cons.injEq, true_and]
        exact ih (i + 1) (by omega) body hb'
      · simp only [hab, if_false, Result.andThen_ok, List.cons.injEq, false_and, Sem.run_pure]
  rw [key n 0 (by omega)]
  · by_cases hab : as = bs
    · subst hab; simp
    · simp [hab]
  · intro j s hj
    have p1 : (part e (as.map (Value.int k)).toArray (j * 1)).run P w = .ok (.int k (as[j]'(by omega))) w := by
      simp only [part, Sem.run_bind, run_agg hg, Result.andThen_ok, if_false, Bool.false_eq_true, List.getElem?_toArray, Nat.mul_one, List.getElem?_map, List.getElem?_eq_getElem (show j < as.length by omega), Option.map_some, Sem.run_pure]
    have p2 : (part e (bs.map (Value.int k)).toArray (j * 1)).run P w = .ok (.int k (bs[j]'(by omega))) w := by
      simp only [part, Sem.run_bind, run_agg hg, Result.andThen_ok, if_false, Bool.false_eq_true, List.getElem?_toArray, Nat.mul_one, List.getElem?_map, List.getElem?_eq_getElem (show j < bs.length by omega), Option.map_some, Sem.run_pure]
    simp only [Sem.run_bind, p1, p2, Result.andThen_ok, run_und he, if_true, Sem.run_pure, Sem.run_ite]
    by_cases hab : as[j]'(by omega) = bs[j]'(by omega)
    · simp [hab]
    · simp [hab]
theorem eqGuardArr {P : Program} {t e : TypeId} {n : Nat} {k' : IntKind} (h : P.underlying t = some (.array n e)) (he : P.underlying e = some (.int k')) : P.eqGuardType P.depth t = false := by
  unfold Program.depth
  simp only [Program.eqGuardType, h, he]

/-! ### the rest -/
def Sb.known (kn : Nat → Option Bool) : Sb → Option Bool
  | .c b => some b
  | .x i => kn i
def Kn (ρ : Env) (kn : Nat → Option Bool) : Prop := ∀ i d, kn i = some d → ρ.b i = d
theorem known_ok {ρ : Env} {kn : Nat → Option Bool} (h : Kn ρ kn) {s : Sb} {d : Bool} (hs : s.known kn = some d) : s.val ρ = d := by
  cases s with
  | c b => simpa [Sb.known, Sb.val] using hs
  | x i => exact h i d hs
def keep (ni nb : Nat) : Option SV → Option PR
  | some v => some (v, [], ni, nb)
  | none => none
theorem keep_some {ni nb : Nat} {o : Option SV} {r : PR} (h : keep ni nb o = some r) : o = some r.1 := by
  cases o with
  | none => cases h
  | some v => simp only [keep, Option.some.injEq] at h; rw [← h]
def isConstO : Operand → Bool
  | .const _ => true
  | _ => false
/-- '==' (and '!=' where neg) of what is no integer. -/
def seqv (P : Program) (kn : Nat → Option Bool) (ni nb : Nat) (neg : Bool) (t : TypeId) (cst : Bool) (x y : SV) : Option PR :=
  match x, y with
  | .bool a, .bool b =>
    match P.underlying t with
    | some .bool =>
      match a.known kn, b.known kn with
      | some p, some q => some (.bool (.c ((p == q) != neg)), [], ni, nb)
      | _, _ => some (.bool (.x nb), [.db nb (if neg then .bne else .beq) [] [] [a, b]], ni, nb + 1)
    | _ => none
  | .nili, .nili =>
    match P.underlying t with
    | some (.interface _) => if cst then some (.bool (.c (true != neg)), [], ni, nb) else none
    | _ => none
  | .nili, .iface _ _ | .iface _ _, .nili =>
    match P.underlying t with
    | some (.interface _) => some (.bool (.c (false != neg)), [], ni, nb)
    | _ => none
  | .agg vs, .agg us =>
    match P.underlying t with
    | some (.array n e) =>
      match P.underlying e with
      | some (.int k) =>
        match tySize P e, sints k vs, sints k us with
        | some 1, some xs, some ys => if xs.length = n ∧ ys.length = n then some (fb ni nb (if neg then .neqs else .eqs) (xs ++ ys)) else none
        | _, _, _ => none
      | _ => none
    | _ => none
  | _, _ => none
theorem half_app {β : Type} (a b : List β) (h : a.length = b.length) : (a ++ b).take ((a ++ b).length / 2) = a ∧ (a ++ b).drop ((a ++ b).length / 2) = b := by
  have : (a ++ b).length / 2 = a.length := by simp; omega
  rw [this]; simp
theorem bool_pne (b neg : Bool) : (if neg then !b else b) = (b != neg) := by cases b <;> cases neg <;> rfl
/-- What '==' or '!=' makes of the answer. -/
theorem binOp_eq_run {P : Program} {w : World} {t : TypeId} {neg : Bool} {u v : Value} {b : Bool} (hu : ∀ k n, u ≠ .int k n) (hne : ∀ s, u ≠ .string s) (hf : ∀ k n, u ≠ .float k n) (hc : ∀ k n m, u ≠ .complex k n m)
    (h : (Op.equalIn 10000 t u v).run P w = .ok b w) : (binOp (if neg then .neq else .eql) t u v).run P w = .ok (.bool (b != neg)) w := by
  cases neg
  · cases u <;> first | (exact absurd rfl (hu _ _)) | (exact absurd rfl (hne _)) | (exact absurd rfl (hf _ _)) | (exact absurd rfl (hc _ _ _)) | skip
    all_goals simp only [Bool.false_eq_true, if_false, binOp, Op.equal, Op.maxDepth, Sem.run_bind, h, Result.andThen_ok, Sem.run_pure, Bool.bne_false]
  · cases u <;> first | (exact absurd rfl (hu _ _)) | (exact absurd rfl (hne _)) | (exact absurd rfl (hf _ _)) | (exact absurd rfl (hc _ _ _)) | skip
    all_goals simp only [if_true, binOp, Op.equal, Op.maxDepth, Sem.run_bind, h, Result.andThen_ok, Sem.run_pure, Bool.bne_true]
theorem eqB {P : Program} {w : World} {t : TypeId} (d : Nat) (a b : Bool) (ht : P.underlying t = some .bool) : (Op.equalIn (d + 1) t (.bool a) (.bool b)).run P w = .ok (a == b) w := by simp [Op.equalIn, run_und ht]
theorem eqNN {P : Program} {w : World} {t : TypeId} {ms : Array (String × TypeId)} (d : Nat) (ht : P.underlying t = some (.interface ms)) : (Op.equalIn (d + 1) t .nilIface .nilIface).run P w = .ok true w := by simp [Op.equalIn, run_und ht]
theorem eqNI {P : Program} {w : World} {t s : TypeId} {z : Value} {ms : Array (String × TypeId)} (d : Nat) (ht : P.underlying t = some (.interface ms)) : (Op.equalIn (d + 1) t .nilIface (.iface s z)).run P w = .ok false w := by simp [Op.equalIn, run_und ht]
theorem eqIN {P : Program} {w : World} {t s : TypeId} {z : Value} {ms : Array (String × TypeId)} (d : Nat) (ht : P.underlying t = some (.interface ms)) : (Op.equalIn (d + 1) t (.iface s z) .nilIface).run P w = .ok false w := by simp [Op.equalIn, run_und ht]
theorem guardNN {P : Program} {w : World} {t : TypeId} {op : BinOp} {ox oy : Operand} (hc : (isConstO ox || isConstO oy) = true) : (eqGuard op t ox oy .nilIface .nilIface).run P w = .ok () w := by
  unfold eqGuard
  cases ox <;> cases oy <;> simp only [isConstO, Bool.or_self, Bool.false_eq_true] at hc <;> cases op <;> simp
theorem seqv_ok {ρ : Env} {α : Adr} {P : Program} {w : World} {kn : Nat → Option Bool} {ni nb : Nat} {neg : Bool} {t : TypeId} {ox oy : Operand} {x y : SV} {u v : Value} {r : PR} (hk : Kn ρ kn)
    (h : seqv P kn ni nb neg t (isConstO ox || isConstO oy) x y = some r) (hs : Sat ρ r.2.1) (hu : VRel ρ α x u) (hv : VRel ρ α y v) :
    ∃ z, (do eqGuard (if neg then .neq else .eql) t ox oy u v; binOp (if neg then .neq else .eql) t u v : Sem Value).run P w = .ok z w ∧ VRel ρ α r.1 z := by
  have guard : ∀ (u v : Value), ((∃ a b, u = .bool a ∧ v = .bool b) ∨ (∃ s z, u = .nilIface ∧ v = .iface s z) ∨ (∃ s z, u = .iface s z ∧ v = .nilIface)) → (eqGuard (if neg then .neq else .eql) t ox oy u v).run P w = .ok () w := by
    rintro u v (⟨a, b, rfl, rfl⟩ | ⟨s, z, rfl, rfl⟩ | ⟨s, z, rfl, rfl⟩) <;> cases neg <;> simp [eqGuard]
  unfold seqv at h
  split at h
  · -- two bools
    rename_i a b
    simp only [VRel] at hu hv
    subst hu hv
    cases ht : P.underlying t with
    | none => simp [ht] at h
    | some d =>
      cases d <;> simp only [ht, reduceCtorEq] at h
      have he := eqB (P := P) (w := w) 9999 (a.val ρ) (b.val ρ) ht
      have hb := binOp_eq_run (neg := neg) (by simp) (by simp) (by simp) (by simp) he
      simp only [Sem.run_bind, guard _ _ (.inl ⟨_, _, rfl, rfl⟩), Result.andThen_ok, hb]
      refine ⟨_, rfl, ?_⟩
      split at h
      · rename_i p q hp hq
        simp only [Option.some.injEq] at h
        subst h
        simp only [VRel]
        rw [known_ok hk hp, known_ok hk hq]
        rfl
      · simp only [Option.some.injEq] at h
        subst h
        simp only [Sat, Ent.ok, and_true] at hs
        simp only [VRel, Sb.val, hs, List.map_cons, List.map_nil]
        cases neg <;> simp [Fb.sem, bne]
  · cases ht : P.underlying t with
    | none => simp [ht] at h
    | some d =>
      cases d <;> simp only [ht, reduceCtorEq] at h
      split at h
      · rename_i hc
        simp only [Option.some.injEq] at h
        subst h
        simp only [VRel] at hu hv
        subst hu hv
        have he := eqNN (P := P) (w := w) 9999 ht
        have hb := binOp_eq_run (neg := neg) (by simp) (by simp) (by simp) (by simp) he
        have hg := guardNN (P := P) (w := w) (t := t) (op := if neg then .neq else .eql) hc
        simp only [Sem.run_bind, hg, Result.andThen_ok, hb]
        exact ⟨_, rfl, by simp only [VRel, Sb.val]⟩
      · cases h
  · rename_i s0 v0
    cases ht : P.underlying t with
    | none => simp [ht] at h
    | some d =>
      cases d <;> simp only [ht, reduceCtorEq, Option.some.injEq] at h
      subst h
      simp only [VRel] at hu hv
      obtain ⟨z, rfl, _⟩ := hv
      subst hu
      have he := eqNI (P := P) (w := w) (s := s0) (z := z) 9999 ht
      have hb := binOp_eq_run (neg := neg) (by simp) (by simp) (by simp) (by simp) he
      simp only [Sem.run_bind, guard _ _ (.inr (.inl ⟨_, _, rfl, rfl⟩)), Result.andThen_ok, hb]
      exact ⟨_, rfl, by simp only [VRel, Sb.val]⟩
  · rename_i s0 v0
    cases ht : P.underlying t with
    | none => simp [ht] at h
    | some d =>
      cases d <;> simp only [ht, reduceCtorEq, Option.some.injEq] at h
      subst h
      simp only [VRel] at hu hv
      obtain ⟨z, rfl, _⟩ := hu
      subst hv
      have he := eqIN (P := P) (w := w) (s := s0) (z := z) 9999 ht
      have hb := binOp_eq_run (neg := neg) (by simp) (by simp) (by simp) (by simp) he
      simp only [Sem.run_bind, guard _ _ (.inr (.inr ⟨_, _, rfl, rfl⟩)), Result.andThen_ok, hb]
      exact ⟨_, rfl, by simp only [VRel, Sb.val]⟩
  · rename_i vs us
    cases ht : P.underlying t with
    | none => simp [ht] at h
    | some d =>
      cases d <;> simp only [ht, reduceCtorEq] at h
      rename_i n e
      cases hte : P.underlying e with
      | none => simp [hte] at h
      | some d =>
        cases d <;> simp only [hte, reduceCtorEq] at h
        rename_i k
        split at h
        · rename_i xs ys hz hx hy
          split at h
          · rename_i hl
            simp only [Option.some.injEq] at h
            subst h
            simp only [VRel] at hu hv
            obtain ⟨as, rfl, ha⟩ := hu
            obtain ⟨bs, rfl, hb⟩ := hv
            have e1 := sints_ok hx ha
            have e2 := sints_ok hy hb
            subst e1 e2
            have he := eqArr (P := P) (w := w) (d := 9998) (k := k) (xs.map (Sx.val ρ)) (ys.map (Sx.val ρ)) ht hte hz (by simpa using hl.1) (by simpa using hl.2)
            have hbb := binOp_eq_run (neg := neg) (by simp) (by simp) (by simp) (by simp) he
            have hg := run_eqGuard_agg (w := w) (if neg then .neq else .eql) t ox oy (List.map (Value.int k) (xs.map (Sx.val ρ))).toArray (List.map (Value.int k) (ys.map (Sx.val ρ))).toArray (eqGuardArr ht hte)
            simp only [Sem.run_bind, hg, Result.andThen_ok, hbb]
            refine ⟨_, rfl, ?_⟩
            have hf := fb_ok (α := α) _ _ _ _ hs
            have hh := half_app (xs.map (Sx.val ρ)) (ys.map (Sx.val ρ)) (by simp; omega)
            cases neg
            · simp only [Bool.false_eq_true, if_false, Fb.sem, List.map_append, hh.1, hh.2] at hf
              simpa using hf
            · simp only [if_true, Fb.sem, List.map_append, hh.1, hh.2] at hf
              simpa using hf
          · cases h
        · cases h
  · cases h
end Go.Proofs.YtklgdgeeillpaaaDoor
