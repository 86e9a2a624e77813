/- The operations that touch no memory, all of them in one function, and that the model does the same. No condition. -/
import Derived.Test.YtpaidbefbkokfaaDoorPure
namespace Go.Proofs.YtpaidbefbkokfaaDoor
open Go Go.RowKit
set_option linter.unusedVariables false
set_option linter.unusedSimpArgs false

/-! ### equality of arrays of integers -/
def sints (k : IntKind) : List SV → Option (List Sx)
  | [] => some []
  | .int k' x :: l => if k = k' then (match sints k l with
    | some r => some (x :: r)
    | none => none) else none
  | _ :: _ => none
theorem sints_ok {ρ : Env} {α : Adr} {k : IntKind} : ∀ {vs : List SV} {us : List Value} {xs : List Sx}, sints k vs = some xs → VRels ρ α vs us → us = (xs.map (Sx.val ρ)).map (Value.int k)
  | [], us, xs, h, hv => by simp only [sints, Option.some.injEq] at h; simp only [VRels] at hv; subst h hv; rfl
  | s :: l, us, xs, h, hv => by
    cases s <;> simp only [sints, reduceCtorEq] at h
    split at h
    · rename_i hk
      subst hk
      cases hl : sints k l with
      | none => simp [hl] at h
      | some r =>
        simp only [hl, Option.some.injEq] at h
        subst h
        simp only [VRels, VRel] at hv
        obtain ⟨u, us', rfl, ⟨rfl, _⟩, h3⟩ := hv
        simp only [List.map_cons, sints_ok hl h3]
    · cases h
theorem eqArr {P : Program} {w : World} {t e : TypeId} {n d : Nat} {k k' : IntKind} (as bs : List Int) (h : P.underlying t = some (.array n e)) (he : P.underlying e = some (.int k')) (hs : tySize P e = some 1) (ha : as.length = n) (hb : bs.length = n) :
    (Op.equalIn (d + 2) t (.agg (as.map (Value.int k)).toArray) (.agg (bs.map (Value.int k)).toArray)).run P w = .ok (decide (as = bs)) w := by
  have hg : tyAgg P e = some false := by unfold tyAgg; rw [he]
  simp only [Op.equalIn, Sem.run_bind, run_und h, Result.andThen_ok, run_size hs, Std.Legacy.Range.forIn_eq_forIn_range', Std.Legacy.Range.size, Nat.sub_zero, Nat.add_sub_cancel, Nat.div_one]
  have key : ∀ m i, i + m = n → ∀ body, (∀ (j : Nat) (s : Option Bool × Unit) (hj : j < n), (body j s).run P w = if as[j]'(by omega) = bs[j]'(by omega) then .ok (.yield (none, ())) w else .ok (.done (some false, ())) w) →
      (forIn (m := Sem) (List.range' i m) ((none, ()) : Option Bool × Unit) body).run P w = .ok (if as.drop i = bs.drop i then (none, ()) else (some false, ())) w := by
    intro m
    induction m with
    | zero =>
      intro i hi body hb'
      have h1 : as.drop i = [] := List.drop_eq_nil_of_le (by omega)
      have h2 : bs.drop i = [] := List.drop_eq_nil_of_le (by omega)
      simp [h1, h2]
    | succ m ih =>
      intro i hi body hb'
      simp only [List.range'_succ, List.forIn_cons, Sem.run_bind, hb' i _ (show i < n by omega)]
      rw [List.drop_eq_getElem_cons (show i < as.length by omega), List.drop_eq_getElem_cons (show i < bs.length by omega)]
      by_cases hab : as[i]'(by omega) = bs[i]'(by omega)
      · simp only [hab, if_true, Result.andThen_ok, List.cons.injEq, true_and]
        exact ih (i + 1) (by omega) body hb'
      · simp only [hab, if_false, Result.andThen_ok, List.cons.injEq, false_and, Sem.run_pure]
  rw [key n 0 (by omega)]
  · by_cases hab : as = bs
    · subst hab; simp
    · simp [hab]
  · intro j s hj
    have p1 : (part e (as.map (Value.int k)).toArray (j * 1)).run P w = .ok (.int k (as[j]'(by omega))) w := by
      simp only [part, Sem.run_bind, run_agg hg, Result.andThen_ok, if_false, Bool.false_eq_true, List.getElem?_toArray, Nat.mul_one, List.getElem?_map, List.getElem?_eq_getElem (show j < as.length by omega), Option.map_some, Sem.run_pure]
    have p2 : (part e (bs.map (Value.int k)).toArray (j * 1)).run P w = .ok (.int k (bs[j]'(by omega))) w := by
      simp only [part, Sem.run_bind, run_agg hg, Result.andThen_ok, if_false, Bool.false_eq_true, List.getElem?_toArray, Nat.mul_one, List.getElem?_map, List.getElem?_eq_getElem (show j < bs.length by omega), Option.map_some, Sem.run_pure]
    simp only [Sem.run_bind, p1, p2, Result.andThen_ok, run_und he, if_true, Sem.run_pure, Sem.run_ite]
    by_cases hab : as[j]'(by omega) = bs[j]'(by omega)
    · simp [hab]
    · simp [hab]
/-- The fields of a struct lie one behind the other, each an integer of kind k. -/
def fieldsOk (P : Program) (k : IntKind) : Nat → List Field → Bool
  | _, [] => true
  | i, f :: l => (f.name != "_") && Nat.beq f.offset i && (match P.underlying f.type with
    | some (.int k') => decide (k' = k)
    | _ => false) && fieldsOk P k (i + 1) l
theorem fieldsOk_cons {P : Program} {k : IntKind} {i : Nat} {f : Field} {l : List Field} (h : fieldsOk P k i (f :: l) = true) : f.name ≠ "_" ∧ f.offset = i ∧ P.underlying f.type = some (.int k) ∧ fieldsOk P k (i + 1) l = true := by
  simp only [fieldsOk, Bool.and_eq_true, bne_iff_ne, ne_eq] at h
  obtain ⟨⟨⟨h1, h2⟩, h3⟩, h4⟩ := h
  refine ⟨h1, Nat.eq_of_beq_eq_true h2, ?_, h4⟩
  split at h3
  · rename_i k' hk
    rw [hk, of_decide_eq_true h3]
  · cases h3
theorem fieldsOk_mem {P : Program} {k : IntKind} : ∀ {l : List Field} {i : Nat}, fieldsOk P k i l = true → ∀ f ∈ l, P.underlying f.type = some (.int k)
  | [], _, _, f, hf => by cases hf
  | g :: l, i, h, f, hf => by
    obtain ⟨_, _, h3, h4⟩ := fieldsOk_cons h
    rcases List.mem_cons.1 hf with rfl | hf
    · exact h3
    · exact fieldsOk_mem h4 f hf
theorem eqFields_ok {P : Program} {w : World} {k : IntKind} {d : Nat} (as bs : List Int) : ∀ (fs : List Field) (i : Nat), fieldsOk P k i fs = true → as.length = i + fs.length → bs.length = i + fs.length →
    (Op.eqFields (d + 1) (as.map (Value.int k)).toArray (bs.map (Value.int k)).toArray fs).run P w = .ok (decide (as.drop i = bs.drop i)) w
  | [], i, _, ha, hb => by
    have h1 : as.drop i = [] := List.drop_eq_nil_of_le (by simp only [List.length_nil] at ha; omega)
    have h2 : bs.drop i = [] := List.drop_eq_nil_of_le (by simp only [List.length_nil] at hb; omega)
    simp [Op.eqFields, h1, h2]
  | f :: fs, i, h, ha, hb => by
    obtain ⟨h1, h2, h3, h4⟩ := fieldsOk_cons h
    simp only [List.length_cons] at ha hb
    have hg : tyAgg P f.type = some false := by unfold tyAgg; rw [h3]
    have p1 : (part f.type (as.map (Value.int k)).toArray f.offset).run P w = .ok (.int k (as[i]'(by omega))) w := by
      simp only [part, Sem.run_bind, run_agg hg, Result.andThen_ok, if_false, Bool.false_eq_true, List.getElem?_toArray, List.getElem?_map, h2, List.getElem?_eq_getElem (show i < as.length by omega), Option.map_some, Sem.run_pure]
    have p2 : (part f.type (bs.map (Value.int k)).toArray f.offset).run P w = .ok (.int k (bs[i]'(by omega))) w := by
      simp only [part, Sem.run_bind, run_agg hg, Result.andThen_ok, if_false, Bool.false_eq_true, List.getElem?_toArray, List.getElem?_map, h2, List.getElem?_eq_getElem (show i < bs.length by omega), Option.map_some, Sem.run_pure]
    have ih := eqFields_ok (w := w) (d := d) as bs fs (i + 1) h4 (by omega) (by omega)
    have e1 := List.drop_eq_getElem_cons (show i < as.length by omega)
    have e2 := List.drop_eq_getElem_cons (show i < bs.length by omega)
    simp only [Op.eqFields, ne_eq, h1, not_false_eq_true, if_true, Sem.run_bind, p1, p2, Result.andThen_ok, run_equalIn_int w d f.type k k _ _ h3, Sem.run_ite]
    rw [e1, e2]
    by_cases hab : as[i]'(by omega) = bs[i]'(by omega)
    · simp only [hab, beq_self_eq_true, Bool.not_true, Bool.false_eq_true, if_false, ih, List.cons.injEq, true_and]
    · have hb' : (as[i]'(by omega) == bs[i]'(by omega)) = false := beq_eq_false_iff_ne.2 hab
      simp only [hb', Bool.not_false, if_true, Sem.run_pure, List.cons.injEq, hab, false_and, decide_false]
theorem eqStruct {P : Program} {w : World} {t : TypeId} {fs : Array Field} {d : Nat} {k : IntKind} (as bs : List Int) (h : P.underlying t = some (.struct fs)) (hst : P.stoodInHeld t = false) (hf : fieldsOk P k 0 fs.toList = true) (ha : as.length = fs.size) (hb : bs.length = fs.size) :
    (Op.equalIn (d + 2) t (.agg (as.map (Value.int k)).toArray) (.agg (bs.map (Value.int k)).toArray)).run P w = .ok (decide (as = bs)) w := by
  have hfo : P.fieldsOf t = fs := by unfold Program.fieldsOf; rw [h]
  rw [run_equalIn_struct w (d + 1) t _ _ (by rw [hfo]; exact h) hst, hfo, eqFields_ok as bs fs.toList 0 hf (by simpa using ha) (by simpa using hb)]
  simp
theorem eqGuardStruct {P : Program} {t : TypeId} {fs : Array Field} {k : IntKind} (h : P.underlying t = some (.struct fs)) (hf : fieldsOk P k 0 fs.toList = true) : P.eqGuardType P.depth t = false := by
  unfold Program.depth
  simp only [Program.eqGuardType, h, Array.any_eq_false']
  intro f hm
  have := fieldsOk_mem hf f (by simpa using hm)
  simp [Program.eqGuardType, this]
theorem eqGuardArr {P : Program} {t e : TypeId} {n : Nat} {k' : IntKind} (h : P.underlying t = some (.array n e)) (he : P.underlying e = some (.int k')) : P.eqGuardType P.depth t = false := by
  unfold Program.depth
  simp only [Program.eqGuardType, h, he]

/-! ### the rest -/
def Sb.known (kn : Nat → Option Bool) : Sb → Option Bool
  | .c b => some b
  | .x i => kn i
def Kn (ρ : Env) (kn : Nat → Option Bool) : Prop := ∀ i d, kn i = some d → ρ.b i = d
theorem known_ok {ρ : Env} {kn : Nat → Option Bool} (h : Kn ρ kn) {s : Sb} {d : Bool} (hs : s.known kn = some d) : s.val ρ = d := by
  cases s with
  | c b => simpa [Sb.known, Sb.val] using hs
  | x i => exact h i d hs
def keep (ni nb : Nat) : Option SV → Option PR
  | some v => some (v, [], ni, nb)
  | none => none
theorem keep_some {ni nb : Nat} {o : Option SV} {r : PR} (h : keep ni nb o = some r) : o = some r.1 := by
  cases o with
  | none => cases h
  | some v => simp only [keep, Option.some.injEq] at h; rw [← h]
def isConstO : Operand → Bool
  | .const _ => true
  | _ => false
/-- '==' (and '!=' where neg) of what is no integer. -/
def seqv (P : Program) (kn : Nat → Option Bool) (ni nb : Nat) (neg : Bool) (t : TypeId) (cst : Bool) (x y : SV) : Option PR :=
  match x, y with
  | .bool a, .bool b =>
    match P.underlying t with
    | some .bool =>
      match a.known kn, b.known kn with
      | some p, some q => some (.bool (.c ((p == q) != neg)), [], ni, nb)
      | _, _ => some (.bool (.x nb), [.db nb (if neg then .bne else .beq) [] [] [a, b]], ni, nb + 1)
    | _ => none
  | .nili, .nili =>
    match P.underlying t with
    | some (.interface _) => if cst then some (.bool (.c (true != neg)), [], ni, nb) else none
    | _ => none
  | .nili, .iface _ _ | .iface _ _, .nili =>
    match P.underlying t with
    | some (.interface _) => some (.bool (.c (false != neg)), [], ni, nb)
    | _ => none
  | .agg vs, .agg us =>
    match P.underlying t with
    | some (.array n e) =>
      match P.underlying e with
      | some (.int k) =>
        match tySize P e, sints k vs, sints k us with
        | some 1, some xs, some ys => if xs.length = n ∧ ys.length = n then some (fb ni nb (if neg then .neqs else .eqs) (xs ++ ys)) else none
        | _, _, _ => none
      | _ => none
    | some (.struct fs) =>
      match fs.toList.head?.bind fun f => P.underlying f.type with
      | some (.int k) =>
        match sints k vs, sints k us with
        | some xs, some ys => if xs.length = fs.size ∧ ys.length = fs.size ∧ fieldsOk P k 0 fs.toList = true ∧ P.stoodInHeld t = false then some (fb ni nb (if neg then .neqs else .eqs) (xs ++ ys)) else none
        | _, _ => none
      | _ => none
    | _ => none
  | _, _ => none
theorem half_app {β : Type} (a b : List β) (h : a.length = b.length) : (a ++ b).take ((a ++ b).length / 2) = a ∧ (a ++ b).drop ((a ++ b).length / 2) = b := by
  have : (a ++ b).length / 2 = a.length := by simp; omega
  rw [this]; simp
theorem bool_pne (b neg : Bool) : (if neg then !b else b) = (b != neg) := by cases b <;> cases neg <;> rfl
/-- What '==' or '!=' makes of the answer. -/
theorem binOp_eq_run {P : Program} {w : World} {t : TypeId} {neg : Bool} {u v : Value} {b : Bool} (hu : ∀ k n, u ≠ .int k n) (hne : ∀ s, u ≠ .string s) (hf : ∀ k n, u ≠ .float k n) (hc : ∀ k n m, u ≠ .complex k n m)
    (h : (Op.equalIn 10000 t u v).run P w = .ok b w) : (binOp (if neg then .neq else .eql) t u v).run P w = .ok (.bool (b != neg)) w := by
  cases neg
  · cases u <;> first | (exact absurd rfl (hu _ _)) | (exact absurd rfl (hne _)) | (exact absurd rfl (hf _ _)) | (exact absurd rfl (hc _ _ _)) | skip
    all_goals simp only [Bool.false_eq_true, if_false, binOp, Op.equal, Op.maxDepth, Sem.run_bind, h, Result.andThen_ok, Sem.run_pure, Bool.bne_false]
  · cases u <;> first | (exact absurd rfl (hu _ _)) | (exact absurd rfl (hne _)) | (exact absurd rfl (hf _ _)) | (exact absurd rfl (hc _ _ _)) | skip
    all_goals simp only [if_true, binOp, Op.equal, Op.maxDepth, Sem.run_bind, h, Result.andThen_ok, Sem.run_pure, Bool.bne_true]
theorem eqB {P : Program} {w : World} {t : TypeId} (d : Nat) (a b : Bool) (ht : P.underlying t = some .bool) : (Op.equalIn (d + 1) t (.bool a) (.bool b)).run P w = .ok (a == b) w := by simp [Op.equalIn, run_und ht]
theorem eqNN {P : Program} {w : World} {t : TypeId} {ms : Array (String × TypeId)} (d : Nat) (ht : P.underlying t = some (.interface ms)) : (Op.equalIn (d + 1) t .nilIface .nilIface).run P w = .ok true w := by simp [Op.equalIn, run_und ht]
theorem eqNI {P : Program} {w : World} {t s : TypeId} {z : Value} {ms : Array (String × TypeId)} (d : Nat) (ht : P.underlying t = some (.interface ms)) : (Op.equalIn (d + 1) t .nilIface (.iface s z)).run P w = .ok false w := by simp [Op.equalIn, run_und ht]
theorem eqIN {P : Program} {w : World} {t s : TypeId} {z : Value} {ms : Array (String × TypeId)} (d : Nat) (ht : P.underlying t = some (.interface ms)) : (Op.equalIn (d + 1) t (.iface s z) .nilIface).run P w = .ok false w := by simp [Op.equalIn, run_und ht]
theorem guardNN {P : Program} {w : World} {t : TypeId} {op : BinOp} {ox oy : Operand} (hc : (isConstO ox || isConstO oy) = true) : (eqGuard op t ox oy .nilIface .nilIface).run P w = .ok () w := by
  unfold eqGuard
  cases ox <;> cases oy <;> simp only [isConstO, Bool.or_self, Bool.false_eq_true] at hc <;> cases op <;> simp
theorem seqv_ok {ρ : Env} {α : Adr} {P : Program} {w : World} {kn : Nat → Option Bool} {ni nb : Nat} {neg : Bool} {t : TypeId} {ox oy : Operand} {x y : SV} {u v : Value} {r : PR} (hk : Kn ρ kn)
    (h : seqv P kn ni nb neg t (isConstO ox || isConstO oy) x y = some r) (hs : Sat ρ r.2.1) (hu : VRel ρ α x u) (hv : VRel ρ α y v) :
    ∃ z, (do eqGuard (if neg then .neq else .eql) t ox oy u v; binOp (if neg then .neq else .eql) t u v : Sem Value).run P w = .ok z w ∧ VRel ρ α r.1 z := by
  have guard : ∀ (u v : Value), ((∃ a b, u = .bool a ∧ v = .bool b) ∨ (∃ s z, u = .nilIface ∧ v = .iface s z) ∨ (∃ s z, u = .iface s z ∧ v = .nilIface)) → (eqGuard (if neg then .neq else .eql) t ox oy u v).run P w = .ok () w := by
    rintro u v (⟨a, b, rfl, rfl⟩ | ⟨s, z, rfl, rfl⟩ | ⟨s, z, rfl, rfl⟩) <;> cases neg <;> simp [eqGuard]
  unfold seqv at h
  split at h
  · -- two bools
    rename_i a b
    simp only [VRel] at hu hv
    subst hu hv
    cases ht : P.underlying t with
    | none => simp [ht] at h
    | some d =>
      cases d <;> simp only [ht, reduceCtorEq] at h
      have he := eqB (P := P) (w := w) 9999 (a.val ρ) (b.val ρ) ht
      have hb := binOp_eq_run (neg := neg) (by simp) (by simp) (by simp) (by simp) he
      simp only [Sem.run_bind, guard _ _ (.inl ⟨_, _, rfl, rfl⟩), Result.andThen_ok, hb]
      refine ⟨_, rfl, ?_⟩
      split at h
      · rename_i p q hp hq
        simp only [Option.some.injEq] at h
        subst h
        simp only [VRel]
        rw [known_ok hk hp, known_ok hk hq]
        rfl
      · simp only [Option.some.injEq] at h
        subst h
        simp only [Sat, Ent.ok, and_true] at hs
        simp only [VRel, Sb.val, hs, List.map_cons, List.map_nil]
        cases neg <;> simp [Fb.sem, bne]
  · cases ht : P.underlying t with
    | none => simp [ht] at h
    | some d =>
      cases d <;> simp only [ht, reduceCtorEq] at h
      split at h
      · rename_i hc
        simp only [Option.some.injEq] at h
        subst h
        simp only [VRel] at hu hv
        subst hu hv
        have he := eqNN (P := P) (w := w) 9999 ht
        have hb := binOp_eq_run (neg := neg) (by simp) (by simp) (by simp) (by simp) he
        have hg := guardNN (P := P) (w := w) (t := t) (op := if neg then .neq else .eql) hc
        simp only [Sem.run_bind, hg, Result.andThen_ok, hb]
        exact ⟨_, rfl, by simp only [VRel, Sb.val]⟩
      · cases h
  · rename_i s0 v0
    cases ht : P.underlying t with
    | none => simp [ht] at h
    | some d =>
      cases d <;> simp only [ht, reduceCtorEq, Option.some.injEq] at h
      subst h
      simp only [VRel] at hu hv
      obtain ⟨z, rfl, _⟩ := hv
      subst hu
      have he := eqNI (P := P) (w := w) (s := s0) (z := z) 9999 ht
      have hb := binOp_eq_run (neg := neg) (by simp) (by simp) (by simp) (by simp) he
      simp only [Sem.run_bind, guard _ _ (.inr (.inl ⟨_, _, rfl, rfl⟩)), Result.andThen_ok, hb]
      exact ⟨_, rfl, by simp only [VRel, Sb.val]⟩
  · rename_i s0 v0
    cases ht : P.underlying t with
    | none => simp [ht] at h
    | some d =>
      cases d <;> simp only [ht, reduceCtorEq, Option.some.injEq] at h
      subst h
      simp only [VRel] at hu hv
      obtain ⟨z, rfl, _⟩ := hu
      subst hv
      have he := eqIN (P := P) (w := w) (s := s0) (z := z) 9999 ht
      have hb := binOp_eq_run (neg := neg) (by simp) (by simp) (by simp) (by simp) he
      simp only [Sem.run_bind, guard _ _ (.inr (.inr ⟨_, _, rfl, rfl⟩)), Result.andThen_ok, hb]
      exact ⟨_, rfl, by simp only [VRel, Sb.val]⟩
  · rename_i vs us
    cases ht : P.underlying t with
    | none => simp [ht] at h
    | some d =>
      cases d <;> simp only [ht, reduceCtorEq] at h
      case array n e =>
        cases hte : P.underlying e with
        | none => simp [hte] at h
        | some d =>
          cases d <;> simp only [hte, reduceCtorEq] at h
          rename_i k
          split at h
          · rename_i xs ys hz hx hy
            split at h
            · rename_i hl
              simp only [Option.some.injEq] at h
              subst h
              simp only [VRel] at hu hv
              obtain ⟨as, rfl, ha⟩ := hu
              obtain ⟨bs, rfl, hb⟩ := hv
              have e1 := sints_ok hx ha
              have e2 := sints_ok hy hb
              subst e1 e2
              have he := eqArr (P := P) (w := w) (d := 9998) (k := k) (xs.map (Sx.val ρ)) (ys.map (Sx.val ρ)) ht hte hz (by simpa using hl.1) (by simpa using hl.2)
              have hbb := binOp_eq_run (neg := neg) (by simp) (by simp) (by simp) (by simp) he
              have hg := run_eqGuard_agg (w := w) (if neg then .neq else .eql) t ox oy (List.map (Value.int k) (xs.map (Sx.val ρ))).toArray (List.map (Value.int k) (ys.map (Sx.val ρ))).toArray (eqGuardArr ht hte)
              simp only [Sem.run_bind, hg, Result.andThen_ok, hbb]
              refine ⟨_, rfl, ?_⟩
              have hf := fb_ok (α := α) _ _ _ _ hs
              have hh := half_app (xs.map (Sx.val ρ)) (ys.map (Sx.val ρ)) (by simp; omega)
              cases neg
              · simp only [Bool.false_eq_true, if_false, Fb.sem, List.map_append, hh.1, hh.2] at hf
                simpa using hf
              · simp only [if_true, Fb.sem, List.map_append, hh.1, hh.2] at hf
                simpa using hf
            · cases h
          · cases h
      case struct fs =>
        cases hh0 : (fs.toList.head?.bind fun f => P.underlying f.type) with
        | none => simp [hh0] at h
        | some d =>
          cases d <;> simp only [hh0, reduceCtorEq] at h
          rename_i k
          split at h
          · rename_i xs ys hx hy
            split at h
            · rename_i hl
              obtain ⟨hl1, hl2, hl3, hl4⟩ := hl
              simp only [Option.some.injEq] at h
              subst h
              simp only [VRel] at hu hv
              obtain ⟨as, rfl, ha⟩ := hu
              obtain ⟨bs, rfl, hb⟩ := hv
              have e1 := sints_ok hx ha
              have e2 := sints_ok hy hb
              subst e1 e2
              have he := eqStruct (P := P) (w := w) (d := 9998) (k := k) (xs.map (Sx.val ρ)) (ys.map (Sx.val ρ)) ht hl4 hl3 (by simpa using hl1) (by simpa using hl2)
              have hbb := binOp_eq_run (neg := neg) (by simp) (by simp) (by simp) (by simp) he
              have hg := run_eqGuard_agg (w := w) (if neg then .neq else .eql) t ox oy (List.map (Value.int k) (xs.map (Sx.val ρ))).toArray (List.map (Value.int k) (ys.map (Sx.val ρ))).toArray (eqGuardStruct ht hl3)
              simp only [Sem.run_bind, hg, Result.andThen_ok, hbb]
              refine ⟨_, rfl, ?_⟩
              have hf := fb_ok (α := α) _ _ _ _ hs
              have hh := half_app (xs.map (Sx.val ρ)) (ys.map (Sx.val ρ)) (by simp; omega)
              cases neg
              · simp only [Bool.false_eq_true, if_false, Fb.sem, List.map_append, hh.1, hh.2] at hf
                simpa using hf
              · simp only [if_true, Fb.sem, List.map_append, hh.1, hh.2] at hf
                simpa using hf
            · cases h
          · cases h
  · cases h
end Go.Proofs.YtpaidbefbkokfaaDoor

/- One function for all operations that touch no memory. No condition. -/
namespace Go.Proofs.YtpaidbefbkokfaaDoor
open Go Go.RowKit
set_option linter.unusedVariables false
set_option linter.unusedSimpArgs false

/-- The chunk that a table of a slice's elements names for an index. -/
def tblAt : List (Nat × Nat) → Nat → Option Nat
  | [], _ => none
  | (j, c) :: l, m => bif Nat.beq j m then some c else tblAt l m
theorem tblAt_mem : ∀ {l : List (Nat × Nat)} {m c : Nat}, tblAt l m = some c → (m, c) ∈ l
  | [], m, c, h => by simp [tblAt] at h
  | (j, d) :: l, m, c, h => by
    cases hb : Nat.beq j m with
    | true =>
      simp only [tblAt, hb, cond_true, Option.some.injEq] at h
      have := Nat.eq_of_beq_eq_true hb
      subst h this
      exact List.mem_cons_self ..
    | false =>
      simp only [tblAt, hb, cond_false] at h
      exact List.mem_cons_of_mem _ (tblAt_mem h)
def sidx (n : Int) (len : Nat) : Option Nat := if 0 ≤ n ∧ n < len then some n.toNat else none
theorem sidx_ok {n : Int} {len i : Nat} (h : sidx n len = some i) : 0 ≤ n ∧ n < len ∧ n.toNat = i := by
  unfold sidx at h
  split at h
  · rename_i hc
    simp only [Option.some.injEq] at h
    exact ⟨hc.1, hc.2, h⟩
  · cases h
def sbound (ev : Operand → Option SV) (x : Option Operand) (y dflt : Nat) : Option Nat :=
  match x with
  | none => some dflt
  | some o => match ev o with
    | some (.int _ (.c n)) => if 0 ≤ n ∧ n ≤ y then some n.toNat else none
    | _ => none
def sparts (ev : Operand → Option SV) : List (Nat × Operand) → Option (List (Nat × SV))
  | [] => some []
  | (i, x) :: l => match ev x, sparts ev l with
    | some s, some r => some ((i, s) :: r)
    | _, _ => none
def splaces (P : Program) : List Field → Option (List (Nat × Nat))
  | [] => some []
  | f :: l => match tySize P f.type, splaces P l with
    | some s, some r => some ((f.offset, s) :: r)
    | _, _ => none
def sbuild (P : Program) (t : TypeId) (ps : List (Nat × SV)) : Option (List SV) :=
  match zeroOf P t with
  | none => none
  | some z => match P.underlying t with
    | some (.struct fs) => match splaces P fs.toList with
      | some pl => sfill (pl[·]?) (z.map ofCell) ps
      | none => none
    | some (.array _ e) => match tySize P e with
      | some s => sfill (fun i => some (i * s, s)) (z.map ofCell) ps
      | none => none
    | _ => none

/-- An index that lies within bounds: what is to be shown. -/
def inB (nb m len : Nat) : List Ent := [.asm (.x (nb + 1)) true, .db (nb + 1) .lss [.x m, .c len] [] [], .asm (.x nb) true, .db nb .leq [.c 0, .x m] [] []]
def spure (P : Program) (kn : Nat → Option Bool) (ni nb : Nat) (ev : Operand → Option SV) : Op → Option PR
  | .move x => keep ni nb (ev x)
  | .assign x => keep ni nb (ev x)
  | .pick c a b => match ev c with
    | some (.bool s) => match s.known kn with
      | some true => keep ni nb (ev a)
      | some false => keep ni nb (ev b)
      | none => none
    | _ => none
  | .nilCheck x => match ev x with
    | some (.ptr c o) => some (.ptr c o, [], ni, nb)
    | _ => none
  | .binOp op t x y _ => match ev x, ev y with
    | some (.int k a), some (.int k' b) => sbinI ni nb op k k' a b
    | some sx, some sy => match op with
      | .eql => seqv P kn ni nb false t (isConstO x || isConstO y) sx sy
      | .neq => seqv P kn ni nb true t (isConstO x || isConstO y) sx sy
      | _ => none
    | _, _ => none
  | .unOp op _ x => match op, ev x with
    | .neg, some (.int k a) => some (fi ni nb k (.neg k) [a])
    | .xor, some (.int k a) => some (fi ni nb k (.not k) [a])
    | .not, some (.bool s) => match s.known kn with
      | some b => some (.bool (.c !b), [], ni, nb)
      | none => some (.bool (.x nb), [.db nb .not [] [] [s]], ni, nb + 1)
    | _, _ => none
  | .convert src dst x => match P.underlying src, P.underlying dst, ev x with
    | some _, some (.int k), some (.int _ a) => some (fi ni nb k (.conv k) [a])
    | _, _, _ => none
  | .makeInterface t x => match P.underlying t, ev x with
    | some (.interface _), _ => none
    | some _, some s => some (.iface t s, [], ni, nb)
    | _, _ => none
  | .fieldAddr t x f => match P.underlying t, ev x with
    | some (.struct fs), some (.ptr c o) => match fs[f]? with
      | some fd => match tySize P fd.type with
        | some 0 => none
        | some _ => some (.ptr c (o + fd.offset), [], ni, nb)
        | none => none
      | none => none
    | _, _ => none
  | .field t x f => match P.underlying t, ev x with
    | some (.struct fs), some (.agg vs) => match fs[f]? with
      | some fd => keep ni nb (spart P fd.type vs fd.offset)
      | none => none
    | _, _ => none
  | .indexAddr t x i => match ev i with
    | some (.int _ (.c n)) => match P.underlying t, ev x with
      | some (.array len e), some (.ptr c o) => match sidx n len, tySize P e with
        | some j, some s => some (.ptr c (o + j * s), [], ni, nb)
        | _, _ => none
      | some (.slice e), some (.slice c o len _) => match sidx n len, tySize P e with
        | some j, some s => some (.ptr c (o + j * s), [], ni, nb)
        | _, _ => none
      | _, _ => none
    | some (.int _ (.x m)) => match P.underlying t, ev x with
      | some (.array len e), some (.ptr c o) => match tySize P e with
        | some 1 => some (.ptrI c o m len, inB nb m len, ni, nb + 2)
        | _ => none
      | some (.slice e), some (.slice c o len _) => match tySize P e with
        | some 1 => some (.ptrI c o m len, inB nb m len, ni, nb + 2)
        | _ => none
      | some (.slice e), some (.tbl _ _ k l) => match tblAt l m, tySize P e with
        | some c, some s => if s = k then some (.ptr c 0, [], ni, nb) else none
        | _, _ => none
      | _, _ => none
    | _ => none
  | .index t x i => match ev i with
    | some (.int _ (.c n)) => match P.underlying t, ev x with
      | some (.array len e), some (.agg vs) => match sidx n len, tySize P e with
        | some j, some s => keep ni nb (spart P e vs (j * s))
        | _, _ => none
      | _, _ => none
    | _ => none
  | .extract x i => match ev x with
    | some (.tuple vs) => keep ni nb vs[i]?
    | _ => none
  | .slice t x lo hi none => match P.underlying t, ev x with
    | some (.array n e), some (.ptr c o) => match sbound ev hi n n, tySize P e with
      | some h, some s => match sbound ev lo h 0 with
        | some l => some (.slice c (if n = l then o else o + l * s) (h - l) (n - l), [], ni, nb)
        | none => none
      | _, _ => none
    | some (.slice e), some (.slice c o len cap) => match sbound ev hi cap len, tySize P e with
      | some h, some s => match sbound ev lo h 0 with
        | some l => if l < cap then some (.slice c (o + l * s) (h - l) (cap - l), [], ni, nb) else none
        | none => none
      | _, _ => none
    | _, _ => none
  | .build t parts => match sparts ev parts.toList with
    | some ps => match sbuild P t ps with
      | some vs => some (.agg vs, [], ni, nb)
      | none => none
    | none => none
  | .call c => match c.callee with
    | .builtin .len => match c.args.toList, c.argTypes[0]? with
      | [x], some t => match P.underlying t, ev x with
        | some (.slice _), some (.slice _ _ n _) => if inR .i64 (n : Int) then some (.int .i64 (.c n), [], ni, nb) else none
        | some (.slice _), some (.sl i) => some (.int .i64 (.x i), [], ni, nb)
        | some (.slice _), some (.tbl _ i _ _) => some (.int .i64 (.x i), [], ni, nb)
        | _, _ => none
      | _, _ => none
    | _ => none
  | _ => none

section
variable {ρ : Env} {α : Adr} {P : Program} {w : World} {ev : Operand → Option SV} {a : Act}
theorem add_none (b s n : Nat) : (⟨b, s, none⟩ : Addr).add n = ⟨b, s + n, none⟩ := by
  unfold Addr.add
  split
  · rename_i h; subst h; rfl
  · rfl
theorem sbound_ok (he : ∀ x s, ev x = some s → VRel ρ α s (a.eval x)) {x : Option Operand} {y d n : Nat} (h : sbound ev x y d = some n) :
    (x = none ∧ n = d) ∨ ∃ o k i, x = some o ∧ a.eval o = .int k i ∧ 0 ≤ i ∧ i ≤ y ∧ n = i.toNat := by
  unfold sbound at h
  cases x with
  | none => simp only [Option.some.injEq] at h; exact .inl ⟨rfl, h.symm⟩
  | some o =>
    right
    simp only at h
    split at h
    · rename_i k i hi
      split at h
      · rename_i hc
        simp only [Option.some.injEq] at h
        have := he o _ hi
        simp only [VRel, Sx.val] at this
        exact ⟨o, k, i, rfl, this.1, hc.1, hc.2, h.symm⟩
      · cases h
    · cases h
theorem sparts_ok (he : ∀ x s, ev x = some s → VRel ρ α s (a.eval x)) : ∀ {l : List (Nat × Operand)} {r : List (Nat × SV)}, sparts ev l = some r → PRel ρ α r (l.map fun (i, x) => (i, a.eval x))
  | [], r, h => by simp only [sparts, Option.some.injEq] at h; subst h; exact .nil
  | (i, x) :: l, r, h => by
    simp only [sparts] at h
    split at h
    · rename_i s r' hs hr
      simp only [Option.some.injEq] at h
      subst h
      exact .cons (he x s hs) (sparts_ok he hr)
    · cases h
theorem splaces_ok : ∀ {l : List Field} {r : List (Nat × Nat)}, splaces P l = some r → (List.mapM (m := Sem) (fun f => do pure (f.offset, ← sizeOf f.type)) l).run P w = .ok r w
  | [], r, h => by simp only [splaces, Option.some.injEq] at h; subst h; simp
  | f :: l, r, h => by
    simp only [splaces] at h
    split at h
    · rename_i s r' hs hr
      simp only [Option.some.injEq] at h
      subst h
      simp only [List.mapM_cons, Sem.run_bind, run_size hs, Result.andThen_ok, Sem.run_pure, splaces_ok hr]
    · cases h
theorem sbuild_ok {t : TypeId} {ps : List (Nat × SV)} {qs : List (Nat × Value)} {vs : List SV} (h : sbuild P t ps = some vs) (hp : PRel ρ α ps qs) :
    ∃ v, (Instr.build t qs.toArray).run P w = .ok v w ∧ VRel ρ α (.agg vs) v := by
  unfold sbuild at h
  cases hz : zeroOf P t with
  | none => simp [hz] at h
  | some z =>
    obtain ⟨zv, hrz, hzc⟩ := run_zero (w := w) hz
    simp only [hz] at h
    cases ht : P.underlying t with
    | none => simp [ht] at h
    | some d =>
      cases d <;> simp only [ht, reduceCtorEq] at h
      case struct fs =>
        cases hpl : splaces P fs.toList with
        | none => simp [hpl] at h
        | some pl =>
          simp only [hpl] at h
          obtain ⟨us, hu, hr⟩ := sfill_ok hp (ofCells_ok z) h
          refine ⟨.agg us.toArray, ?_, by simp only [VRel]; exact ⟨us, rfl, hr⟩⟩
          have hm : (Array.mapM (m := Sem) (fun f : Field => do pure (f.offset, ← sizeOf f.type)) fs).run P w = .ok pl.toArray w := by
            rw [Array.mapM_eq_mapM_toList]
            simp only [Sem.run_map, splaces_ok hpl, Result.andThen_ok]
          simp only [Instr.build, Sem.run_bind, hrz, Result.andThen_ok, run_und ht, hm, hzc, List.getElem?_toArray, hu, Sem.run_pure]
      case array n e =>
        cases hs : tySize P e with
        | none => simp [hs] at h
        | some s =>
          simp only [hs] at h
          obtain ⟨us, hu, hr⟩ := sfill_ok hp (ofCells_ok z) h
          refine ⟨.agg us.toArray, ?_, by simp only [VRel]; exact ⟨us, rfl, hr⟩⟩
          simp only [Instr.build, Sem.run_bind, hrz, Result.andThen_ok, run_und ht, run_size hs, hzc, hu, Sem.run_pure]
end
end Go.Proofs.YtpaidbefbkokfaaDoor

/- The model does what spure reckons. No condition. -/
namespace Go.Proofs.YtpaidbefbkokfaaDoor
open Go Go.RowKit
set_option linter.unusedVariables false
set_option linter.unusedSimpArgs false

section
variable {ρ : Env} {α : Adr} {P : Program} {w : World} {kn : Nat → Option Bool} {ni nb : Nat} {ev : Operand → Option SV} {a : Act}
theorem sub_bound {n : Nat} {o : Operand} {k : IntKind} {i : Int} {y : Nat} {code : BoundsCode} (h : a.eval o = .int k i) (h0 : 0 ≤ i) (h1 : i ≤ y) (hn : n = i.toNat) : (Instr.sliceBound (a.eval o) y code).run P w = .ok n w := by
  simp only [Instr.sliceBound, h, asIntOf, Sem.run_bind, Sem.run_pure, Result.andThen_ok, h0, h1, and_self, if_true, hn]
theorem bounds_ok (he : ∀ x s, ev x = some s → VRel ρ α s (a.eval x)) {lo hi : Option Operand} {isS : Bool} {len cap h l : Nat} (hh : sbound ev hi cap len = some h) (hl : sbound ev lo h 0 = some l) :
    (Instr.sliceBounds isS len cap (lo.map a.eval) (hi.map a.eval) none).run P w = .ok (l, h, cap) w := by
  rcases sbound_ok he hh with ⟨rfl, rfl⟩ | ⟨o, k, i, rfl, e1, e2, e3, e4⟩ <;> rcases sbound_ok he hl with ⟨rfl, rfl⟩ | ⟨o', k', i', rfl, f1, f2, f3, f4⟩
  · simp only [Instr.sliceBounds, Option.map_none, Sem.run_bind, Sem.run_pure, Result.andThen_ok]
  · simp only [Instr.sliceBounds, Option.map_none, Option.map_some, Sem.run_bind, Sem.run_pure, Result.andThen_ok, sub_bound f1 f2 f3 f4]
  · simp only [Instr.sliceBounds, Option.map_none, Option.map_some, Sem.run_bind, Sem.run_pure, Result.andThen_ok, sub_bound e1 e2 e3 e4]
  · simp only [Instr.sliceBounds, Option.map_none, Option.map_some, Sem.run_bind, Sem.run_pure, Result.andThen_ok, sub_bound e1 e2 e3 e4, sub_bound f1 f2 f3 f4]

theorem sbound_up {x : Option Operand} {y y' d n : Nat} (hy : y ≤ y') (h : sbound ev x y d = some n) : sbound ev x y' d = some n := by
  unfold sbound at h ⊢
  split at h
  · exact h
  · split at h
    · split at h
      · rename_i hc
        rw [if_pos ⟨hc.1, by omega⟩]; exact h
      · cases h
    · cases h
theorem inB_ok {nb m len : Nat} (h : Sat ρ (inB nb m len)) : 0 ≤ ρ.i m ∧ ρ.i m < len := by
  simp only [inB, Sat, Ent.ok, Sb.val, List.map_cons, List.map_nil, Sx.val, Fb.sem] at h
  obtain ⟨h1, h2, h3, h4, _⟩ := h
  rw [h1] at h2
  rw [h3] at h4
  exact ⟨of_decide_eq_true h4.symm, of_decide_eq_true h2.symm⟩
theorem spure_ok {o : Oper} {r : PR} (h : spure P kn ni nb ev o.op = some r) (hs : Sat ρ r.2.1) (hk : Kn ρ kn) (he : ∀ x s, ev x = some s → VRel ρ α s (a.eval x)) :
    ∃ v, (execOp a.eval o).run P w = .ok (.value v) w ∧ VRel ρ α r.1 v := by
  obtain ⟨dst, op, ty, pos, after, guard⟩ := o
  simp only at h
  cases op <;> simp only [spure, reduceCtorEq] at h
  case move x => exact ⟨_, by simp only [execOp, Sem.run_pure], he _ _ (keep_some h)⟩
  case assign x => exact ⟨_, by simp only [execOp, Sem.run_pure], he _ _ (keep_some h)⟩
  case pick c x y =>
    split at h
    · rename_i s hc
      have h1 := he _ _ hc
      simp only [VRel] at h1
      split at h
      · rename_i hkn
        refine ⟨a.eval x, ?_, he _ _ (keep_some h)⟩
        simp only [execOp, h1, known_ok hk hkn, asBool, Sem.run_bind, Sem.run_pure, Result.andThen_ok, if_true]
      · rename_i hkn
        refine ⟨a.eval y, ?_, he _ _ (keep_some h)⟩
        simp only [execOp, h1, known_ok hk hkn, asBool, Sem.run_bind, Sem.run_pure, Result.andThen_ok, if_false, Bool.false_eq_true]
      · cases h
    · cases h
  case nilCheck x =>
    split at h
    · rename_i c o hx
      simp only [Option.some.injEq] at h
      subst h
      have h1 := he _ _ hx
      have h2 := h1
      simp only [VRel] at h2
      obtain ⟨b, s, _, h3⟩ := h2
      refine ⟨a.eval x, ?_, h1⟩
      simp only [execOp, h3, Sem.run_pure]
    · cases h
  case binOp op t x y yt =>
    split at h
    · rename_i k i k' j hx hy
      have h1 := he _ _ hx
      have h2 := he _ _ hy
      simp only [VRel] at h1 h2
      obtain ⟨v, hv, hr⟩ := sbinI_ok (P := P) (w := w) (t := t) (α := α) h hs h1.2 h2.2
      refine ⟨v, ?_, hr⟩
      simp only [execOp, h1.1, h2.1, Sem.run_bind, eqGuard_int, Result.andThen_ok, hv, Sem.run_pure]
    · rename_i sx sy _ hx hy
      split at h
      · obtain ⟨z, hz, hr⟩ := seqv_ok (P := P) (w := w) hk h hs (he _ _ hx) (he _ _ hy)
        refine ⟨z, ?_, hr⟩
        simp only [Bool.false_eq_true, if_false] at hz
        simp only [execOp, Sem.run_bind] at hz ⊢
        rw [hz]; simp only [Result.andThen_ok, Sem.run_pure]
      · obtain ⟨z, hz, hr⟩ := seqv_ok (P := P) (w := w) hk h hs (he _ _ hx) (he _ _ hy)
        refine ⟨z, ?_, hr⟩
        simp only [if_true] at hz
        simp only [execOp, Sem.run_bind] at hz ⊢
        rw [hz]; simp only [Result.andThen_ok, Sem.run_pure]
      · cases h
    · cases h
  case unOp op t x =>
    split at h
    · rename_i k i hx
      simp only [Option.some.injEq] at h
      subst h
      have h1 := he _ _ hx
      simp only [VRel] at h1
      refine ⟨_, ?_, fi_ok _ _ _ _ _ hs (wr_in _ _)⟩
      simp only [execOp, h1.1, Op.unary, Op.intArith, Sem.run_bind, Sem.run_pure, Result.andThen_ok, wr_eq, Fi.sem, List.map_cons, List.map_nil]
    · rename_i k i hx
      simp only [Option.some.injEq] at h
      subst h
      have h1 := he _ _ hx
      simp only [VRel] at h1
      refine ⟨_, ?_, fi_ok _ _ _ _ _ hs (wr_in _ _)⟩
      have hmax : (BitVec.ofInt k.bits (if k.signed then -1 else k.max)).toNat = ubN k := by cases k <;> rfl
      simp only [execOp, h1.1, Op.unary, Op.intBits, Sem.run_bind, Sem.run_pure, Result.andThen_ok, wr_eq, Fi.sem, List.map_cons, List.map_nil, BitVec.toNat_xor, ub_eq, hmax]
    · rename_i s hx
      have h1 := he _ _ hx
      simp only [VRel] at h1
      have hrun : (execOp a.eval ⟨dst, .unOp .not t x, ty, pos, after, guard⟩).run P w = .ok (.value (.bool (!s.val ρ))) w := by
        simp only [execOp, h1, Op.unary, Sem.run_bind, Sem.run_pure, Result.andThen_ok]
      refine ⟨_, hrun, ?_⟩
      split at h
      · rename_i b hb
        simp only [Option.some.injEq] at h
        subst h
        simp only [VRel]
        rw [known_ok hk hb]; rfl
      · simp only [Option.some.injEq] at h
        subst h
        simp only [Sat, Ent.ok, and_true] at hs
        simp only [VRel]
        show Value.bool (!s.val ρ) = .bool (ρ.b nb)
        rw [hs]; rfl
    · cases h
  case convert src dst' x =>
    split at h
    · rename_i d k k' i hsrc hdst hx
      simp only [Option.some.injEq] at h
      subst h
      have h1 := he _ _ hx
      simp only [VRel] at h1
      refine ⟨_, ?_, fi_ok _ _ _ _ _ hs (wr_in _ _)⟩
      simp only [execOp, convert, h1.1, Sem.run_bind, run_und hsrc, run_und hdst, Result.andThen_ok, Conv.intToInt, Sem.run_pure, wr_eq, Fi.sem, List.map_cons, List.map_nil]
    · cases h
  case makeInterface t x =>
    split at h
    · cases h
    · rename_i d s hn ht hx
      simp only [Option.some.injEq] at h
      subst h
      refine ⟨.iface t (a.eval x), ?_, by simp only [VRel]; exact ⟨_, rfl, he _ _ hx⟩⟩
      cases d <;> first | (exact absurd rfl (hn _)) | (simp only [execOp, Instr.makeInterface, Sem.run_bind, run_und ht, Result.andThen_ok, Sem.run_pure])
    · cases h
  case fieldAddr t x f =>
    split at h
    · rename_i fs c o ht hx
      split at h
      · rename_i fd hf
        have h1 := he _ _ hx
        simp only [VRel] at h1
        obtain ⟨b, s, hα, h3⟩ := h1
        split at h
        · cases h
        · rename_i z hz0 hz
          simp only [Option.some.injEq] at h
          subst h
          refine ⟨.pointer (some ⟨b, s + (o + fd.offset), none⟩), ?_, by simp only [VRel]; exact ⟨b, s, hα, rfl⟩⟩
          have hz' : z ≠ 0 := fun e => hz0 e
          simp only [execOp, Instr.fieldAt, Sem.run_bind, run_und ht, Result.andThen_ok, hf, h3, Instr.sureAddr, Sem.run_pure, fieldPlace, run_size hz, hz', if_false, add_none, Nat.add_assoc]
        · cases h
      · cases h
    · cases h
  case field t x f =>
    split at h
    · rename_i fs vs ht hx
      split at h
      · rename_i fd hf
        have h1 := he _ _ hx
        simp only [VRel] at h1
        obtain ⟨us, h3, h4⟩ := h1
        obtain ⟨v, hv, hr⟩ := spart_ok (P := P) (w := w) (keep_some h) h4
        refine ⟨v, ?_, hr⟩
        simp only [execOp, Instr.field, Sem.run_bind, run_und ht, Result.andThen_ok, hf, h3, asAgg, Sem.run_pure, hv]
      · cases h
    · cases h
  case indexAddr t x i =>
    split at h
    · rename_i k n hi
      have h0 := he _ _ hi
      simp only [VRel, Sx.val] at h0
      split at h
      · rename_i len e c o ht hx
        split at h
        · rename_i j z hj hz
          simp only [Option.some.injEq] at h
          subst h
          obtain ⟨j0, j1, j2⟩ := sidx_ok hj
          have h1 := he _ _ hx
          simp only [VRel] at h1
          obtain ⟨b, s, hα, h3⟩ := h1
          refine ⟨.pointer (some ⟨b, s + (o + j * z), none⟩), ?_, by simp only [VRel]; exact ⟨b, s, hα, rfl⟩⟩
          simp only [execOp, Instr.indexAt, h0.1, asIntOf, Sem.run_bind, run_und ht, Result.andThen_ok, h3, Instr.sureAddr, Sem.run_pure, j0, j1, and_self, if_true, run_size hz, j2, add_none, Nat.add_assoc]
        · cases h
      · rename_i e c o len cap ht hx
        split at h
        · rename_i j z hj hz
          simp only [Option.some.injEq] at h
          subst h
          obtain ⟨j0, j1, j2⟩ := sidx_ok hj
          have h1 := he _ _ hx
          simp only [VRel] at h1
          obtain ⟨b, s, _, hα, _, h3⟩ := h1
          refine ⟨.pointer (some ⟨b, s + (o + j * z), none⟩), ?_, by simp only [VRel]; exact ⟨b, s, hα, rfl⟩⟩
          simp only [execOp, Instr.indexAt, h0.1, asIntOf, Sem.run_bind, run_und ht, Result.andThen_ok, h3, Instr.sureAddr, Sem.run_pure, j0, j1, and_self, if_true, run_size hz, j2, add_none, Nat.add_assoc]
        · cases h
      · cases h
    · rename_i k m hi
      have h0 := he _ _ hi
      simp only [VRel, Sx.val] at h0
      split at h
      · rename_i len e c o ht hx
        split at h
        · rename_i hz
          simp only [Option.some.injEq] at h
          subst h
          obtain ⟨m0, m1⟩ := inB_ok hs
          have h1 := he _ _ hx
          simp only [VRel] at h1
          obtain ⟨b, s, hα, h3⟩ := h1
          refine ⟨.pointer (some ⟨b, s + o + (ρ.i m).toNat, none⟩), ?_, by simp only [VRel]; exact ⟨b, s, hα, rfl, m0, m1⟩⟩
          simp only [execOp, Instr.indexAt, h0.1, asIntOf, Sem.run_bind, run_und ht, Result.andThen_ok, h3, Instr.sureAddr, Sem.run_pure, m0, m1, and_self, if_true, run_size hz, Nat.mul_one, add_none, Nat.add_assoc]
        · cases h
      · rename_i e c o len cap ht hx
        split at h
        · rename_i hz
          simp only [Option.some.injEq] at h
          subst h
          obtain ⟨m0, m1⟩ := inB_ok hs
          have h1 := he _ _ hx
          simp only [VRel] at h1
          obtain ⟨b, s, _, hα, _, h3⟩ := h1
          refine ⟨.pointer (some ⟨b, s + o + (ρ.i m).toNat, none⟩), ?_, by simp only [VRel]; exact ⟨b, s, hα, rfl, m0, m1⟩⟩
          simp only [execOp, Instr.indexAt, h0.1, asIntOf, Sem.run_bind, run_und ht, Result.andThen_ok, h3, Instr.sureAddr, Sem.run_pure, m0, m1, and_self, if_true, run_size hz, Nat.mul_one, add_none, Nat.add_assoc]
        · cases h
      · rename_i e q' i' kk l ht hx
        split at h
        · rename_i c z hc hz
          split at h
          · rename_i hk
            subst hk
            simp only [Option.some.injEq] at h
            subst h
            have h1 := he _ _ hx
            simp only [VRel] at h1
            obtain ⟨_, ad, n, cap, h3, hn, _, h4⟩ := h1
            obtain ⟨m0, m1, b, s, rfl, hα⟩ := h4 _ (tblAt_mem hc)
            simp only at m0 m1 hα
            refine ⟨.pointer (some ⟨b, s + (ρ.i m).toNat * z, none⟩), ?_, by simp only [VRel]; exact ⟨b, _, hα, rfl⟩⟩
            simp only [execOp, Instr.indexAt, h0.1, asIntOf, Sem.run_bind, run_und ht, Result.andThen_ok, h3, Instr.sureAddr, Sem.run_pure, m0, m1, and_self, if_true, run_size hz, add_none]
          · cases h
        · cases h
      · cases h
    · cases h
  case index t x i =>
    split at h
    · rename_i k n hi
      have h0 := he _ _ hi
      simp only [VRel, Sx.val] at h0
      split at h
      · rename_i len e vs ht hx
        split at h
        · rename_i j z hj hz
          obtain ⟨j0, j1, j2⟩ := sidx_ok hj
          have h1 := he _ _ hx
          simp only [VRel] at h1
          obtain ⟨us, h3, h4⟩ := h1
          obtain ⟨v, hv, hr⟩ := spart_ok (P := P) (w := w) (keep_some h) h4
          refine ⟨v, ?_, hr⟩
          simp only [execOp, Instr.index, h0.1, asIntOf, Sem.run_bind, run_und ht, Result.andThen_ok, h3, Sem.run_pure, j0, j1, and_self, if_true, run_size hz, j2, hv]
        · cases h
      · cases h
    · cases h
  case extract x i =>
    split at h
    · rename_i vs hx
      have h1 := he _ _ hx
      simp only [VRel] at h1
      obtain ⟨us, h3, h4⟩ := h1
      obtain ⟨u, hu, hr⟩ := VRels.get h4 (keep_some h)
      refine ⟨u, ?_, hr⟩
      simp only [execOp, Instr.extract, h3, List.getElem?_toArray, hu, Sem.run_bind, Sem.run_pure, Result.andThen_ok]
    · cases h
  case slice t x lo hi mx =>
    cases mx with
    | some m => cases h
    | none =>
      simp only at h
      split at h
      · rename_i n e c o ht hx
        split at h
        · rename_i hh s hhi hz
          split at h
          · rename_i l hlo
            simp only [Option.some.injEq] at h
            subst h
            have h1 := he _ _ hx
            simp only [VRel] at h1
            obtain ⟨b, s', hα, h3⟩ := h1
            have hb := bounds_ok (P := P) (w := w) (isS := false) he hhi hlo
            refine ⟨.slice (some ⟨b, s' + (if n = l then o else o + l * s), none⟩) (hh - l) (n - l), ?_, by simp only [VRel]; exact ⟨b, s', n - l, hα, Nat.le_refl _, rfl⟩⟩
            simp only [execOp, Instr.sliceAt, Sem.run_bind, run_und ht, Result.andThen_ok, h3, Instr.sureAddr, Sem.run_pure, Option.map_none, hb, run_size hz, add_none]
            by_cases hnl : n = l
            · simp only [hnl, if_true]
            · simp only [hnl, if_false, Nat.add_assoc]
          · cases h
        · cases h
      · rename_i e c o len cap ht hx
        split at h
        · rename_i hh s hhi hz
          split at h
          · rename_i l hlo
            split at h
            · rename_i hlc
              simp only [Option.some.injEq] at h
              subst h
              have h1 := he _ _ hx
              simp only [VRel] at h1
              obtain ⟨b, s', cap', hα, hcap, h3⟩ := h1
              have hb := bounds_ok (P := P) (w := w) (isS := true) he (sbound_up hcap hhi) hlo
              refine ⟨.slice (some ⟨b, s' + (o + l * s), none⟩) (hh - l) (cap' - l), ?_, by simp only [VRel]; exact ⟨b, s', cap' - l, hα, by omega, rfl⟩⟩
              simp only [execOp, Instr.sliceAt, Instr.slice, Sem.run_bind, run_und ht, Result.andThen_ok, h3, Sem.run_pure, Option.map_none, hb, run_size hz, Option.map_some, add_none]
              have hnl : cap' ≠ l := by omega
              simp only [hnl, if_false, Nat.add_assoc]
            · cases h
          · cases h
        · cases h
      · cases h
  case build t parts =>
    split at h
    · rename_i ps hp
      split at h
      · rename_i vs hb
        simp only [Option.some.injEq] at h
        subst h
        obtain ⟨v, hv, hr⟩ := sbuild_ok (P := P) (w := w) hb (sparts_ok he hp)
        refine ⟨v, ?_, hr⟩
        have e1 : (parts.map fun (i, x) => (i, a.eval x)) = (parts.toList.map fun (i, x) => (i, a.eval x)).toArray := by
          rw [← Array.toList_map]
        simp only [execOp, Sem.run_bind]
        rw [e1, hv]
        simp only [Result.andThen_ok, Sem.run_pure]
      · cases h
    · cases h
  case call c =>
    obtain ⟨callee, args, argTypes⟩ := c
    simp only at h
    split at h
    · split at h
      · rename_i x t hargs hty
        split at h
        · rename_i e c o n cap ht hx
          split at h
          · rename_i hn
            simp only [Option.some.injEq] at h
            subst h
            have h1 := he _ _ hx
            simp only [VRel] at h1
            obtain ⟨b, s', cap', hα, _, h3⟩ := h1
            refine ⟨.int .i64 n, ?_, by simp only [VRel, Sx.val, true_and]; exact hn⟩
            have hm : args.map a.eval = #[a.eval x] := by
              have : args = #[x] := by rw [← Array.toList_inj]; exact hargs
              rw [this]; simp
            simp only [execOp, resolve, Sem.run_bind, Sem.run_pure, Result.andThen_ok, invoke, builtin, hm, Builtin.len_, hty, List.getElem?_toArray, List.getElem?_cons_zero, run_und ht, h3, goInt]
          · cases h
        · rename_i e i ht hx
          simp only [Option.some.injEq] at h
          subst h
          have h1 := he _ _ hx
          simp only [VRel] at h1
          obtain ⟨ad, n, cap', h3, hn, hin⟩ := h1
          refine ⟨.int .i64 n, ?_, by simp only [VRel, Sx.val]; rw [← hn]; exact ⟨rfl, hin⟩⟩
          have hm : args.map a.eval = #[a.eval x] := by
            have : args = #[x] := by rw [← Array.toList_inj]; exact hargs
            rw [this]; simp
          simp only [execOp, resolve, Sem.run_bind, Sem.run_pure, Result.andThen_ok, invoke, builtin, hm, Builtin.len_, hty, List.getElem?_toArray, List.getElem?_cons_zero, run_und ht, h3, goInt]
        · rename_i e q' i kk l ht hx
          simp only [Option.some.injEq] at h
          subst h
          have h1 := he _ _ hx
          simp only [VRel] at h1
          obtain ⟨_, ad, n, cap', h3, hn, hin, _⟩ := h1
          refine ⟨.int .i64 n, ?_, by simp only [VRel, Sx.val]; rw [← hn]; exact ⟨rfl, hin⟩⟩
          have hm : args.map a.eval = #[a.eval x] := by
            have : args = #[x] := by rw [← Array.toList_inj]; exact hargs
            rw [this]; simp
          simp only [execOp, resolve, Sem.run_bind, Sem.run_pure, Result.andThen_ok, invoke, builtin, hm, Builtin.len_, hty, List.getElem?_toArray, List.getElem?_cons_zero, run_und ht, h3, goInt]
        · cases h
      · cases h
    · cases h
end
end Go.Proofs.YtpaidbefbkokfaaDoor
