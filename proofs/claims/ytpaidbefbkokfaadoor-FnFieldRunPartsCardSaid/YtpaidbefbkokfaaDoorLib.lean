/- Rules of functions that take integers and give integers. No condition. -/
import Derived.Test.YtpaidbefbkokfaaDoorEnv
namespace Go.Proofs.YtpaidbefbkokfaaDoor
open Go Go.RowKit
set_option linter.unusedVariables false
set_option linter.unusedSimpArgs false

inductive Pat where
  | i (k : IntKind)
  | a (ks : List IntKind)
  deriving Repr, Inhabited
inductive Shp where
  | one | tup | agg
  deriving Repr, Inhabited
/-- The values that integers are, by a pattern of parameters. -/
def ints : List IntKind → List Int → Option (List Value × List Int)
  | [], ns => some ([], ns)
  | k :: ks, n :: ns => match ints ks ns with
    | some (vs, rest) => some (.int k n :: vs, rest)
    | none => none
  | _ :: _, [] => none
def build : List Pat → List Int → Option (List Value)
  | [], [] => some []
  | [], _ :: _ => none
  | .i k :: ps, n :: ns => match build ps ns with
    | some vs => some (.int k n :: vs)
    | none => none
  | .i _ :: _, [] => none
  | .a ks :: ps, ns => match ints ks ns with
    | some (us, rest) => match build ps rest with
      | some vs => some (.agg us.toArray :: vs)
      | none => none
    | none => none
def kindsOf : List Pat → List IntKind
  | [] => []
  | .i k :: ps => k :: kindsOf ps
  | .a ks :: ps => ks ++ kindsOf ps
def fits : List IntKind → List Int → Prop
  | [], ns => ns = []
  | k :: ks, ns => ∃ n ns', ns = n :: ns' ∧ inR k n ∧ fits ks ns'
def shape : Shp → List Value → Value
  | .one, [v] => v
  | .one, _ => .tuple #[]
  | .tup, vs => .tuple vs.toArray
  | .agg, vs => .agg vs.toArray
/-- f gives of integers these integers, and changes nothing old. -/
def PureC (P : Program) (f : FuncId) (ps : List Pat) (outs : List (IntKind × Fi)) (sh : Shp) (Pre : List Int → Prop) : Prop :=
  ∀ (ns : List Int) (vs : List Value) (w : World), build ps ns = some vs → fits (kindsOf ps) ns → Pre ns →
    (∀ o ∈ outs, inR o.1 (o.2.sem ns)) ∧ Invokes P f vs.toArray w fun v w' => v = shape sh (outs.map fun o => .int o.1 (o.2.sem ns)) ∧ Fr (fun _ _ => False) w w'

/-! ### the same over symbols -/
def mints : List IntKind → List SV → Option (List Sx × List SV)
  | [], l => some ([], l)
  | k :: ks, .int k' x :: l => if k = k' then (match mints ks l with
    | some (xs, r) => some (x :: xs, r)
    | none => none) else none
  | _ :: _, _ => none
def matchP : List Pat → List SV → Option (List Sx)
  | [], [] => some []
  | [], _ :: _ => none
  | .i k :: ps, .int k' x :: l => if k = k' then (match matchP ps l with
    | some xs => some (x :: xs)
    | none => none) else none
  | .a ks :: ps, .agg us :: l => match mints ks us with
    | some (xs, []) => match matchP ps l with
      | some ys => some (xs ++ ys)
      | none => none
    | _ => none
  | _ :: _, _ => none
section
variable {ρ : Env} {α : Adr}
theorem fits_app : ∀ {ks ks' : List IntKind} {ns ns' : List Int}, fits ks ns → fits ks' ns' → fits (ks ++ ks') (ns ++ ns')
  | [], ks', ns, ns', h, h' => by simp only [fits] at h; subst h; simpa using h'
  | k :: ks, ks', ns, ns', h, h' => by
    simp only [fits] at h
    obtain ⟨n, ns1, rfl, h1, h2⟩ := h
    simp only [List.cons_append, fits]
    exact ⟨n, _, rfl, h1, fits_app h2 h'⟩
theorem mints_ok : ∀ {ks : List IntKind} {l : List SV} {xs : List Sx} {us : List Value}, mints ks l = some (xs, []) → VRels ρ α l us → fits ks (xs.map (Sx.val ρ)) ∧ ∀ rest, ints ks (xs.map (Sx.val ρ) ++ rest) = some (us, rest)
  | [], l, xs, us, h, hv => by
    simp only [mints, Option.some.injEq, Prod.mk.injEq] at h
    obtain ⟨rfl, rfl⟩ := h
    simp only [VRels] at hv
    subst hv
    exact ⟨rfl, fun rest => rfl⟩
  | k :: ks, [], xs, us, h, hv => by simp [mints] at h
  | k :: ks, s :: l, xs, us, h, hv => by
    cases s <;> simp only [mints, reduceCtorEq] at h
    split at h
    · rename_i hk
      subst hk
      split at h
      · rename_i xs' r hm
        simp only [Option.some.injEq, Prod.mk.injEq] at h
        obtain ⟨rfl, rfl⟩ := h
        simp only [VRels, VRel] at hv
        obtain ⟨u, us', rfl, ⟨rfl, h1⟩, h2⟩ := hv
        obtain ⟨h3, h4⟩ := mints_ok hm h2
        refine ⟨?_, fun rest => ?_⟩
        · simp only [List.map_cons, fits]; exact ⟨_, _, rfl, h1, h3⟩
        · simp only [List.map_cons, List.cons_append, ints, h4 rest]
      · cases h
    · cases h
theorem matchP_ok : ∀ {ps : List Pat} {l : List SV} {xs : List Sx} {vs : List Value}, matchP ps l = some xs → VRels ρ α l vs → fits (kindsOf ps) (xs.map (Sx.val ρ)) ∧ build ps (xs.map (Sx.val ρ)) = some vs
  | [], [], xs, vs, h, hv => by
    simp only [matchP, Option.some.injEq] at h
    subst h
    simp only [VRels] at hv
    subst hv
    exact ⟨rfl, rfl⟩
  | [], _ :: _, xs, vs, h, hv => by simp [matchP] at h
  | p :: ps, [], xs, vs, h, hv => by cases p <;> simp [matchP] at h
  | .i k :: ps, s :: l, xs, vs, h, hv => by
    cases s <;> simp only [matchP, reduceCtorEq] at h
    split at h
    · rename_i hk
      subst hk
      split at h
      · rename_i xs' hm
        simp only [Option.some.injEq] at h
        subst h
        simp only [VRels, VRel] at hv
        obtain ⟨u, us', rfl, ⟨rfl, h1⟩, h2⟩ := hv
        obtain ⟨h3, h4⟩ := matchP_ok hm h2
        refine ⟨?_, ?_⟩
        · simp only [kindsOf, List.map_cons, fits]; exact ⟨_, _, rfl, h1, h3⟩
        · simp only [List.map_cons, build, h4]
      · cases h
    · cases h
  | .a ks :: ps, s :: l, xs, vs, h, hv => by
    cases s <;> simp only [matchP, reduceCtorEq] at h
    rename_i us
    split at h
    · rename_i xs' hm
      split at h
      · rename_i ys hy
        simp only [Option.some.injEq] at h
        subst h
        simp only [VRels, VRel] at hv
        obtain ⟨u, us', rfl, ⟨zs, rfl, h1⟩, h2⟩ := hv
        obtain ⟨h3, h4⟩ := mints_ok hm h1
        obtain ⟨h5, h6⟩ := matchP_ok hy h2
        refine ⟨?_, ?_⟩
        · simp only [kindsOf, List.map_append]; exact fits_app h3 h5
        · simp only [List.map_append, build, h4, h6]
      · cases h
    · cases h
/-- The results, one behind the other. -/
def outsS (nb : Nat) (xs : List Sx) : Nat → List (IntKind × Fi) → List SV × List Ent × Nat
  | ni, [] => ([], [], ni)
  | ni, (k, f) :: l => match fi ni nb k f xs with
    | (s, es, ni1, _) => match outsS nb xs ni1 l with
      | (ss, es', ni2) => (s :: ss, es' ++ es, ni2)
def shapeS : Shp → List SV → SV
  | .one, [v] => v
  | .one, _ => .tuple []
  | .tup, vs => .tuple vs
  | .agg, vs => .agg vs
theorem outsS_ok {nb : Nat} {xs : List Sx} : ∀ {l : List (IntKind × Fi)} {ni : Nat}, (∀ o ∈ l, inR o.1 (o.2.sem (xs.map (Sx.val ρ)))) → Sat ρ (outsS nb xs ni l).2.1 → VRels ρ α (outsS nb xs ni l).1 (l.map fun o => .int o.1 (o.2.sem (xs.map (Sx.val ρ))))
  | [], ni, _, _ => by simp [outsS, VRels]
  | (k, f) :: l, ni, hin, hs => by
    simp only [outsS] at hs ⊢
    simp only [sat_app] at hs
    simp only [List.map_cons, VRels]
    refine ⟨_, _, rfl, fi_ok _ _ _ _ _ hs.2 (hin (k, f) (by simp)), ?_⟩
    exact outsS_ok (fun o ho => hin o (List.mem_cons_of_mem _ ho)) hs.1
theorem shape_ok {sh : Shp} {ss : List SV} {vs : List Value} (h : VRels ρ α ss vs) : VRel ρ α (shapeS sh ss) (shape sh vs) := by
  cases sh with
  | tup => simp only [shapeS, shape, VRel]; exact ⟨vs, rfl, h⟩
  | agg => simp only [shapeS, shape, VRel]; exact ⟨vs, rfl, h⟩
  | one =>
    have hl := h.length
    match ss, vs, h, hl with
    | [], [], h, _ => simp only [shapeS, shape, VRel]; exact ⟨[], rfl, h⟩
    | [s], [v], h, _ =>
      simp only [VRels] at h
      obtain ⟨u, us', e, h1, h2⟩ := h
      cases e
      simpa only [shapeS, shape] using h1
    | s :: s' :: ss, v :: v' :: vs, h, _ => simp only [shapeS, shape, VRel]; exact ⟨[], rfl, by simp [VRels]⟩
end
theorem MRep.grow {ρ : Env} {S : Nat → Nat → Prop} {w0 : World} {α : Adr} {M : List Chunk} {w w' : World} (h : MRep ρ S w0 α M w) (hf : Fr (fun _ _ => False) w w') : MRep ρ S w0 α M w' := by
  refine ⟨h.fr.trans hf (fun _ _ hx => hx.elim), h.out, fun c ch b s hc ha j x hx => ?_, fun c b s ha => Nat.lt_of_lt_of_le (h.lt c b s ha) hf.size, fun c ch b s hc ha hw j hj => ?_, h.dis⟩
  · obtain ⟨v, hv, hr⟩ := h.cell c ch b s hc ha j x hx
    exact ⟨v, hf.cell hv id, hr⟩
  · obtain ⟨v, hv, _⟩ := h.cell c ch b s hc ha j (ch.cells[j]) (by simp [hj])
    have := h.wr c ch b s hc ha hw j hj
    exact ⟨by rw [hf.frozen hv]; exact this.1, this.2⟩
def pureRule (ps : List Pat) (outs : List (IntKind × Fi)) (sh : Shp) (chk : List Ent → List Sx → Bool) : Rule := fun ms args =>
  match matchP ps args with
  | some xs => bif chk ms.tr xs then
      (match outsS ms.nb xs ms.ni outs with
       | (ss, es, ni) => some (shapeS sh ss, { ms with tr := es ++ ms.tr, ni := ni }))
      else none
  | none => none
theorem pureRule_ok {P : Program} {f : FuncId} {ps : List Pat} {outs : List (IntKind × Fi)} {sh : Shp} {Pre : List Int → Prop} (h : PureC P f ps outs sh Pre) {chk : List Ent → List Sx → Bool}
    (hchk : ∀ (ρ : Env) (tr : List Ent) (xs : List Sx), Sat ρ tr → chk tr xs = true → Pre (xs.map (Sx.val ρ))) : RuleOk P f (pureRule ps outs sh chk) := by
  intro ρ ms ms' args ret hr hs
  unfold pureRule at hr
  split at hr
  · rename_i xs hm
    cases hc : chk ms.tr xs with
    | false => simp [hc] at hr
    | true =>
      simp only [hc, cond_true, Option.some.injEq, Prod.mk.injEq] at hr
      obtain ⟨rfl, rfl⟩ := hr
      simp only [sat_app] at hs
      refine ⟨⟨hs.2, rfl, Nat.le_refl _⟩, fun S w0 α w vs hmem hg hv => ?_⟩
      obtain ⟨h1, h2⟩ := matchP_ok hm hv
      obtain ⟨h3, h4⟩ := h _ vs w h2 h1 (hchk ρ ms.tr xs hs.2 hc)
      refine h4.mono ?_
      rintro v w' ⟨rfl, hf⟩
      exact ⟨α, Ext.refl _ _, shape_ok (outsS_ok h3 hs.1), hmem.grow hf⟩
  · cases hr
def noChk : List Ent → List Sx → Bool := fun _ _ => true
/-- Whether a symbol is 0 or 1. -/
def bitB : List Ent → Sx → Bool
  | _, .c n => n == 0 || n == 1
  | .di j f xs :: l, .x i => bif Nat.beq j i then (match f, xs with
      | .addC, [_, _, _] => true
      | .subB, [_, _, _] => true
      | .conv .u64, [y] => bitB l y
      | _, _ => false) else bitB l (.x i)
  | _ :: l, x => bitB l x
  | [], _ => false
theorem bitB_ok {ρ : Env} : ∀ {tr : List Ent} {x : Sx}, Sat ρ tr → bitB tr x = true → x.val ρ = 0 ∨ x.val ρ = 1
  | tr, .c n, _, h => by cases tr <;> simpa [bitB, Sx.val] using h
  | [], .x i, _, h => by simp [bitB] at h
  | [], .l _ _, _, h => by simp [bitB] at h
  | [], .w _ _, _, h => by simp [bitB] at h
  | [], .o _ _, _, h => by simp [bitB] at h
  | [], .oi _ _, _, h => by simp [bitB] at h
  | [], .wi _ _, _, h => by simp [bitB] at h
  | e :: l, .l a b, hs, h => bitB_ok hs.2 (by cases e <;> simpa only [bitB] using h)
  | e :: l, .w a b, hs, h => bitB_ok hs.2 (by cases e <;> simpa only [bitB] using h)
  | e :: l, .o a b, hs, h => bitB_ok hs.2 (by cases e <;> simpa only [bitB] using h)
  | e :: l, .oi a b, hs, h => bitB_ok hs.2 (by cases e <;> simpa only [bitB] using h)
  | e :: l, .wi a b, hs, h => bitB_ok hs.2 (by cases e <;> simpa only [bitB] using h)
  | e :: l, .x i, hs, h => by
    cases e with
    | di j f xs =>
      simp only [bitB] at h
      cases hb : Nat.beq j i with
      | false => simp only [hb, cond_false] at h; exact bitB_ok hs.2 h
      | true =>
        have hji : j = i := Nat.eq_of_beq_eq_true hb
        subst hji
        simp only [hb, cond_true] at h
        have hd : ρ.i j = f.sem (xs.map (Sx.val ρ)) := hs.1
        split at h
        · show ρ.i j = 0 ∨ ρ.i j = 1
          rw [hd]
          simp only [List.map_cons, List.map_nil, Fi.sem]
          split
          · exact .inr rfl
          · exact .inl rfl
        · show ρ.i j = 0 ∨ ρ.i j = 1
          rw [hd]
          simp only [List.map_cons, List.map_nil, Fi.sem]
          split
          · exact .inr rfl
          · exact .inl rfl
        · rename_i y
          have := bitB_ok hs.2 h
          show ρ.i j = 0 ∨ ρ.i j = 1
          rw [hd]
          simp only [List.map_cons, List.map_nil, Fi.sem, wr]
          rcases this with h0 | h0 <;> rw [h0]
          · exact .inl rfl
          · exact .inr rfl
        · cases h
    | _ => exact bitB_ok hs.2 (by simpa only [bitB] using h)

/-! ### a contract out of a run -/
def intsFrom (i : Nat) : List IntKind → List SV
  | [] => []
  | k :: ks => .int k (.x i) :: intsFrom (i + 1) ks
def argsFrom (i : Nat) : List Pat → List SV
  | [] => []
  | .i k :: ps => .int k (.x i) :: argsFrom (i + 1) ps
  | .a ks :: ps => .agg (intsFrom i ks) :: argsFrom (i + ks.length) ps
theorem intsFrom_ok {ρ : Env} {α : Adr} : ∀ {ks ks' : List IntKind} {i : Nat} {ns rest : List Int} {us : List Value}, ints ks ns = some (us, rest) → fits (ks ++ ks') ns → (∀ j n, ns[j]? = some n → ρ.i (i + j) = n) →
    VRels ρ α (intsFrom i ks) us ∧ fits ks' rest ∧ ∀ j n, rest[j]? = some n → ρ.i (i + ks.length + j) = n
  | [], ks', i, ns, rest, us, h, hf, hn => by
    simp only [ints, Option.some.injEq, Prod.mk.injEq] at h
    obtain ⟨rfl, rfl⟩ := h
    exact ⟨by simp [intsFrom, VRels], hf, by simpa using hn⟩
  | k :: ks, ks', i, [], rest, us, h, hf, hn => by simp [ints] at h
  | k :: ks, ks', i, n :: ns, rest, us, h, hf, hn => by
    simp only [ints] at h
    split at h
    · rename_i vs r hi
      simp only [Option.some.injEq, Prod.mk.injEq] at h
      obtain ⟨rfl, rfl⟩ := h
      simp only [List.cons_append, fits] at hf
      obtain ⟨n', ns', e, h1, h2⟩ := hf
      cases e
      obtain ⟨h3, h4, h5⟩ := intsFrom_ok (i := i + 1) hi h2 fun j m hm => by
        have := hn (j + 1) m (by simpa using hm)
        rwa [show i + 1 + j = i + (j + 1) by omega]
      have h0 : ρ.i i = n := by simpa using hn 0 n (by simp)
      refine ⟨?_, h4, fun j m hm => ?_⟩
      · simp only [intsFrom, VRels, VRel, Sx.val]
        exact ⟨_, _, rfl, ⟨by rw [h0], by rw [h0]; exact h1⟩, h3⟩
      · have := h5 j m hm
        rwa [show i + (k :: ks).length + j = i + 1 + ks.length + j by simp; omega]
    · cases h
theorem argsFrom_ok {ρ : Env} {α : Adr} : ∀ {ps : List Pat} {i : Nat} {ns : List Int} {vs : List Value}, build ps ns = some vs → fits (kindsOf ps) ns → (∀ j n, ns[j]? = some n → ρ.i (i + j) = n) → VRels ρ α (argsFrom i ps) vs
  | [], i, [], vs, h, hf, hn => by simp only [build, Option.some.injEq] at h; subst h; simp [argsFrom, VRels]
  | [], i, _ :: _, vs, h, hf, hn => by simp [build] at h
  | .i k :: ps, i, [], vs, h, hf, hn => by simp [build] at h
  | .i k :: ps, i, n :: ns, vs, h, hf, hn => by
    simp only [build] at h
    split at h
    · rename_i us hb
      simp only [Option.some.injEq] at h
      subst h
      simp only [kindsOf, fits] at hf
      obtain ⟨n', ns', e, h1, h2⟩ := hf
      cases e
      have h0 : ρ.i i = n := by simpa using hn 0 n (by simp)
      simp only [argsFrom, VRels, VRel, Sx.val]
      refine ⟨_, _, rfl, ⟨by rw [h0], by rw [h0]; exact h1⟩, argsFrom_ok hb h2 fun j m hm => ?_⟩
      have := hn (j + 1) m (by simpa using hm)
      rwa [show i + 1 + j = i + (j + 1) by omega]
    · cases h
  | .a ks :: ps, i, ns, vs, h, hf, hn => by
    simp only [build] at h
    split at h
    · rename_i us rest hi
      split at h
      · rename_i vs' hb
        simp only [Option.some.injEq] at h
        subst h
        simp only [kindsOf] at hf
        obtain ⟨h1, h2, h3⟩ := intsFrom_ok (α := α) hi hf hn
        simp only [argsFrom, VRels, VRel]
        exact ⟨_, _, rfl, ⟨us, rfl, h1⟩, argsFrom_ok hb h2 h3⟩
      · cases h
    · cases h
def msN (n : Nat) : Ms := ⟨[], [], n, 0, 0, 0, [], []⟩
def retsS (l : List (IntKind × Sx)) : List SV := l.map fun p => .int p.1 p.2
theorem rets_val {ρ : Env} {α : Adr} : ∀ {l : List (IntKind × Sx)} {vs : List Value}, VRels ρ α (retsS l) vs → vs = l.map fun p => .int p.1 (p.2.val ρ)
  | [], vs, h => by simp only [retsS, List.map_nil, VRels] at h; subst h; rfl
  | (k, x) :: l, vs, h => by
    simp only [retsS, List.map_cons, VRels, VRel] at h
    obtain ⟨u, us', rfl, ⟨rfl, _⟩, h3⟩ := h
    simp only [List.map_cons, rets_val h3]
theorem shape_val {ρ : Env} {α : Adr} {sh : Shp} {l : List (IntKind × Sx)} {v : Value} (h : VRel ρ α (shapeS sh (retsS l)) v) (h1 : sh = .one → l.length = 1) : v = shape sh (l.map fun p => .int p.1 (p.2.val ρ)) := by
  cases sh with
  | tup => simp only [shapeS, VRel] at h; obtain ⟨us, rfl, h2⟩ := h; simp only [shape, rets_val h2]
  | agg => simp only [shapeS, VRel] at h; obtain ⟨us, rfl, h2⟩ := h; simp only [shape, rets_val h2]
  | one =>
    have h2 := h1 rfl
    match l, h2, h with
    | [(k, x)], _, h =>
      simp only [retsS, List.map_cons, List.map_nil, shapeS, VRel] at h
      simp only [List.map_cons, List.map_nil, shape]
      exact h.1
theorem pure_of_run {P : Program} {f : FuncId} {r : Rule} (hr : RuleOk P f r) {ps : List Pat} {outs : List (IntKind × Fi)} {sh : Shp} {Pre : List Int → Prop} {rets : List (IntKind × Sx)} {n : Nat} {ms' : Ms} (hn : (kindsOf ps).length = n)
    (h : runOk r (msN n) (argsFrom 0 ps) (shapeS sh (retsS rets)) ms') (h1 : sh = .one → rets.length = 1)
    (math : ∀ (ρ : Env) (ns : List Int), fits (kindsOf ps) ns → Pre ns → (∀ j m, ns[j]? = some m → ρ.i j = m) → Defs ρ ms'.tr → Asms ρ ms'.tr ∧ rets.map (fun p => (p.1, p.2.val ρ)) = outs.map fun o => (o.1, o.2.sem ns))
    (hin : ∀ ns, fits (kindsOf ps) ns → Pre ns → ∀ o ∈ outs, inR o.1 (o.2.sem ns)) : PureC P f ps outs sh Pre := by
  intro ns vs w hb hf hp
  refine ⟨hin ns hf hp, ?_⟩
  have hlen : ns.length = n := by
    rw [← hn]
    have : ∀ (ks : List IntKind) (l : List Int), fits ks l → l.length = ks.length := by
      intro ks
      induction ks with
      | nil => intro l hl; simp only [fits] at hl; simp [hl]
      | cons k ks ih => intro l hl; simp only [fits] at hl; obtain ⟨m, l', rfl, _, h2⟩ := hl; simp [ih l' h2]
    exact this _ _ hf
  let ρ : Env := ⟨fun j => ns.getD j 0, fun _ => false, fun _ => zeroE, fun _ => 0, fun _ => .nilIface⟩
  have hρ : ∀ j m, ns[j]? = some m → ρ.i j = m := fun j m hm => by simp [ρ, List.getD, hm]
  have hm0 : MRep ρ (fun _ _ => False) w (fun _ => none) (msN n).mem w := ⟨Fr.refl _ _, fun _ _ => rfl, by simp, by simp, by simp, by simp⟩
  have up : ∀ ρ' : Env, Agree (msN n).cn ρ ρ' → ∀ j m, ns[j]? = some m → ρ'.i j = m := fun ρ' ha j m hm => by
    rw [ha.i j (by show j < n; rw [← hlen]; exact (List.getElem?_eq_some_iff.1 hm).1)]; exact hρ j m hm
  refine (run_calls hr h hm0 (fun g c hgc => by simp [msN] at hgc) (argsFrom_ok (i := 0) hb hf (by simpa using hρ)) fun ρ' ha hd => (math ρ' ns hf hp (up ρ' ha) hd).1).mono ?_
  rintro v w' ⟨ρ', α', ha, hd, _, hv, hm⟩
  refine ⟨?_, hm.fr⟩
  have he := (math ρ' ns hf hp (up ρ' ha) hd).2
  rw [shape_val hv h1]
  congr 1
  have e1 : (rets.map fun p => Value.int p.1 (p.2.val ρ')) = (rets.map (fun p => (p.1, p.2.val ρ'))).map fun q => Value.int q.1 q.2 := by rw [List.map_map]; rfl
  rw [e1, he, List.map_map]; rfl
end Go.Proofs.YtpaidbefbkokfaaDoor
