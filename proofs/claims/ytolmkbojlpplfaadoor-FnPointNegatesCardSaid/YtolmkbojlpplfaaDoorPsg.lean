/- SetBytes of a point, NewIdentityPoint and NewGeneratorPoint as rules, over functions that tell what they give. No condition. -/
import Derived.Test.YtolmkbojlpplfaaDoorCk
import Derived.Test.YtolmkbojlpplfaaDoorVv
import Derived.Test.YtolmkbojlpplfaaDoorPsm
namespace Go.Proofs.YtolmkbojlpplfaaDoor
open Go Go.RowKit
set_option linter.unusedVariables false
set_option linter.unusedSimpArgs false
set_option maxRecDepth 100000

def gZ : Nat := 0
def gO : Nat := 2
def gS : Nat := 1
/-- The field's variables hold what the program's text says. -/
def VarsOk (w : World) (q0 q1 q2 : Nat × Nat) : Prop := PtsTo w gZ q0 (litE 0 0 0 0 0) ∧ PtsTo w gO q1 (litE 1 0 0 0 0) ∧ PtsTo w gS q2 (litE 1718705420411056 234908883556509 2233514472574048 2117202627021982 765476049583133)
def LV (q0 q1 q2 : Nat × Nat) : List ((Nat × Nat) × Nat) := [((gZ, 0), 1), (q0, 5), ((gO, 0), 1), (q1, 5), ((gS, 0), 1), (q2, 5)]
abbrev FnE := List Elt → List Int → List Nat → Elt
abbrev FnN := List Elt → List Int → List Nat → Nat
abbrev FnB := List Int → List Nat → List Bool → Bool
def IsV (isV : FnN) : Prop := ∀ a b c, word (isV [a, b, c] [] []) 0 = 1 → a = litE 0 0 0 0 0 ∧ b = litE 1 0 0 0 0 ∧ c = litE 1718705420411056 234908883556509 2233514472574048 2117202627021982 765476049583133
def PsC (P : Program) (f : FuncId) (T : Nat) (ptf : FnB) (fx fy fz ft : FnE) : Prop := ∀ (w : World) (v q q0 q1 q2 : Nat × Nat) (n c : Nat), 32 ≤ c → Own 20 w v → RoN 32 w q n → VarsOk w q0 q1 q2 → ApAll (LV q0 q1 q2 ++ [(v, 20), (q, 32)]) →
  Invokes P f #[ptrV v, sliceV q 32 c] w fun r w' => (ptf [] [n] [] = true → r = .tuple #[ptrV v, .nilIface] ∧ Fr (InN 20 v) w w' ∧ RdP w' v (fx [] [] [n]) (fy [] [] [n]) (fz [] [] [n]) (ft [] [] [n])) ∧
    (ptf [] [n] [] = false → (∃ u, r = .tuple #[.pointer none, .iface T u]) ∧ Fr (fun _ _ => False) w w')
/-- A function without arguments that makes a point. -/
def NpC (P : Program) (f : FuncId) (fx fy fz ft : FnE) : Prop := ∀ (w : World) (q0 q1 q2 : Nat × Nat), VarsOk w q0 q1 q2 → ApAll (LV q0 q1 q2) →
  Invokes P f #[] w fun r w' => ∃ q : Nat × Nat, r = ptrV q ∧ w.heap.size ≤ q.1 ∧ Own 20 w' q ∧ RdP w' q (fx [] [] []) (fy [] [] []) (fz [] [] []) (ft [] [] []) ∧ Fr (fun _ _ => False) w w'

/-! ### rules -/
def gat : List (Nat × Nat) → Nat → Option Nat
  | [], _ => none
  | (g, c) :: l, h => bif Nat.beq g h then some c else gat l h
theorem gat_ok : ∀ {l : List (Nat × Nat)} {g c : Nat}, gat l g = some c → (g, c) ∈ l
  | [], g, c, h => by simp [gat] at h
  | (g', c') :: l, g, c, h => by
    simp only [gat] at h
    cases hb : Nat.beq g' g with
    | true =>
      have := Nat.eq_of_beq_eq_true hb
      simp only [hb, cond_true, Option.some.injEq] at h
      subst this h
      simp
    | false => simp only [hb, cond_false] at h; exact List.mem_cons_of_mem _ (gat_ok h)
/-- A variable: its chunk, the chunk that it points to, and the element there. -/
def varE (ms : Ms) (g : Nat) : Option (Nat × Nat × Nat) := match gat ms.gl g with
  | some c => match ms.mem[c]? with
    | some ch => match ch.cells with
      | [.ptr d 0] => match readE ms.mem (d, 0) with
        | some e => some (c, d, e)
        | none => none
      | _ => none
    | none => none
  | none => none
def nodupB : List Nat → Bool
  | [] => true
  | x :: l => !(l.contains x) && nodupB l
theorem nodupB_ok : ∀ {l : List Nat}, nodupB l = true → ∀ {i j a b : Nat}, i < j → l[i]? = some a → l[j]? = some b → a ≠ b
  | [], _, i, j, a, b, _, h, _ => by simp at h
  | x :: l, h, i, j + 1, a, b, hlt, hi, hj => by
    simp only [nodupB, Bool.and_eq_true, Bool.not_eq_true'] at h
    simp only [List.getElem?_cons_succ] at hj
    cases i with
    | zero =>
      simp only [List.getElem?_cons_zero, Option.some.injEq] at hi
      subst hi
      intro e
      subst e
      have := List.mem_of_getElem? hj
      simp_all
    | succ i => exact nodupB_ok h.2 (i := i) (j := j) (by omega) (by simpa using hi) hj
  | x :: l, h, i, 0, a, b, hlt, _, _ => by omega
theorem apAll_of {ρ : Env} {S : Nat → Nat → Prop} {w0 : World} {α : Adr} {M : List Chunk} {w : World} (hm : MRep ρ S w0 α M w) {L : List (Nat × Nat × Nat)} {Q : List ((Nat × Nat) × Nat)} (hlen : L.length = Q.length)
    (h : ∀ (i : Nat) x, L[i]? = some x → ∃ ch b s, M[x.1]? = some ch ∧ α x.1 = some (b, s) ∧ x.2.1 + x.2.2 ≤ ch.cells.length ∧ Q[i]? = some ((b, s + x.2.1), x.2.2)) (hd : nodupB (L.map (·.1)) = true) : ApAll Q := by
  intro i j p p' n n' hlt hi hj
  have hli : i < L.length := by rw [hlen]; exact (List.getElem?_eq_some_iff.1 hi).1
  have hlj : j < L.length := by rw [hlen]; exact (List.getElem?_eq_some_iff.1 hj).1
  obtain ⟨ch, b, s, h1, h2, h3, h4⟩ := h i (L[i]'hli) (by simp)
  obtain ⟨ch', b', s', h1', h2', h3', h4'⟩ := h j (L[j]'hlj) (by simp)
  rw [hi] at h4
  rw [hj] at h4'
  obtain ⟨rfl, rfl⟩ := Prod.mk.inj (Option.some.inj h4)
  obtain ⟨rfl, rfl⟩ := Prod.mk.inj (Option.some.inj h4')
  have hne := nodupB_ok hd hlt (a := (L[i]'hli).1) (b := (L[j]'hlj).1) (by simp [hli]) (by simp [hlj])
  have := hm.dis (L[i]'hli).1 (L[j]'hlj).1 ch ch' b s b' s' hne h1 h1' h2 h2'
  simp only [Apart]
  omega
theorem varE_ok {ρ : Env} {S : Nat → Nat → Prop} {w0 : World} {α : Adr} {ms : Ms} {w : World} (hm : MRep ρ S w0 α ms.mem w) (hg : GRep ms.gl α) {g c d e : Nat} (h : varE ms g = some (c, d, e)) :
    ∃ q : Nat × Nat, α c = some (g, 0) ∧ α d = some q ∧ PtsTo w g q (ρ.e e) ∧ (∃ ch, ms.mem[c]? = some ch ∧ 1 ≤ ch.cells.length) ∧ ∃ ch, ms.mem[d]? = some ch ∧ 5 ≤ ch.cells.length := by
  unfold varE at h
  split at h
  · rename_i c' hc
    split at h
    · rename_i ch hch
      split at h
      · rename_i d' hcells
        split at h
        · rename_i e' he
          simp only [Option.some.injEq, Prod.mk.injEq] at h
          obtain ⟨rfl, rfl, rfl⟩ := h
          have ha : α c' = some (g, 0) := hg g c' (gat_ok hc)
          obtain ⟨u, hu, hr⟩ := hm.cell c' ch g 0 hch ha 0 (.ptr d' 0) (by rw [hcells]; rfl)
          simp only [VRel] at hr
          obtain ⟨b, s, hd, rfl⟩ := hr
          obtain ⟨ch2, hc2, hl2⟩ := readE_len he
          refine ⟨(b, s), ha, hd, ⟨hu, ?_⟩, ⟨ch, hch, by rw [hcells]; simp⟩, ch2, hc2, by simpa using hl2⟩
          have := readE_ok (p := (d', 0)) hm he hd
          simpa using this
        · cases h
      · cases h
    · cases h
  · cases h
/-- The assumption that the variables hold their values. -/
def asmV (isV : FnN) (es : List Nat) (ms : Ms) : Ms := { ms with tr := .asm (.x ms.nb) true :: .db ms.nb .eql [.w ms.nn 0, .c 1] [] [] :: .dn ms.nn (.fx "isVf" isV) es [] [] :: ms.tr, nb := ms.nb + 1, nn := ms.nn + 1 }
theorem asmV_ok {ρ : Env} {isV : FnN} (hV : IsV isV) {e0 e1 e2 : Nat} {ms : Ms} (hs : Sat ρ (asmV isV [e0, e1, e2] ms).tr) : Sat ρ ms.tr ∧ ρ.e e0 = litE 0 0 0 0 0 ∧ ρ.e e1 = litE 1 0 0 0 0 ∧ ρ.e e2 = litE 1718705420411056 234908883556509 2233514472574048 2117202627021982 765476049583133 := by
  obtain ⟨h1, h2, h3, h4⟩ := hs
  have e1 : ρ.n ms.nn = isV [ρ.e e0, ρ.e e1, ρ.e e2] [] [] := h3
  have e2 : ρ.b ms.nb = (((word (ρ.n ms.nn) 0 : Nat) : Int) == 1) := h2
  have e3 : ρ.b ms.nb = true := h1
  rw [e3, e1] at e2
  have e4 := beq_iff_eq.1 e2.symm
  exact ⟨h4, hV _ _ _ (by omega)⟩
/-- Four new elements, functions of a number. -/
def newPt (fx fy fz ft : FnE) (nx ny nz nt : String) (ns : List Nat) (ms : Ms) : Ms :=
  { ms with tr := .de (ms.ne + 3) (.fx nt ft) [] [] ns :: .de (ms.ne + 2) (.fx nz fz) [] [] ns :: .de (ms.ne + 1) (.fx ny fy) [] [] ns :: .de ms.ne (.fx nx fx) [] [] ns :: ms.tr, ne := ms.ne + 4 }
theorem newPt_ok {ρ : Env} {fx fy fz ft : FnE} {nx ny nz nt : String} {ns : List Nat} {ms : Ms} (hs : Sat ρ (newPt fx fy fz ft nx ny nz nt ns ms).tr) :
    Sat ρ ms.tr ∧ ρ.e ms.ne = fx [] [] (ns.map ρ.n) ∧ ρ.e (ms.ne + 1) = fy [] [] (ns.map ρ.n) ∧ ρ.e (ms.ne + 2) = fz [] [] (ns.map ρ.n) ∧ ρ.e (ms.ne + 3) = ft [] [] (ns.map ρ.n) := by
  obtain ⟨h1, h2, h3, h4, h5⟩ := hs
  exact ⟨h5, h4, h3, h2, h1⟩
def psRule (T : Nat) (isV : FnN) (ptf : FnB) (fx fy fz ft : FnE) : Rule := fun ms args => match args with
  | [.ptr c o, .slice c' o' 32 m] => match varE ms gZ, varE ms gO, varE ms gS with
    | some (c0, d0, e0), some (c1, d1, e1), some (c2, d2, e2) => match ms.mem[c]?, ms.mem[c']? with
      | some ch, some ch' => bif nodupB [c0, d0, c1, d1, c2, d2, c, c'] && ch.wr && Nat.ble (o + 20) ch.cells.length && Nat.beq ((ch'.cells.drop o').take 32).length 32 && Nat.ble 32 m then (match asNum ms ((ch'.cells.drop o').take 32) with
        | some (n, ms1) => match asmV isV [e0, e1, e2] ms1 with
          | ms2 => match ms2.orc with
            | b :: orc => match ({ ms2 with tr := .asm (.x ms2.nb) b :: .db ms2.nb (.fx "ptf" ptf) [] [n] [] :: ms2.tr, nb := ms2.nb + 1, orc := orc } : Ms) with
              | ms3 => bif b then some (.tuple [.ptr c o, .nili], { newPt fx fy fz ft "pXf" "pYf" "pZf" "pTf" [n] ms3 with mem := ms3.mem.set c { ch with cells := setL ch.cells o (pt4S ms3.ne (ms3.ne + 1) (ms3.ne + 2) (ms3.ne + 3)) } })
                else some (.tuple [.nilp, .iface T .any], ms3)
            | [] => none
        | none => none) else none
      | _, _ => none
    | _, _, _ => none
  | _ => none
def npRule (isV : FnN) (fx fy fz ft : FnE) (nx ny nz nt : String) : Rule := fun ms args => match args with
  | [] => match varE ms gZ, varE ms gO, varE ms gS with
    | some (c0, d0, e0), some (c1, d1, e1), some (c2, d2, e2) => bif nodupB [c0, d0, c1, d1, c2, d2] then (match newPt fx fy fz ft nx ny nz nt [] (asmV isV [e0, e1, e2] ms) with
      | ms2 => some (.ptr ms.mem.length 0, { ms2 with mem := ms.mem ++ [⟨pt4S ms.ne (ms.ne + 1) (ms.ne + 2) (ms.ne + 3), true⟩] })) else none
    | _, _, _ => none
  | _ => none
theorem vars_at {ρ : Env} {S : Nat → Nat → Prop} {w0 : World} {α : Adr} {ms : Ms} {w : World} (hm : MRep ρ S w0 α ms.mem w) (hg : GRep ms.gl α) {c0 d0 e0 c1 d1 e1 c2 d2 e2 : Nat} (h0 : varE ms gZ = some (c0, d0, e0)) (h1 : varE ms gO = some (c1, d1, e1)) (h2 : varE ms gS = some (c2, d2, e2))
    (k0 : ρ.e e0 = litE 0 0 0 0 0) (k1 : ρ.e e1 = litE 1 0 0 0 0) (k2 : ρ.e e2 = litE 1718705420411056 234908883556509 2233514472574048 2117202627021982 765476049583133) :
    ∃ q0 q1 q2 : Nat × Nat, VarsOk w q0 q1 q2 ∧ ∀ (i : Nat) x, [(c0, 0, 1), (d0, 0, 5), (c1, 0, 1), (d1, 0, 5), (c2, 0, 1), (d2, 0, 5)][i]? = some x → ∃ ch b s, ms.mem[x.1]? = some ch ∧ α x.1 = some (b, s) ∧ x.2.1 + x.2.2 ≤ ch.cells.length ∧ (LV q0 q1 q2)[i]? = some ((b, s + x.2.1), x.2.2) := by
  obtain ⟨q0, a0, b0, p0, ⟨ch0, m0, l0⟩, ch0', m0', l0'⟩ := varE_ok hm hg h0
  obtain ⟨q1, a1, b1, p1, ⟨ch1, m1, l1⟩, ch1', m1', l1'⟩ := varE_ok hm hg h1
  obtain ⟨q2, a2, b2, p2, ⟨ch2, m2, l2⟩, ch2', m2', l2'⟩ := varE_ok hm hg h2
  rw [k0] at p0
  rw [k1] at p1
  rw [k2] at p2
  refine ⟨q0, q1, q2, ⟨p0, p1, p2⟩, fun i x hx => ?_⟩
  match i, hx with
  | 0, hx => obtain rfl := Option.some.inj hx; exact ⟨ch0, gZ, 0, m0, a0, by simpa using l0, rfl⟩
  | 1, hx => obtain rfl := Option.some.inj hx; exact ⟨ch0', q0.1, q0.2, m0', b0, by simpa using l0', rfl⟩
  | 2, hx => obtain rfl := Option.some.inj hx; exact ⟨ch1, gO, 0, m1, a1, by simpa using l1, rfl⟩
  | 3, hx => obtain rfl := Option.some.inj hx; exact ⟨ch1', q1.1, q1.2, m1', b1, by simpa using l1', rfl⟩
  | 4, hx => obtain rfl := Option.some.inj hx; exact ⟨ch2, gS, 0, m2, a2, by simpa using l2, rfl⟩
  | 5, hx => obtain rfl := Option.some.inj hx; exact ⟨ch2', q2.1, q2.2, m2', b2, by simpa using l2', rfl⟩
  | i + 6, hx => simp at hx
theorem psRule_ok {P : Program} {f : FuncId} {T : Nat} {isV : FnN} {ptf : FnB} {fx fy fz ft : FnE} (hV : IsV isV) (h : PsC P f T ptf fx fy fz ft) : RuleOk P f (psRule T isV ptf fx fy fz ft) := by
  intro ρ ms ms' args ret hr hs
  unfold psRule at hr
  split at hr
  · rename_i c o c' o' m
    split at hr
    · rename_i c0 d0 e0 c1 d1 e1 c2 d2 e2 hv0 hv1 hv2
      split at hr
      · rename_i ch ch' hc hc'
        cases hb : (nodupB [c0, d0, c1, d1, c2, d2, c, c'] && ch.wr && Nat.ble (o + 20) ch.cells.length && Nat.beq ((ch'.cells.drop o').take 32).length 32 && Nat.ble 32 m) with
        | false => simp only [hb, cond_false, reduceCtorEq] at hr
        | true =>
          simp only [hb, cond_true] at hr
          simp only [Bool.and_eq_true] at hb
          obtain ⟨⟨⟨⟨hnd, hw⟩, hle⟩, hlen⟩, hm32⟩ := hb
          have hle' := Nat.le_of_ble_eq_true hle
          have hlen' := Nat.eq_of_beq_eq_true hlen
          have hm32' := Nat.le_of_ble_eq_true hm32
          split at hr
          · rename_i n ms1 hn
            split at hr
            · rename_i b orc horc
              have horc1 : ms1.orc = b :: orc := horc
              -- what the trace says
              have key : ∀ {M : List Chunk}, Sat ρ ((.asm (.x (asmV isV [e0, e1, e2] ms1).nb) b) :: (.db (asmV isV [e0, e1, e2] ms1).nb (.fx "ptf" ptf) [] [n] []) :: (asmV isV [e0, e1, e2] ms1).tr) →
                  (Sat ρ ms1.tr ∧ ptf [] [ρ.n n] [] = b) ∧ ρ.e e0 = litE 0 0 0 0 0 ∧ ρ.e e1 = litE 1 0 0 0 0 ∧ ρ.e e2 = litE 1718705420411056 234908883556509 2233514472574048 2117202627021982 765476049583133 := by
                intro M hS
                obtain ⟨s1, s2, s3⟩ := hS
                obtain ⟨s4, s5⟩ := asmV_ok hV s3
                refine ⟨⟨s4, ?_⟩, s5⟩
                have t1 : ρ.b (asmV isV [e0, e1, e2] ms1).nb = b := s1
                have t2 : ρ.b (asmV isV [e0, e1, e2] ms1).nb = ptf [] [ρ.n n] [] := s2
                rw [← t2, t1]
              have body : ∀ {S : Nat → Nat → Prop} {w0 : World} {α : Adr} {w : World} {vs : List Value}, Sat ρ ms1.tr → ρ.e e0 = litE 0 0 0 0 0 → ρ.e e1 = litE 1 0 0 0 0 → ρ.e e2 = litE 1718705420411056 234908883556509 2233514472574048 2117202627021982 765476049583133 →
                  MRep ρ S w0 α ms.mem w → GRep ms.gl α → VRels ρ α [.ptr c o, .slice c' o' 32 m] vs → ∃ (bb s : Nat) (b' s' cap : Nat), α c = some (bb, s) ∧ vs = [ptrV (bb, s + o), sliceV (b', s' + o') 32 cap] ∧
                  Invokes P f #[ptrV (bb, s + o), sliceV (b', s' + o') 32 cap] w fun r w' => (ptf [] [ρ.n n] [] = true → r = .tuple #[ptrV (bb, s + o), .nilIface] ∧ Fr (InN 20 (bb, s + o)) w w' ∧ RdP w' (bb, s + o) (fx [] [] [ρ.n n]) (fy [] [] [ρ.n n]) (fz [] [] [ρ.n n]) (ft [] [] [ρ.n n])) ∧
                    (ptf [] [ρ.n n] [] = false → (∃ u, r = .tuple #[.pointer none, .iface T u]) ∧ Fr (fun _ _ => False) w w') := by
                intro S w0 α w vs hsat k0 k1 k2 hm hg hv
                obtain ⟨g, em, eg, ee, hv'⟩ := asNum_ok hn hsat
                simp only [VRels, VRel] at hv
                obtain ⟨u1, t1, rfl, ⟨bb, s, ha, rfl⟩, u2, t2, rfl, ⟨b', s', cap, ha', hcap, rfl⟩, rfl⟩ := hv
                have hro := octs_ro hm hc' ha' hlen' (by rw [hlen'] at hv'; exact hv')
                have hl2 : o' + 32 ≤ ch'.cells.length := by
                  simp only [List.length_take, List.length_drop] at hlen'; omega
                obtain ⟨q0, q1, q2, hvars, hpl⟩ := vars_at hm hg hv0 hv1 hv2 k0 k1 k2
                refine ⟨bb, s, b', s', cap, ha, rfl, h w (bb, s + o) (b', s' + o') q0 q1 q2 (ρ.n n) cap (by omega) (own_of hm hc ha hw hle') hro hvars ?_⟩
                refine apAll_of hm (L := [(c0, 0, 1), (d0, 0, 5), (c1, 0, 1), (d1, 0, 5), (c2, 0, 1), (d2, 0, 5)] ++ [(c, o, 20), (c', o', 32)]) rfl (fun i x hx => ?_) (by show nodupB [c0, d0, c1, d1, c2, d2, c, c'] = true; exact hnd)
                rcases Nat.lt_or_ge i 6 with hi | hi
                · rw [List.getElem?_append_left (by simpa using hi)] at hx
                  obtain ⟨ch1, b1, s1, z1, z2, z3, z4⟩ := hpl i x hx
                  exact ⟨ch1, b1, s1, z1, z2, z3, by rw [List.getElem?_append_left (by simpa [LV] using hi)]; exact z4⟩
                · match i, hi, hx with
                  | 6, _, hx => obtain rfl := Option.some.inj hx; exact ⟨ch, bb, s, hc, ha, hle', rfl⟩
                  | 7, _, hx => obtain rfl := Option.some.inj hx; exact ⟨ch', b', s', hc', ha', hl2, rfl⟩
                  | i + 8, _, hx => simp at hx
              cases b with
              | true =>
                simp only [cond_true, Option.some.injEq, Prod.mk.injEq] at hr
                obtain ⟨rfl, rfl⟩ := hr
                obtain ⟨hS, d1', d2', d3', d4'⟩ := newPt_ok hs
                obtain ⟨⟨hsat, hpt⟩, k0, k1, k2⟩ := key (M := []) hS
                obtain ⟨g, em, eg, ee, hv'⟩ := asNum_ok hn hsat
                refine ⟨⟨g.sat, eg, by simp [asmV, newPt, em]⟩, fun S w0 α w vs hm hg hv => ?_⟩
                obtain ⟨bb, s, b', s', cap, ha, rfl, hinv⟩ := body hsat k0 k1 k2 hm hg hv
                refine hinv.mono ?_
                rintro r w' ⟨hT, _⟩
                obtain ⟨rfl, hf, hrd⟩ := hT hpt
                simp only [List.map_cons, List.map_nil] at d1' d2' d3' d4'
                rw [← d1', ← d2', ← d3', ← d4'] at hrd
                have hm' := hm.over hc ha hw (vs := pt4S (asmV isV [e0, e1, e2] ms1).ne ((asmV isV [e0, e1, e2] ms1).ne + 1) ((asmV isV [e0, e1, e2] ms1).ne + 2) ((asmV isV [e0, e1, e2] ms1).ne + 3)) (by rw [pt4S_length]; exact hle') (by rw [pt4S_length]; exact hf) (pt_rd hrd)
                refine ⟨α, Ext.refl _ _, ?_, ?_⟩
                · simp only [VRel, VRels]
                  exact ⟨_, rfl, _, _, rfl, ⟨bb, s, ha, rfl⟩, _, _, rfl, rfl, rfl⟩
                · show MRep ρ S w0 α (ms1.mem.set c _) w'
                  rw [em]; exact hm'
              | false =>
                simp only [cond_false, Option.some.injEq, Prod.mk.injEq] at hr
                obtain ⟨rfl, rfl⟩ := hr
                obtain ⟨⟨hsat, hpt⟩, k0, k1, k2⟩ := key (M := []) hs
                obtain ⟨g, em, eg, ee, hv'⟩ := asNum_ok hn hsat
                refine ⟨⟨g.sat, eg, by simp [asmV, em]⟩, fun S w0 α w vs hm hg hv => ?_⟩
                obtain ⟨bb, s, b', s', cap, ha, rfl, hinv⟩ := body hsat k0 k1 k2 hm hg hv
                refine hinv.mono ?_
                rintro r w' ⟨_, hF⟩
                obtain ⟨⟨u, rfl⟩, hf⟩ := hF hpt
                refine ⟨α, Ext.refl _ _, ?_, ?_⟩
                · simp only [VRel, VRels]
                  exact ⟨_, rfl, _, _, rfl, rfl, _, _, rfl, ⟨u, rfl, trivial⟩, rfl⟩
                · show MRep ρ S w0 α ms1.mem w'
                  rw [em]; exact hm.grow hf
            · cases hr
          · cases hr
      · cases hr
    · cases hr
  · cases hr
theorem npRule_ok {P : Program} {f : FuncId} {isV : FnN} {fx fy fz ft : FnE} {nx ny nz nt : String} (hV : IsV isV) (h : NpC P f fx fy fz ft) : RuleOk P f (npRule isV fx fy fz ft nx ny nz nt) := by
  intro ρ ms ms' args ret hr hs
  unfold npRule at hr
  split at hr
  · split at hr
    · rename_i c0 d0 e0 c1 d1 e1 c2 d2 e2 hv0 hv1 hv2
      cases hb : nodupB [c0, d0, c1, d1, c2, d2] with
      | false => simp only [hb, cond_false, reduceCtorEq] at hr
      | true =>
        simp only [hb, cond_true, Option.some.injEq, Prod.mk.injEq] at hr
        obtain ⟨rfl, rfl⟩ := hr
        obtain ⟨hS, d1', d2', d3', d4'⟩ := newPt_ok hs
        obtain ⟨hsat, k0, k1, k2⟩ := asmV_ok hV hS
        refine ⟨⟨hsat, rfl, by simp⟩, fun S w0 α w vs hm hg hv => ?_⟩
        simp only [VRels] at hv
        subst hv
        obtain ⟨q0, q1, q2, hvars, hpl⟩ := vars_at hm hg hv0 hv1 hv2 k0 k1 k2
        refine (h w q0 q1 q2 hvars (apAll_of hm (L := [(c0, 0, 1), (d0, 0, 5), (c1, 0, 1), (d1, 0, 5), (c2, 0, 1), (d2, 0, 5)]) rfl hpl (by show nodupB [c0, d0, c1, d1, c2, d2] = true; exact hb))).mono ?_
        rintro r w' ⟨q, rfl, hq, hown, hrd, hf⟩
        simp only [List.map_nil] at d1' d2' d3' d4'
        rw [← d1', ← d2', ← d3', ← d4'] at hrd
        have hlt : q.1 < w'.heap.size := cell_lt (hrd.1 0 (by omega))
        obtain ⟨hm', hext⟩ := hm.fresh hf (p := q) (cells := pt4S ms.ne (ms.ne + 1) (ms.ne + 2) (ms.ne + 3)) hq hlt (by rw [pt4S_length]; exact hown) (fun j x hx => pt_rd (b := q.1) (s := q.2) hrd j x hx)
        refine ⟨_, hext, ?_, hm'⟩
        simp only [VRel, ptrV]
        exact ⟨q.1, q.2, by unfold Adr.put; simp, by simp⟩
    · cases hr
  · cases hr
end Go.Proofs.YtolmkbojlpplfaaDoor

/- SetBytes of a point, NewIdentityPoint and NewGeneratorPoint: contracts. No condition. -/
namespace Go.Proofs.YtolmkbojlpplfaaDoor
open Go Go.RowKit
set_option linter.unusedVariables false
set_option linter.unusedSimpArgs false
set_option maxRecDepth 100000

open Classical in
noncomputable def isVf : FnN := fun es _ _ => if es = esV then 1 else 0
theorem isV_ok : IsV isVf := fun a b c h => by
  by_cases e : [a, b, c] = esV
  · unfold esV at e
    simp only [List.cons.injEq, and_true] at e
    exact e
  · unfold isVf at h
    rw [if_neg e] at h
    exact absurd h (by decide)
theorem rdP_of {ρ : Env} {α : Adr} {w : World} {b s e1 e2 e3 e4 : Nat} (h : ∀ j x, (pt4S e1 e2 e3 e4)[j]? = some x → ∃ v, w.cell? ⟨b, s + j, none⟩ = some v ∧ VRel ρ α x v) : RdP w (b, s) (ρ.e e1) (ρ.e e2) (ρ.e e3) (ρ.e e4) := by
  have key : ∀ (j e k : Nat), (pt4S e1 e2 e3 e4)[j]? = some (.int .u64 (.l e k)) → w.cell? ⟨b, s + j, none⟩ = some (.int .u64 ((ρ.e e).1.at k)) := by
    intro j e k hj
    obtain ⟨v, h1, h2⟩ := h j _ hj
    simp only [VRel, Sx.val] at h2
    rw [h1, h2.1]
  refine ⟨fun j hj => ?_, fun j hj => ?_, fun j hj => ?_, fun j hj => ?_⟩
  · match j, hj with
    | 0, _ => exact key 0 e1 0 rfl
    | 1, _ => exact key 1 e1 1 rfl
    | 2, _ => exact key 2 e1 2 rfl
    | 3, _ => exact key 3 e1 3 rfl
    | 4, _ => exact key 4 e1 4 rfl
  · simp only [Nat.add_assoc]
    match j, hj with
    | 0, _ => exact key 5 e2 0 rfl
    | 1, _ => exact key 6 e2 1 rfl
    | 2, _ => exact key 7 e2 2 rfl
    | 3, _ => exact key 8 e2 3 rfl
    | 4, _ => exact key 9 e2 4 rfl
  · simp only [Nat.add_assoc]
    match j, hj with
    | 0, _ => exact key 10 e3 0 rfl
    | 1, _ => exact key 11 e3 1 rfl
    | 2, _ => exact key 12 e3 2 rfl
    | 3, _ => exact key 13 e3 3 rfl
    | 4, _ => exact key 14 e3 4 rfl
  · simp only [Nat.add_assoc]
    match j, hj with
    | 0, _ => exact key 15 e4 0 rfl
    | 1, _ => exact key 16 e4 1 rfl
    | 2, _ => exact key 17 e4 2 rfl
    | 3, _ => exact key 18 e4 3 rfl
    | 4, _ => exact key 19 e4 4 rfl
/-- The variables' chunks lie where they point to. -/
theorem lies_var {w : World} {q0 q1 q2 : Nat × Nat} (h : VarsOk w q0 q1 q2) (ns : List Nat) {ps : List (Nat × Nat)} (h0 : adrL ps 1 = some q0) (h1 : adrL ps 3 = some q1) (h2 : adrL ps 5 = some q2) :
    ∀ (c : Nat) (p : (Nat × Nat) × Nat) (ch : Chunk), c < 6 → (LV q0 q1 q2)[c]? = some p → memV[c]? = some ch → ch.cells.length = p.2 ∧ p.1.1 < w.heap.size ∧ ch.wr = false ∧ ∀ j x, ch.cells[j]? = some x → ∃ v, w.cell? ⟨p.1.1, p.1.2 + j, none⟩ = some v ∧ VRel (envV ns []) (adrL ps) x v := by
  intro c p ch hc k1 k2
  obtain ⟨p0, p1, p2⟩ := h
  match c, hc with
  | 0, _ =>
    obtain rfl := Option.some.inj k1
    obtain rfl := Option.some.inj k2
    exact ⟨rfl, cell_lt p0.1, rfl, cell_ptr p0.1 h0⟩
  | 1, _ =>
    obtain rfl := Option.some.inj k1
    obtain rfl := Option.some.inj k2
    have hl := lies_limbs (ρ := envV ns []) (e := 0) (show Rd w q0 ((envV ns []).e 0) from p0.2) false (fun e => by cases e)
    exact ⟨rfl, hl.lt, rfl, fun j x hx => by obtain ⟨v, e1, e2⟩ := hl.cell j x hx; exact ⟨v, e1, e2 _⟩⟩
  | 2, _ =>
    obtain rfl := Option.some.inj k1
    obtain rfl := Option.some.inj k2
    exact ⟨rfl, cell_lt p1.1, rfl, cell_ptr p1.1 h1⟩
  | 3, _ =>
    obtain rfl := Option.some.inj k1
    obtain rfl := Option.some.inj k2
    have hl := lies_limbs (ρ := envV ns []) (e := 1) (show Rd w q1 ((envV ns []).e 1) from p1.2) false (fun e => by cases e)
    exact ⟨rfl, hl.lt, rfl, fun j x hx => by obtain ⟨v, e1, e2⟩ := hl.cell j x hx; exact ⟨v, e1, e2 _⟩⟩
  | 4, _ =>
    obtain rfl := Option.some.inj k1
    obtain rfl := Option.some.inj k2
    exact ⟨rfl, cell_lt p2.1, rfl, cell_ptr p2.1 h2⟩
  | 5, _ =>
    obtain rfl := Option.some.inj k1
    obtain rfl := Option.some.inj k2
    have hl := lies_limbs (ρ := envV ns []) (e := 2) (show Rd w q2 ((envV ns []).e 2) from p2.2) false (fun e => by cases e)
    exact ⟨rfl, hl.lt, rfl, fun j x hx => by obtain ⟨v, e1, e2⟩ := hl.cell j x hx; exact ⟨v, e1, e2 _⟩⟩
def adV (q0 q1 q2 : Nat × Nat) (r : List (Nat × Nat)) : List (Nat × Nat) := (gZ, 0) :: q0 :: (gO, 0) :: q1 :: (gS, 0) :: q2 :: r
theorem adV_lt {q0 q1 q2 : Nat × Nat} {r : List (Nat × Nat)} {c : Nat} {p : Nat × Nat} (hc : c < 6) (h : (adV q0 q1 q2 r)[c]? = some p) : ∃ n, (LV q0 q1 q2)[c]? = some (p, n) := by
  match c, hc, h with
  | 0, _, h => obtain rfl := Option.some.inj h; exact ⟨1, rfl⟩
  | 1, _, h => obtain rfl := Option.some.inj h; exact ⟨5, rfl⟩
  | 2, _, h => obtain rfl := Option.some.inj h; exact ⟨1, rfl⟩
  | 3, _, h => obtain rfl := Option.some.inj h; exact ⟨5, rfl⟩
  | 4, _, h => obtain rfl := Option.some.inj h; exact ⟨1, rfl⟩
  | 5, _, h => obtain rfl := Option.some.inj h; exact ⟨5, rfl⟩
/-- The memory of the variables and of more, before a call. -/
theorem mrep_vars {w : World} {q0 q1 q2 : Nat × Nat} (h : VarsOk w q0 q1 q2) (ns : List Nat) {R : List ((Nat × Nat) × Nat)} {M : List Chunk} (hlen : R.length = M.length) (hap : ApAll (LV q0 q1 q2 ++ R))
    (hR : ∀ (c : Nat) (p : (Nat × Nat) × Nat) (ch : Chunk), R[c]? = some p → M[c]? = some ch → ch.cells.length = p.2 ∧ Lies (envV ns []) w p.1 ch) :
    MRep (envV ns []) (SofL (adV q0 q1 q2 (R.map (·.1))) (memV ++ M)) w (adrL (adV q0 q1 q2 (R.map (·.1)))) (memV ++ M) w := by
  have key : ∀ (c : Nat) (p : Nat × Nat) (ch : Chunk), (adV q0 q1 q2 (R.map (·.1)))[c]? = some p → (memV ++ M)[c]? = some ch → (LV q0 q1 q2 ++ R)[c]? = some (p, ch.cells.length) ∧ p.1 < w.heap.size ∧
      (∀ j x, ch.cells[j]? = some x → ∃ v, w.cell? ⟨p.1, p.2 + j, none⟩ = some v ∧ VRel (envV ns []) (adrL (adV q0 q1 q2 (R.map (·.1)))) x v) ∧ (ch.wr = true → ∀ j, j < ch.cells.length → w.frozen? ⟨p.1, p.2 + j, none⟩ = false) := by
    intro c p ch k1 k2
    rcases Nat.lt_or_ge c 6 with hc | hc
    · obtain ⟨n, hn⟩ := adV_lt hc k1
      rw [List.getElem?_append_left (by simpa [memV] using hc)] at k2
      obtain ⟨e1, e2, e3, e4⟩ := lies_var h ns (ps := adV q0 q1 q2 (R.map (·.1))) rfl rfl rfl c (p, n) ch hc hn k2
      refine ⟨?_, e2, e4, fun hw => by rw [e3] at hw; cases hw⟩
      rw [List.getElem?_append_left (by simpa [LV] using hc), hn, e1]
    · have k1' : (R.map (·.1))[c - 6]? = some p := by
        obtain ⟨d, rfl⟩ : ∃ d, c = d + 6 := ⟨c - 6, by omega⟩
        simpa [adV] using k1
      rw [List.getElem?_append_right (by simpa [memV] using hc)] at k2
      have k2' : M[c - 6]? = some ch := by simpa [memV] using k2
      rw [List.getElem?_map] at k1'
      cases hr : R[c - 6]? with
      | none => rw [hr] at k1'; simp at k1'
      | some x =>
        rw [hr] at k1'
        simp only [Option.map_some, Option.some.injEq] at k1'
        subst k1'
        obtain ⟨e1, e2⟩ := hR (c - 6) x ch hr k2'
        obtain ⟨l1, l2, l3⟩ := lies_of (α := adrL (adV q0 q1 q2 (R.map (·.1)))) e2
        refine ⟨?_, l1, l2, l3⟩
        rw [List.getElem?_append_right (by simpa [LV] using hc)]
        have : (LV q0 q1 q2).length = 6 := rfl
        rw [this, hr, e1]
  refine mrep_all (by simp [adV, memV, hlen]) (fun c p ch k1 k2 => (key c p ch k1 k2).2) fun c c' p p' ch ch' hlt k1 k1' k2 k2' => ?_
  exact hap c c' p p' _ _ hlt (key c p ch k1 k2).1 (key c' p' ch' k1' k2').1
theorem grep_vars (q0 q1 q2 : Nat × Nat) (r : List (Nat × Nat)) : GRep [(gZ, 0), (gO, 2), (gS, 4)] (adrL (adV q0 q1 q2 r)) := by
  intro g c hgc
  simp only [List.mem_cons, Prod.mk.injEq, List.not_mem_nil, or_false] at hgc
  rcases hgc with ⟨rfl, rfl⟩ | ⟨rfl, rfl⟩ | ⟨rfl, rfl⟩ <;> rfl

theorem no_wr {ps : List (Nat × Nat)} {M : List Chunk} (h : M.all (fun c => !c.wr) = true) {b j : Nat} (hs : SofL ps M b j) : False := by
  obtain ⟨c, p, ch, h1, h2, h3, h4⟩ := hs
  have := List.all_eq_true.1 h ch (List.mem_of_getElem? h2)
  rw [h3] at this
  cases this

/-! ### SetBytes -/
theorem ps_true {ρ : Env} (f0 : (ρ.e 0).fe = 0) (f1 : (ρ.e 1).fe = 1) (f2 : (ρ.e 2).fe = iC) (h : ptB (ρ.n 0) = true) (hd : Defs ρ psT_ms.tr) :
    Asms ρ psT_ms.tr ∧ ptB (ρ.n 0) = true ∧ (ρ.e 47).fe = decX (ρ.n 0) ∧ (ρ.e 3).fe = inF (ρ.n 0) ∧ (ρ.e 1).fe = 1 ∧ (ρ.e 48).fe = decX (ρ.n 0) * inF (ρ.n 0) := by
  by_cases hu : inF (ρ.n 0) * inF (ρ.n 0) - 1 = 0
  · exact psT0_math ρ f0 f1 f2 hu (check_zero (.inl hu)) hd
  · rcases ratio_ways hu (v_ne (inF (ρ.n 0))) with ⟨hW, hc, hr⟩ | ⟨hW, hc, hr⟩ | ⟨hW, hc, hr⟩ | ⟨hW, hc, hr⟩
    · exact psT1_math ρ f0 f1 f2 hu hc hr hd
    · exact psT2_math ρ f0 f1 f2 hu hc ((ri_sq _ _).trans hr) hd
    · exact absurd (ptB_iff.1 h) (way_none hu (.inl hW))
    · exact absurd (ptB_iff.1 h) (way_none hu (.inr hW))
theorem ps_false {ρ : Env} (f0 : (ρ.e 0).fe = 0) (f1 : (ρ.e 1).fe = 1) (f2 : (ρ.e 2).fe = iC) (h : ptB (ρ.n 0) = false) (hd : Defs ρ psF_ms.tr) : Asms ρ psF_ms.tr := by
  have no : ∀ x, ¬ OnC x (inF (ρ.n 0)) := fun x hx => by
    rw [ptB_iff.2 ⟨x, hx⟩] at h
    cases h
  by_cases hu : inF (ρ.n 0) * inF (ρ.n 0) - 1 = 0
  · exact absurd (onC_iff.2 (by rw [zmF, zmF]; exact hu.symm)) (no 0)
  · rcases ratio_ways hu (v_ne (inF (ρ.n 0))) with ⟨hW, hc, hr⟩ | ⟨hW, hc, hr⟩ | ⟨hW, hc, hr⟩ | ⟨hW, hc, hr⟩
    · exact absurd (way_on hr) (no _)
    · exact absurd (way_on ((ri_sq _ _).trans hr)) (no _)
    · exact psF3_math ρ f0 f1 f2 hu hc hd
    · exact psF4_math ρ f0 f1 f2 hu hc hd
theorem var_fe {cn : Cn} {ρ : Env} {ns : List Nat} (ha : Agree cn (envV ns []) ρ) (h : 3 ≤ cn.ne) : (ρ.e 0).fe = 0 ∧ (ρ.e 1).fe = 1 ∧ (ρ.e 2).fe = iC := by
  refine ⟨?_, ?_, ?_⟩
  · rw [show ρ.e 0 = esV.getD 0 zeroE from ha.e 0 (by omega)]; decide +kernel
  · rw [show ρ.e 1 = esV.getD 1 zeroE from ha.e 1 (by omega)]; decide +kernel
  · rw [show ρ.e 2 = esV.getD 2 zeroE from ha.e 2 (by omega)]; decide +kernel
noncomputable def psE (n : Nat) : Env := (solved psT_run (envV [n] [])).choose
theorem psE_ok (n : Nat) : Agree ⟨0, 0, 3, 1⟩ (envV [n] []) (psE n) ∧ Defs (psE n) psT_ms.tr := (solved psT_run (envV [n] [])).choose_spec
noncomputable def pXf : FnE := fun _ _ ns => (psE (ns.headD 0)).e 47
noncomputable def pYf : FnE := fun _ _ ns => (psE (ns.headD 0)).e 3
noncomputable def pZf : FnE := fun _ _ ns => (psE (ns.headD 0)).e 1
noncomputable def pTf : FnE := fun _ _ ns => (psE (ns.headD 0)).e 48
noncomputable def ptf : FnB := fun _ ns _ => ptB (ns.headD 0)
/-- What the elements of a point of bytes are. -/
theorem pt_fe {n : Nat} (h : ptB n = true) : (pXf [] [] [n]).fe = (decP n).x ∧ (pYf [] [] [n]).fe = (decP n).y ∧ (pZf [] [] [n]).fe = 1 ∧ (pTf [] [] [n]).fe = (decP n).x * (decP n).y := by
  obtain ⟨ha, hd⟩ := psE_ok n
  obtain ⟨f0, f1, f2⟩ := var_fe ha (by decide)
  have hn : (psE n).n 0 = n := ha.n 0 (by decide)
  obtain ⟨_, _, h1, h2, h3, h4⟩ := ps_true f0 f1 f2 (by rw [hn]; exact h) hd
  rw [hn] at h1 h2 h4
  rw [decP_x h, decP_y h]
  exact ⟨h1, h2, h3, h4⟩
theorem ps_c : PsC Tryd.prog 30 108 ptf pXf pYf pZf pTf := by
  intro w v q q0 q1 q2 n c hc hown hro hvars hap
  have hm0 := mrep_vars hvars [n] (R := [(v, 20), (q, 32)]) (M := [⟨anys 20, true⟩, ⟨octsS 0 0 32, false⟩]) rfl hap (fun k p ch k1 k2 => by
    match k with
    | 0 =>
      obtain rfl := Option.some.inj k1
      obtain rfl := Option.some.inj k2
      exact ⟨anys_length 20, lies_anys (by decide) hown true⟩
    | 1 =>
      obtain rfl := Option.some.inj k1
      obtain rfl := Option.some.inj k2
      exact ⟨octsS_len 0 32 0, lies_octs (by decide) hro⟩
    | k + 2 => simp at k1)
  have hv : VRels (envV [n] []) (adrL (adV q0 q1 q2 [v, q])) [.ptr 6 0, .slice 7 0 32 32] [ptrV v, sliceV q 32 c] := by
    simp only [VRels, VRel]
    exact ⟨_, _, rfl, ⟨v.1, v.2, rfl, rfl⟩, _, _, rfl, ⟨q.1, q.2, c, rfl, hc, rfl⟩, rfl⟩
  have hS : ∀ b j, SofL (adV q0 q1 q2 [v, q]) (memV ++ [⟨anys 20, true⟩, ⟨octsS 0 0 32, false⟩]) b j → InN 20 v b j := by
    rintro b j ⟨k, p, ch, h1, h2, h3, h4⟩
    match k, h1, h2 with
    | 0, h1, h2 => obtain rfl := Option.some.inj h2; cases h3
    | 1, h1, h2 => obtain rfl := Option.some.inj h2; cases h3
    | 2, h1, h2 => obtain rfl := Option.some.inj h2; cases h3
    | 3, h1, h2 => obtain rfl := Option.some.inj h2; cases h3
    | 4, h1, h2 => obtain rfl := Option.some.inj h2; cases h3
    | 5, h1, h2 => obtain rfl := Option.some.inj h2; cases h3
    | 6, h1, h2 =>
      obtain rfl := Option.some.inj h1
      obtain rfl := Option.some.inj h2
      exact h4
    | 7, h1, h2 => obtain rfl := Option.some.inj h2; cases h3
    | k + 8, h1, h2 => simp [adV] at h1
  cases hp : ptB n with
  | true =>
    obtain ⟨ha, hd⟩ := psE_ok n
    obtain ⟨f0, f1, f2⟩ := var_fe ha (by decide)
    have hn : (psE n).n 0 = n := ha.n 0 (by decide)
    have has := (ps_true f0 f1 f2 (by rw [hn]; exact hp) hd).1
    refine (run_at (body_ok tabK_ok _ _) psT_run ha hd has hm0 (grep_vars q0 q1 q2 [v, q]) hv).mono ?_
    rintro r w' ⟨α', hext, hret, hm⟩
    have hα : α' 6 = some v := hext 6 (by decide)
    refine ⟨fun _ => ⟨?_, hm.fr.mono fun b j hbj => .inl (hS b j hbj), ?_⟩, fun hf => ?_⟩
    · simp only [VRel, VRels] at hret
      obtain ⟨us, rfl, u1, t1, rfl, ⟨b, s, ha1, rfl⟩, u2, t2, rfl, rfl, rfl⟩ := hret
      rw [hα] at ha1
      cases ha1
      rfl
    · exact rdP_of (α := α') (b := v.1) (s := v.2) (e1 := 47) (e2 := 3) (e3 := 1) (e4 := 48) fun j x hx => hm.cell 6 ⟨pt4S 47 3 1 48, true⟩ v.1 v.2 rfl hα j x hx
    · have : ptB n = false := hf
      rw [hp] at this
      cases this
  | false =>
    have hm1 := mrep_vars hvars [n] (R := [(v, 20), (q, 32)]) (M := [⟨anys 20, false⟩, ⟨octsS 0 0 32, false⟩]) rfl hap (fun k p ch k1 k2 => by
      match k with
      | 0 =>
        obtain rfl := Option.some.inj k1
        obtain rfl := Option.some.inj k2
        exact ⟨anys_length 20, lies_anys (by decide) hown false⟩
      | 1 =>
        obtain rfl := Option.some.inj k1
        obtain rfl := Option.some.inj k2
        exact ⟨octsS_len 0 32 0, lies_octs (by decide) hro⟩
      | k + 2 => simp at k1)
    refine (run_calls (body_ok tabK_ok _ _) psF_run hm1 (grep_vars q0 q1 q2 [v, q]) hv fun ρ' ha hd => by
      obtain ⟨f0, f1, f2⟩ := var_fe ha (by decide)
      have hn : ρ'.n 0 = n := ha.n 0 (by decide)
      exact ps_false f0 f1 f2 (by rw [hn]; exact hp) hd).mono ?_
    rintro r w' ⟨ρ', α', ha, hd, hext, hret, hm⟩
    refine ⟨fun hf => ?_, fun _ => ⟨?_, ?_⟩⟩
    · have : ptB n = true := hf
      rw [hp] at this
      cases this
    · simp only [VRel, VRels] at hret
      obtain ⟨us, rfl, u1, t1, rfl, rfl, u2, t2, rfl, ⟨u, rfl, _⟩, rfl⟩ := hret
      exact ⟨u, rfl⟩
    · exact hm.fr.mono fun b j hbj => (no_wr (by decide) hbj).elim

/-! ### NewIdentityPoint, NewGeneratorPoint -/
theorem np_of {f : FuncId} {d : Nat} {o : List Bool} {ms' : Ms} (h : runOk (body tabK d f) (msW 0 0 o []) [] (.ptr 6 0) ms') {ρ : Env} (ha : Agree ⟨0, 0, 3, 0⟩ (envV [] []) ρ) (hd : Defs ρ ms'.tr) (has : Asms ρ ms'.tr) (hmem : ms'.mem[6]? = some ⟨pt4S 47 3 1 48, true⟩) {fx fy fz ft : FnE}
    (e1 : fx [] [] [] = ρ.e 47) (e2 : fy [] [] [] = ρ.e 3) (e3 : fz [] [] [] = ρ.e 1) (e4 : ft [] [] [] = ρ.e 48) : NpC Tryd.prog f fx fy fz ft := by
  intro w q0 q1 q2 hvars hap
  have hm0 := mrep_vars hvars [] (R := []) (M := []) rfl (by rw [List.append_nil]; exact hap) (fun k p ch k1 k2 => by simp at k1)
  have hv : VRels (envV [] []) (adrL (adV q0 q1 q2 [])) [] [] := by simp only [VRels]
  refine (run_at (body_ok tabK_ok _ _) h ha hd has hm0 (grep_vars q0 q1 q2 []) hv).mono ?_
  rintro r w' ⟨α', hext, hret, hm⟩
  simp only [VRel] at hret
  obtain ⟨b, s, hα, rfl⟩ := hret
  have hno : ∀ b j, ¬ SofL (adV q0 q1 q2 []) (memV ++ []) b j := fun b j hs => no_wr (by decide) hs
  refine ⟨(b, s), rfl, ?_, fun j hj => ?_, ?_, hm.fr.mono fun b j hbj => (hno b j hbj).elim⟩
  · rcases (hm.wr 6 _ b s hmem hα rfl 0 (by rw [pt4S_length]; decide)).2 with h1 | h1
    · exact (hno _ _ h1).elim
    · exact h1
  · have hx : (pt4S 47 3 1 48)[j]? = some ((pt4S 47 3 1 48)[j]'(by rw [pt4S_length]; exact hj)) := List.getElem?_eq_getElem _
    obtain ⟨u, hu, _⟩ := hm.cell 6 _ b s hmem hα j _ hx
    exact ⟨⟨u, hu⟩, (hm.wr 6 _ b s hmem hα rfl j (by rw [pt4S_length]; exact hj)).1⟩
  · rw [e1, e2, e3, e4]
    exact rdP_of (α := α') (b := b) (s := s) (e1 := 47) (e2 := 3) (e3 := 1) (e4 := 48) fun j x hx => hm.cell 6 ⟨pt4S 47 3 1 48, true⟩ b s hmem hα j x hx
noncomputable def nipE : Env := (solved nip_run (envV [] [])).choose
theorem nipE_ok : Agree ⟨0, 0, 3, 0⟩ (envV [] []) nipE ∧ Defs nipE nip_ms.tr := (solved nip_run (envV [] [])).choose_spec
noncomputable def iXf : FnE := fun _ _ _ => nipE.e 47
noncomputable def iYf : FnE := fun _ _ _ => nipE.e 3
noncomputable def iZf : FnE := fun _ _ _ => nipE.e 1
noncomputable def iTf : FnE := fun _ _ _ => nipE.e 48
theorem one_one : (1 : F) * 1 - 1 = 0 := by decide +kernel
theorem nip_vals : Asms nipE nip_ms.tr ∧ (nipE.e 47).fe = 0 ∧ (nipE.e 3).fe = 1 ∧ (nipE.e 1).fe = 1 ∧ (nipE.e 48).fe = 0 := by
  obtain ⟨ha, hd⟩ := nipE_ok
  obtain ⟨f0, f1, f2⟩ := var_fe ha (by decide)
  obtain ⟨h0, h1, h2, h3, h4⟩ := nip_math nipE f0 f1 f2 one_one (check_zero (.inl one_one)) hd
  have hz : (nipE.e 47).fe = 0 := by rw [h1, rrF_zero (.inl one_one), zmF]; exact absF_zero
  exact ⟨h0, hz, h2, h3, by rw [h4, ← h1, hz, zmF]⟩
theorem nip_c : NpC Tryd.prog 31 iXf iYf iZf iTf :=
  np_of nip_run nipE_ok.1 nipE_ok.2 nip_vals.1 rfl rfl rfl rfl rfl
theorem id_fe : (iXf [] [] []).fe = Pt.zero.x ∧ (iYf [] [] []).fe = Pt.zero.y ∧ (iZf [] [] []).fe = 1 ∧ (iTf [] [] []).fe = Pt.zero.x * Pt.zero.y :=
  ⟨nip_vals.2.1, nip_vals.2.2.1, nip_vals.2.2.2.1, by rw [show (iTf [] [] []).fe = 0 from nip_vals.2.2.2.2]; exact (zmF _).symm⟩
end Go.Proofs.YtolmkbojlpplfaaDoor

/- NewGeneratorPoint of a point: its contract and what it gives. No condition. -/
namespace Go.Proofs.YtolmkbojlpplfaaDoor
open Go Go.RowKit
set_option linter.unusedVariables false
set_option linter.unusedSimpArgs false
set_option maxRecDepth 100000

def gB : F := ⟨18189699356559595304116201316681778032337163264184497769900127213676350427144, by decide⟩
def gPw : F := ⟨2861453323427594548699152106119760322257416108237569298356087714518206905866, by decide⟩
def gR : F := ⟨42783823269122696939284341094755422415180979639778424813682678720006717057747, by decide⟩
def gX : F := ⟨15112221349535400772501151409588531511454012693041857206046113283949847762202, by decide⟩
theorem gB_eq : (gY * gY - 1) * ((dC * (gY * gY) + 1) * (dC * (gY * gY) + 1) * (dC * (gY * gY) + 1)) * ((dC * (gY * gY) + 1) * (dC * (gY * gY) + 1) * ((dC * (gY * gY) + 1) * (dC * (gY * gY) + 1))) = gB := by decide +kernel
theorem gB_pow : fpow gB E3 = gPw := fpow_const (by decide) (by decide +kernel)
theorem rr_gen : rrF (gY * gY - 1) (dC * (gY * gY) + 1) = gR := by
  unfold rrF
  rw [gB_eq, gB_pow]
  decide +kernel
theorem gen_u : gY * gY - 1 ≠ 0 := by decide +kernel
theorem gen_c : (dC * (gY * gY) + 1) * (rrF (gY * gY - 1) (dC * (gY * gY) + 1) * rrF (gY * gY - 1) (dC * (gY * gY) + 1)) = (gY * gY - 1) := by
  rw [rr_gen]
  decide +kernel
theorem gen_on : OnC gX gY := by
  unfold OnC
  decide +kernel
/-- The generator. -/
def genP : Pt := ⟨gX, gY, gen_on⟩
noncomputable def ngpE : Env := (solved ngp_run (envV [] [])).choose
theorem ngpE_ok : Agree ⟨0, 0, 3, 0⟩ (envV [] []) ngpE ∧ Defs ngpE ngp_ms.tr := (solved ngp_run (envV [] [])).choose_spec
noncomputable def gXf : FnE := fun _ _ _ => ngpE.e 47
noncomputable def gYf : FnE := fun _ _ _ => ngpE.e 3
noncomputable def gZf : FnE := fun _ _ _ => ngpE.e 1
noncomputable def gTf : FnE := fun _ _ _ => ngpE.e 48
theorem abs_gen : absF gR = gX := by decide +kernel
theorem ngp_vals : Asms ngpE ngp_ms.tr ∧ (ngpE.e 47).fe = gX ∧ (ngpE.e 3).fe = gY ∧ (ngpE.e 1).fe = 1 ∧ (ngpE.e 48).fe = gX * gY := by
  obtain ⟨ha, hd⟩ := ngpE_ok
  obtain ⟨f0, f1, f2⟩ := var_fe ha (by decide)
  obtain ⟨h0, h1, h2, h3, h4⟩ := ngp_math ngpE f0 f1 f2 gen_u gen_c hd
  rw [rr_gen, abs_gen] at h1 h4
  exact ⟨h0, h1, h2, h3, h4⟩
theorem ngp_c : NpC Tryd.prog 33 gXf gYf gZf gTf :=
  np_of ngp_run ngpE_ok.1 ngpE_ok.2 ngp_vals.1 rfl rfl rfl rfl rfl
theorem gen_fe : (gXf [] [] []).fe = genP.x ∧ (gYf [] [] []).fe = genP.y ∧ (gZf [] [] []).fe = 1 ∧ (gTf [] [] []).fe = genP.x * genP.y := ngp_vals.2
end Go.Proofs.YtolmkbojlpplfaaDoor
