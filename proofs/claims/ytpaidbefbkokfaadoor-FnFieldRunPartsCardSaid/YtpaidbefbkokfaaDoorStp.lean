/- The table of rules for the field's functions, the reference's left out. No condition. -/
import Derived.Test.YtpaidbefbkokfaaDoorElm
import Derived.Test.YtpaidbefbkokfaaDoorByd
import Derived.Test.YtpaidbefbkokfaaDoorSqn
import Derived.Test.YtpaidbefbkokfaaDoorSwp
import Derived.Test.YtpaidbefbkokfaaDoorSub
import Derived.Test.YtpaidbefbkokfaaDoorCmp
import Derived.Test.YtpaidbefbkokfaaDoorM32
import Derived.Test.YtpaidbefbkokfaaDoorVv
namespace Go.Proofs.YtpaidbefbkokfaaDoor
open Go Go.RowKit
set_option linter.unusedVariables false

/-- What a trace says of an integer symbol. -/
def diOf : List Ent → Nat → Option (Fi × List Sx)
  | .di j f xs :: l, i => bif Nat.beq j i then some (f, xs) else diOf l i
  | _ :: l, i => diOf l i
  | [], _ => none
theorem diOf_ok {ρ : Env} : ∀ {tr : List Ent} {i : Nat} {f : Fi} {xs : List Sx}, Sat ρ tr → diOf tr i = some (f, xs) → ρ.i i = f.sem (xs.map (Sx.val ρ))
  | [], _, _, _, _, h => by simp [diOf] at h
  | e :: l, i, f, xs, hs, h => by
    cases e with
    | di j g ys =>
      cases hb : Nat.beq j i with
      | false => simp only [diOf, hb, cond_false] at h; exact diOf_ok hs.2 h
      | true =>
        simp only [diOf, hb, cond_true, Option.some.injEq, Prod.mk.injEq] at h
        obtain ⟨rfl, rfl⟩ := h
        have := Nat.eq_of_beq_eq_true hb
        subst this
        exact hs.1
    | _ => exact diOf_ok hs.2 (by simpa only [diOf] using h)
/-- A count of the form n % 10 + 1. -/
def ten1 (tr : List Ent) (i : Nat) : Bool := match diOf tr i with
  | some (.add .i64, [.x j, .c a]) => match diOf tr j with
    | some (.conv .i64, [.x k]) => match diOf tr k with
      | some (.rem _, [.w _ _, .c b]) => a == 1 && b == 10
      | _ => false
    | _ => false
  | _ => false
theorem ten1_ok {ρ : Env} {tr : List Ent} {i : Nat} (hs : Sat ρ tr) (h : ten1 tr i = true) : 0 ≤ ρ.i i := by
  unfold ten1 at h
  split at h
  · rename_i j a h1
    split at h
    · rename_i k h2
      split at h
      · rename_i kk n m b h3
        simp only [Bool.and_eq_true, beq_iff_eq] at h
        obtain ⟨rfl, rfl⟩ := h
        have e1 := diOf_ok hs h1
        have e2 := diOf_ok hs h2
        have e3 := diOf_ok hs h3
        simp only [List.map_cons, List.map_nil, Fi.sem, Sx.val] at e1 e2 e3
        generalize word (ρ.n n) m = y at *
        rw [show ((y : Nat) : Int).tmod 10 = ((y % 10 : Nat) : Int) from rfl] at e3
        rw [e1, e2, e3]
        simp only [wr]
        omega
      · cases h
    · cases h
  · cases h
def chkN2 (tr : List Ent) : List Sx → Bool
  | [.x i] => ten1 tr i || posB tr i
  | xs => chkN tr xs
theorem chkN2_ok (ρ : Env) (tr : List Ent) (xs : List Sx) (hs : Sat ρ tr) (h : chkN2 tr xs = true) : PreN (xs.map (Sx.val ρ)) := by
  unfold chkN2 at h
  split at h
  · rename_i i
    simp only [Bool.or_eq_true] at h
    rcases h with h | h
    · exact ⟨ρ.i i, rfl, ten1_ok hs h⟩
    · exact ⟨ρ.i i, rfl, posB_ok hs h⟩
  · exact chkN_ok ρ tr xs hs h
def tabW6 : List (Nat × Rule) :=
  (14, elRule 2 [] .mul true noChk) ::
  (15, elRule 1 [] .sq true noChk) ::
  (12, elRule 2 [] .add true noChk) ::
  (13, elRule 2 [] .sub true noChk) ::
  (17, elRule 1 [.u32] .m32 true noChk) ::
  (22, elRule 2 [.i64] .sel true chkB) ::
  (38, elRule 1 [.i64] .sqN false chkN2) ::
  (11, sbRule) ::
  (28, bytesRule) ::
  (48, cmpRule) ::
  (23, swRule) ::
  tabB
theorem tabW6_ok : TabOk tabW6 := by
  unfold tabW6
  refine .cons (elRule_ok mulF_el fun _ _ _ _ _ => trivial) ?_
  refine .cons (elRule_ok sqF_el fun _ _ _ _ _ => trivial) ?_
  refine .cons (elRule_ok addF_el fun _ _ _ _ _ => trivial) ?_
  refine .cons (elRule_ok subF_el fun _ _ _ _ _ => trivial) ?_
  refine .cons (elRule_ok m32_el fun _ _ _ _ _ => trivial) ?_
  refine .cons (elRule_ok selF_el chkB_ok) ?_
  refine .cons (elRule_ok sqn_el chkN2_ok) ?_
  refine .cons (sbRule_ok sb_c) ?_
  refine .cons (bytesRule_ok bytes_c) ?_
  refine .cons (cmpRule_ok cmp_c) ?_
  refine .cons (swRule_ok sw_c) ?_
  exact tabB_ok
end Go.Proofs.YtpaidbefbkokfaaDoor

/- Registers: elements in blocks of their own, a slice of pointers to them; a step over them out of a run of the kernel's. No condition. -/
namespace Go.Proofs.YtpaidbefbkokfaaDoor
open Go Go.ChangeShapes Go.WideShapes Go.ChangeAt Go.RowKit
set_option linter.unusedVariables false
set_option linter.unusedSimpArgs false
set_option maxRecDepth 100000

/-! ### functions changed at some places -/
def upd {β : Type} (f : Nat → β) (i : Nat) (x : β) : Nat → β := fun k => if k = i then x else f k
def updM {β : Type} (idx : Nat → Nat) (x : Nat → β) (f : Nat → β) : Nat → Nat → β
  | 0 => f
  | m + 1 => upd (updM idx x f m) (idx m) (x m)
theorem updM_ne {β : Type} {idx : Nat → Nat} {x : Nat → β} {f : Nat → β} {k : Nat} : ∀ {m : Nat}, (∀ j, j < m → idx j ≠ k) → updM idx x f m k = f k
  | 0, _ => rfl
  | m + 1, h => by
    simp only [updM, upd]
    rw [if_neg (fun e => h m (by omega) e.symm)]
    exact updM_ne fun j hj => h j (by omega)
theorem updM_at {β : Type} {idx : Nat → Nat} {x : Nat → β} {f : Nat → β} : ∀ {m : Nat}, (∀ i j, i < m → j < m → idx i = idx j → i = j) → ∀ {j : Nat}, j < m → updM idx x f m (idx j) = x j
  | 0, _, j, h => by omega
  | m + 1, hi, j, h => by
    simp only [updM, upd]
    by_cases hj : idx j = idx m
    · rw [if_pos hj, hi j m h (by omega) hj]
    · rw [if_neg hj]
      have : j < m := by
        rcases Nat.lt_or_eq_of_le (Nat.lt_succ_iff.1 h) with h1 | h1
        · exact h1
        · exact absurd (by rw [h1]) hj
      exact updM_at (fun a b ha hb => hi a b (by omega) (by omega)) this
theorem updM_map {β γ : Type} {idx : Nat → Nat} {x : Nat → β} {f : Nat → β} (g : β → γ) : ∀ (m k : Nat), g (updM idx x f m k) = updM idx (fun j => g (x j)) (fun j => g (f j)) m k
  | 0, _ => rfl
  | m + 1, k => by
    simp only [updM, upd]
    split
    · rfl
    · exact updM_map g m k
theorem updM_congr {β : Type} {idx : Nat → Nat} {x y : Nat → β} {f : Nat → β} : ∀ (m k : Nat), (∀ j, j < m → x j = y j) → updM idx x f m k = updM idx y f m k
  | 0, _, _ => rfl
  | m + 1, k, h => by
    simp only [updM, upd]
    rw [h m (by omega), updM_congr m k fun j hj => h j (by omega)]

/-! ### registers in a world -/
structure VarsAt (W : World) (H : Nat) (q0 q1 q2 : Nat × Nat) : Prop where
  h0 : PtsTo W 0 q0 (litE 0 0 0 0 0)
  h1 : PtsTo W 2 q1 (litE 1 0 0 0 0)
  h2 : PtsTo W 1 q2 (litE 1718705420411056 234908883556509 2233514472574048 2117202627021982 765476049583133)
  nd : (placesOf [((0, 0), 1), (q0, 5), ((2, 0), 1), (q1, 5), ((1, 0), 1), (q2, 5)]).Nodup
  lt : 0 < H ∧ q0.1 < H ∧ 2 < H ∧ q1.1 < H ∧ 1 < H ∧ q2.1 < H
theorem VarsAt.of {W : World} (h : laidMet Tryd.prog laidV W) : ∃ q0 q1 q2, VarsAt W W.heap.size q0 q1 q2 := by
  obtain ⟨q0, q1, q2, h0, h1, h2, hnd⟩ := varsV h
  exact ⟨q0, q1, q2, h0, h1, h2, hnd, cell_lt h0.1, cell_lt (h0.2 0 (by decide)), cell_lt h1.1, cell_lt (h1.2 0 (by decide)), cell_lt h2.1, cell_lt (h2.2 0 (by decide))⟩
theorem PtsTo.fr {S : Nat → Nat → Prop} {W W' : World} {H g : Nat} {q : Nat × Nat} {e : Elt} (h : PtsTo W g q e) (hf : Fr S W W') (hS : ∀ b j, S b j → H ≤ b) (hg : g < H) (hq : q.1 < H) : PtsTo W' g q e :=
  ⟨hf.cell h.1 (fun hs => absurd (hS _ _ hs) (by omega)), fun j hj => hf.cell (h.2 j hj) (fun hs => absurd (hS _ _ hs) (by omega))⟩
theorem VarsAt.fr {S : Nat → Nat → Prop} {W W' : World} {H : Nat} {q0 q1 q2 : Nat × Nat} (h : VarsAt W H q0 q1 q2) (hf : Fr S W W') (hS : ∀ b j, S b j → H ≤ b) : VarsAt W' H q0 q1 q2 :=
  ⟨h.h0.fr hf hS h.lt.1 h.lt.2.1, h.h1.fr hf hS h.lt.2.2.1 h.lt.2.2.2.1, h.h2.fr hf hS h.lt.2.2.2.2.1 h.lt.2.2.2.2.2, h.nd, h.lt⟩
/-- n elements, each in a block of its own, none of them below H. -/
structure Regs (W : World) (H n : Nat) (ps : Nat → Nat × Nat) (es : Nat → Elt) : Prop where
  rd : ∀ i, i < n → Rd W (ps i) (es i)
  own : ∀ i, i < n → Own 5 W (ps i)
  new : ∀ i, i < n → H ≤ (ps i).1
  dis : ∀ i j, i < n → j < n → i ≠ j → (ps i).1 ≠ (ps j).1
/-- Pointers to them, in another block. -/
structure RegS (W : World) (H n : Nat) (ps : Nat → Nat × Nat) (b s : Nat) : Prop where
  cell : ∀ i, i < n → W.cell? ⟨b, s + i, none⟩ = some (ptrV (ps i))
  new : 0 < n → H ≤ b
  ne : ∀ i, i < n → b ≠ (ps i).1
theorem Regs.fr {S : Nat → Nat → Prop} {W W' : World} {H n : Nat} {ps : Nat → Nat × Nat} {es : Nat → Elt} (h : Regs W H n ps es) (hf : Fr S W W') (hS : ∀ i, i < n → ∀ j, ¬ S (ps i).1 j) : Regs W' H n ps es := by
  refine ⟨fun i hi j hj => hf.cell (h.rd i hi j hj) (hS i hi _), fun i hi j hj => ?_, h.new, h.dis⟩
  obtain ⟨⟨v, hv⟩, hz⟩ := h.own i hi j hj
  exact ⟨⟨v, hf.cell hv (hS i hi _)⟩, by rw [hf.frozen hv]; exact hz⟩
theorem RegS.fr {S : Nat → Nat → Prop} {W W' : World} {H n : Nat} {ps : Nat → Nat × Nat} {b s : Nat} (h : RegS W H n ps b s) (hf : Fr S W W') (hS : ∀ j, ¬ S b j) : RegS W' H n ps b s :=
  ⟨fun i hi => hf.cell (h.cell i hi) (hS _), h.new, h.ne⟩

/-! ### memory before a step -/
theorem mrep_gen {ρ : Env} {w : World} {ps : List (Nat × Nat)} {M : List Chunk} (hl : ps.length = M.length)
    (h : ∀ (c : Nat) (p : Nat × Nat) (ch : Chunk), ps[c]? = some p → M[c]? = some ch → p.1 < w.heap.size ∧ (∀ j x, ch.cells[j]? = some x → ∃ v, w.cell? ⟨p.1, p.2 + j, none⟩ = some v ∧ VRel ρ (adrL ps) x v) ∧ (ch.wr = true → ∀ j, j < ch.cells.length → w.frozen? ⟨p.1, p.2 + j, none⟩ = false))
    (hap : ∀ (c c' : Nat) (p p' : Nat × Nat) (ch ch' : Chunk), c < c' → ps[c]? = some p → ps[c']? = some p' → M[c]? = some ch → M[c']? = some ch' → Apart ch.cells.length ch'.cells.length p p') : MRep ρ (SofL ps M) w (adrL ps) M w := by
  refine ⟨Fr.refl _ _, fun c hc => by unfold adrL; exact List.getElem?_eq_none (by omega), ?_, ?_, ?_, ?_⟩
  · intro c ch b s hc ha j x hx
    exact (h c (b, s) ch ha hc).2.1 j x hx
  · intro c b s ha
    have hlt : c < M.length := by rw [← hl]; exact (List.getElem?_eq_some_iff.1 ha).1
    exact (h c (b, s) M[c] ha (by simp [hlt])).1
  · intro c ch b s hc ha hw j hj
    exact ⟨(h c (b, s) ch ha hc).2.2 hw j hj, .inl ⟨c, (b, s), ch, ha, hc, hw, rfl, by simp only; omega, by simp only; omega⟩⟩
  · intro c c' ch ch' b s b' s' hne hc hc' ha ha'
    rcases Nat.lt_or_gt_of_ne hne with h1 | h1
    · exact hap c c' (b, s) (b', s') ch ch' h1 ha ha' hc hc'
    · have := hap c' c (b', s') (b, s) ch' ch h1 ha' ha hc' hc
      simp only [Apart] at this; omega
theorem map_range_get {β : Type} {f : Nat → β} {m c : Nat} {x : β} (h : ((List.range m).map f)[c]? = some x) : c < m ∧ x = f c := by
  have hc : c < m := by simpa using (List.getElem?_eq_some_iff.1 h).1
  rw [List.getElem?_map, List.getElem?_range hc] at h
  exact ⟨hc, (Option.some.inj h).symm⟩
theorem map_range_at {β : Type} {f : Nat → β} {m c : Nat} (h : c < m) : ((List.range m).map f)[c]? = some (f c) := by
  rw [List.getElem?_map, List.getElem?_range h]; rfl
theorem three_get {β : Type} {A : List β} {f g : Nat → β} {m c : Nat} {x : β} (h : (A ++ ((List.range m).map f ++ (List.range m).map g))[c]? = some x) :
    (c < A.length ∧ A[c]? = some x) ∨ (∃ i, i < m ∧ c = A.length + i ∧ x = f i) ∨ ∃ i, i < m ∧ c = A.length + m + i ∧ x = g i := by
  rcases Nat.lt_or_ge c A.length with h1 | h1
  · rw [List.getElem?_append_left h1] at h
    exact .inl ⟨h1, h⟩
  · rw [List.getElem?_append_right h1] at h
    right
    rcases Nat.lt_or_ge (c - A.length) m with h2 | h2
    · rw [List.getElem?_append_left (by simpa using h2)] at h
      exact .inl ⟨c - A.length, h2, by omega, (map_range_get h).2⟩
    · rw [List.getElem?_append_right (by simpa using h2)] at h
      obtain ⟨h3, h4⟩ := map_range_get h
      simp only [List.length_map, List.length_range] at h3 h4
      exact .inr ⟨c - A.length - m, h3, by omega, h4⟩
theorem three_f {β : Type} {A : List β} {f g : Nat → β} {m i : Nat} (h : i < m) : (A ++ ((List.range m).map f ++ (List.range m).map g))[A.length + i]? = some (f i) := by
  rw [List.getElem?_append_right (by omega), show A.length + i - A.length = i by omega, List.getElem?_append_left (by simpa using h)]
  exact map_range_at h
theorem three_g {β : Type} {A : List β} {f g : Nat → β} {m i : Nat} (h : i < m) : (A ++ ((List.range m).map f ++ (List.range m).map g))[A.length + m + i]? = some (g i) := by
  rw [List.getElem?_append_right (by omega), List.getElem?_append_right (by simp; omega), show A.length + m + i - A.length - ((List.range m).map f).length = i by simp; omega]
  exact map_range_at h
def memS (m : Nat) : List Chunk := memV ++ ((List.range m).map (fun i => (⟨limbs (3 + i), true⟩ : Chunk)) ++ (List.range m).map (fun i => (⟨[.ptr (6 + i) 0], false⟩ : Chunk)))
def adV (q0 q1 q2 : Nat × Nat) : List (Nat × Nat) := [(0, 0), q0, (2, 0), q1, (1, 0), q2]
def adS (q0 q1 q2 : Nat × Nat) (m : Nat) (idx : Nat → Nat) (ps : Nat → Nat × Nat) (b s : Nat) : List (Nat × Nat) := adV q0 q1 q2 ++ ((List.range m).map (fun i => ps (idx i)) ++ (List.range m).map (fun i => (b, s + idx i)))
def msS (m : Nat) (o : List Bool) : Ms := ⟨memS m, [], 4, 0, 3 + m, 1, o, [(0, 0), (2, 2), (1, 4)]⟩
/-- Which element each index (1, 2, 3) is. -/
def tblS (m : Nat) (pat : List Nat) : List (Nat × Nat) := pat.zipIdx.map fun (e, j) => (j + 1, 6 + m + e)
def argsS (m : Nat) (pat : List Nat) (k : Int) : List SV := [.tbl 0 0 1 (tblS m pat), .agg [.int .i64 (.c k), .int .i64 (.x 1), .int .i64 (.x 2), .int .i64 (.x 3), .int .u32 (.w 0 0)]]
structure Opr where
  k : Int
  Z : Int
  X : Int
  Y : Int
  N : Nat
def opV (o : Opr) : Value := .agg #[.int .i64 o.k, .int .i64 o.Z, .int .i64 o.X, .int .i64 o.Y, .int .u32 o.N]
structure Opr.Fits (o : Opr) : Prop where
  k : inR .i64 o.k
  Z : inR .i64 o.Z
  X : inR .i64 o.X
  Y : inR .i64 o.Y
  N : o.N < 4294967296
def oI (n : Nat) (o : Opr) : Nat → Int
  | 0 => n
  | 1 => o.Z
  | 2 => o.X
  | _ => o.Y
def envO (n : Nat) (o : Opr) (idx : Nat → Nat) (es : Nat → Elt) (rv : Value) : Env := ⟨oI n o, fun _ => false, fun j => if j < 3 then esV.getD j zeroE else es (idx (j - 3)), fun _ => o.N, fun _ => rv⟩
theorem grepS (q0 q1 q2 : Nat × Nat) (m : Nat) (idx : Nat → Nat) (ps : Nat → Nat × Nat) (b s : Nat) : GRep (msS m []).gl (adrL (adS q0 q1 q2 m idx ps b s)) := by
  intro g c hgc
  simp only [msS, List.mem_cons, Prod.mk.injEq, List.not_mem_nil, or_false] at hgc
  rcases hgc with ⟨rfl, rfl⟩ | ⟨rfl, rfl⟩ | ⟨rfl, rfl⟩
  · rfl
  · rfl
  · rfl
theorem limbs_cell {ρ : Env} {W : World} {q : Nat × Nat} {e : Nat} (h : Rd W q (ρ.e e)) {α : Adr} : ∀ j x, (limbs e)[j]? = some x → ∃ v, W.cell? ⟨q.1, q.2 + j, none⟩ = some v ∧ VRel ρ α x v := by
  intro j x hx
  obtain ⟨v, e1, e2⟩ := (lies_limbs h false (fun e => by cases e)).cell j x hx
  exact ⟨v, e1, e2 _⟩
section
variable {rv : Value} {W : World} {H n : Nat} {ps : Nat → Nat × Nat} {es : Nat → Elt} {b s : Nat} {q0 q1 q2 : Nat × Nat} {m : Nat} {idx : Nat → Nat} {o : Opr}
theorem ad_v {c : Nat} {p : Nat × Nat} {ch : Chunk} (hv : VarsAt W H q0 q1 q2) (k1 : (adV q0 q1 q2)[c]? = some p) (k2 : memV[c]? = some ch) {ρ : Env} (h0 : ρ.e 0 = esV.getD 0 zeroE) (h1 : ρ.e 1 = esV.getD 1 zeroE) (h2 : ρ.e 2 = esV.getD 2 zeroE) {α : Adr} (a1 : α 1 = some q0) (a3 : α 3 = some q1) (a5 : α 5 = some q2) :
    p.1 < H ∧ ch.wr = false ∧ ([((0, 0), 1), (q0, 5), ((2, 0), 1), (q1, 5), ((1, 0), 1), (q2, 5)] : List ((Nat × Nat) × Nat))[c]? = some (p, ch.cells.length) ∧
      ∀ j x, ch.cells[j]? = some x → ∃ v, W.cell? ⟨p.1, p.2 + j, none⟩ = some v ∧ VRel ρ α x v := by
  have ptr : ∀ {g c : Nat} {q : Nat × Nat}, W.cell? ⟨g, 0, none⟩ = some (ptrV q) → α c = some q → ∀ j x, ([SV.ptr c 0] : List SV)[j]? = some x → ∃ v, W.cell? ⟨g, 0 + j, none⟩ = some v ∧ VRel ρ α x v := by
    intro g c q h hc j x hx
    match j with
    | 0 =>
      simp only [List.getElem?_cons_zero, Option.some.injEq] at hx
      subst hx
      refine ⟨_, h, ?_⟩
      simp only [VRel]
      exact ⟨q.1, q.2, hc, rfl⟩
    | j + 1 => simp at hx
  match c with
  | 0 =>
    obtain rfl := Option.some.inj k1
    obtain rfl := Option.some.inj k2
    exact ⟨hv.lt.1, rfl, rfl, ptr hv.h0.1 a1⟩
  | 1 =>
    obtain rfl := Option.some.inj k1
    obtain rfl := Option.some.inj k2
    exact ⟨hv.lt.2.1, rfl, rfl, limbs_cell (e := 0) (by rw [h0]; exact hv.h0.2)⟩
  | 2 =>
    obtain rfl := Option.some.inj k1
    obtain rfl := Option.some.inj k2
    exact ⟨hv.lt.2.2.1, rfl, rfl, ptr hv.h1.1 a3⟩
  | 3 =>
    obtain rfl := Option.some.inj k1
    obtain rfl := Option.some.inj k2
    exact ⟨hv.lt.2.2.2.1, rfl, rfl, limbs_cell (e := 1) (by rw [h1]; exact hv.h1.2)⟩
  | 4 =>
    obtain rfl := Option.some.inj k1
    obtain rfl := Option.some.inj k2
    exact ⟨hv.lt.2.2.2.2.1, rfl, rfl, ptr hv.h2.1 a5⟩
  | 5 =>
    obtain rfl := Option.some.inj k1
    obtain rfl := Option.some.inj k2
    exact ⟨hv.lt.2.2.2.2.2, rfl, rfl, limbs_cell (e := 2) (by rw [h2]; exact hv.h2.2)⟩
  | c + 6 => simp [adV] at k1
theorem keyS : ∀ (c : Nat) (p : Nat × Nat) (ch : Chunk), (adS q0 q1 q2 m idx ps b s)[c]? = some p → (memS m)[c]? = some ch →
      (c < 6 ∧ (adV q0 q1 q2)[c]? = some p ∧ memV[c]? = some ch) ∨ (∃ i, i < m ∧ c = 6 + i ∧ p = ps (idx i) ∧ ch = ⟨limbs (3 + i), true⟩) ∨ ∃ i, i < m ∧ c = 6 + m + i ∧ p = (b, s + idx i) ∧ ch = ⟨[.ptr (6 + i) 0], false⟩ := by
  intro c p ch k1 k2
  rcases three_get k1 with ⟨l1, e1⟩ | ⟨i, l1, c1, e1⟩ | ⟨i, l1, c1, e1⟩ <;> rcases three_get k2 with ⟨l2, e2⟩ | ⟨i', l2, c2, e2⟩ | ⟨i', l2, c2, e2⟩ <;> (try simp only [adV, memV, List.length_cons, List.length_nil] at l1) <;> (try simp only [adV, memV, List.length_cons, List.length_nil] at l2) <;>
    first
    | exact .inl ⟨l1, e1, e2⟩
    | (simp only [adV, memV, List.length_cons, List.length_nil] at c1 c2; obtain rfl : i = i' := by omega
       first | exact .inr (.inl ⟨i, l1, by omega, e1, e2⟩) | exact .inr (.inr ⟨i, l1, by omega, e1, e2⟩))
    | (exfalso; simp only [adV, memV, List.length_cons, List.length_nil] at *; omega)
theorem mrepS (hH : H ≤ W.heap.size) (hv : VarsAt W H q0 q1 q2) (hr : Regs W H n ps es) (hs : RegS W H n ps b s) (hi : ∀ i, i < m → idx i < n) (hj : ∀ i j, i < m → j < m → idx i = idx j → i = j) :
    MRep (envO n o idx es rv) (SofL (adS q0 q1 q2 m idx ps b s) (memS m)) W (adrL (adS q0 q1 q2 m idx ps b s)) (memS m) W := by
  have a1 : adrL (adS q0 q1 q2 m idx ps b s) 1 = some q0 := rfl
  have a3 : adrL (adS q0 q1 q2 m idx ps b s) 3 = some q1 := rfl
  have a5 : adrL (adS q0 q1 q2 m idx ps b s) 5 = some q2 := rfl
  have key := keyS (q0 := q0) (q1 := q1) (q2 := q2) (m := m) (idx := idx) (ps := ps) (b := b) (s := s)
  refine mrep_gen (by simp [adS, memS, adV, memV]) (fun c p ch k1 k2 => ?_) (fun c c' p p' ch ch' hlt k1 k1' k2 k2' => ?_)
  · rcases key c p ch k1 k2 with ⟨l, e1, e2⟩ | ⟨i, l, rfl, rfl, rfl⟩ | ⟨i, l, rfl, rfl, rfl⟩
    · obtain ⟨g1, g2, _, g3⟩ := ad_v hv e1 e2 (ρ := envO n o idx es rv) rfl rfl rfl a1 a3 a5
      exact ⟨by omega, g3, fun e => by rw [g2] at e; cases e⟩
    · have h1 := hr.rd (idx i) (hi i l)
      refine ⟨cell_lt (h1 0 (by decide)), limbs_cell (ρ := envO n o idx es rv) (e := 3 + i) ?_, fun _ j hj' => (hr.own (idx i) (hi i l) j (by simpa [limbs] using hj')).2⟩
      show Rd W (ps (idx i)) (if 3 + i < 3 then esV.getD (3 + i) zeroE else es (idx (3 + i - 3)))
      rw [if_neg (by omega), show 3 + i - 3 = i by omega]
      exact h1
    · have h1 := hs.cell (idx i) (hi i l)
      refine ⟨cell_lt h1, fun j x hx => ?_, fun e => by cases e⟩
      match j with
      | 0 =>
        simp only [List.getElem?_cons_zero, Option.some.injEq] at hx
        subst hx
        refine ⟨_, h1, ?_⟩
        simp only [VRel]
        exact ⟨(ps (idx i)).1, (ps (idx i)).2, three_f (A := adV q0 q1 q2) (f := fun i => ps (idx i)) l, rfl⟩
      | j + 1 => simp at hx
  · rcases key c p ch k1 k2 with ⟨l, e1, e2⟩ | ⟨i, l, rfl, rfl, rfl⟩ | ⟨i, l, rfl, rfl, rfl⟩ <;> rcases key c' p' ch' k1' k2' with ⟨l', e1', e2'⟩ | ⟨i', l', rfl, rfl, rfl⟩ | ⟨i', l', rfl, rfl, rfl⟩
    · exact apart_places hv.nd (by simp) hlt (ad_v hv e1 e2 (ρ := envO n o idx es rv) rfl rfl rfl a1 a3 a5).2.2.1 (ad_v hv e1' e2' (ρ := envO n o idx es rv) rfl rfl rfl a1 a3 a5).2.2.1
    · have g := (ad_v hv e1 e2 (ρ := envO n o idx es rv) rfl rfl rfl a1 a3 a5).1
      have := hr.new (idx i') (hi i' l')
      exact .inl (by omega)
    · have g := (ad_v hv e1 e2 (ρ := envO n o idx es rv) rfl rfl rfl a1 a3 a5).1
      have h1 := hi i' l'
      have := hs.new (by omega)
      exact .inl (by show p.1 ≠ b; omega)
    · omega
    · exact .inl (hr.dis _ _ (hi i l) (hi i' l') (fun e => by have := hj i i' l l' e; omega))
    · exact .inl (fun e => hs.ne (idx i) (hi i l) e.symm)
    · omega
    · omega
    · right
      have : idx i ≠ idx i' := fun e => by have := hj i i' l l' e; omega
      simp only [List.length_cons, List.length_nil]
      omega
end
end Go.Proofs.YtpaidbefbkokfaaDoor

/- A step over registers: what a run of the kernel's says of the registers behind it, and of their values in the field. No condition. -/
namespace Go.Proofs.YtpaidbefbkokfaaDoor
open Go Go.RowKit
set_option linter.unusedVariables false
set_option linter.unusedSimpArgs false
set_option maxRecDepth 100000

def fStep : FuncId := 9
def noAsm (l : List Ent) : Bool := l.all fun e => match e with
  | .asm _ _ => false
  | _ => true
theorem noAsm_ok {ρ : Env} : ∀ {l : List Ent}, noAsm l = true → Asms ρ l
  | [], _ => trivial
  | e :: l, h => by
    simp only [noAsm, List.all_cons, Bool.and_eq_true] at h
    refine ⟨?_, noAsm_ok h.2⟩
    cases e <;> first | trivial | (simp at h)
section
variable {W : World} {H n cap : Nat} {ps : Nat → Nat × Nat} {es : Nat → Elt} {b s : Nat} {q0 q1 q2 : Nat × Nat} {m : Nat} {idx : Nat → Nat} {o : Opr} {pat : List Nat}
theorem tblS_mem {jc : Nat × Nat} (h : jc ∈ tblS m pat) : ∃ e, pat[jc.1 - 1]? = some e ∧ 1 ≤ jc.1 ∧ jc.2 = 6 + m + e := by
  unfold tblS at h
  obtain ⟨⟨e, j⟩, h1, rfl⟩ := List.mem_map.1 h
  have h2 := List.mem_zipIdx h1
  refine ⟨e, ?_, by simp, rfl⟩
  simp only [Nat.add_sub_cancel]
  have h3 := h2.2.2
  simp only [Nat.sub_zero] at h3
  rw [h3]
  exact List.getElem?_eq_getElem _
theorem word0 {N : Nat} (h : N < 4294967296) : word N 0 = N := by
  unfold word
  rw [Nat.pow_zero, Nat.div_one]
  omega
theorem argsS_rel (hn : inR .i64 ((n : Nat) : Int)) (hf : o.Fits) (hi : ∀ i, i < m → idx i < n) (hp : ∀ j e, pat[j]? = some e → e < m ∧ oI n o (j + 1) = ((idx e : Nat) : Int)) :
    VRels (envO n o idx es (.slice (some ⟨b, s, none⟩) n cap)) (adrL (adS q0 q1 q2 m idx ps b s)) (argsS m pat o.k) [.slice (some ⟨b, s, none⟩) n cap, opV o] := by
  simp only [argsS, VRels, VRel]
  refine ⟨_, _, rfl, ⟨rfl, _, n, cap, rfl, rfl, hn, fun jc hjc => ?_⟩, _, _, rfl, ⟨_, rfl, _, _, rfl, ⟨rfl, hf.k⟩, _, _, rfl, ⟨rfl, hf.Z⟩, _, _, rfl, ⟨rfl, hf.X⟩, _, _, rfl, ⟨rfl, hf.Y⟩, _, _, rfl, ⟨?_, ?_⟩, rfl⟩, rfl⟩
  · obtain ⟨e, h1, h2, h3⟩ := tblS_mem hjc
    obtain ⟨h4, h5⟩ := hp _ _ h1
    rw [show jc.1 - 1 + 1 = jc.1 by omega] at h5
    have h6 : (envO n o idx es (.slice (some ⟨b, s, none⟩) n cap)).i jc.1 = ((idx e : Nat) : Int) := h5
    have := hi e h4
    refine ⟨by rw [h6]; omega, by rw [h6]; omega, b, s, rfl, ?_⟩
    rw [h6, h3, Int.toNat_natCast, Nat.mul_one]
    exact three_g (A := adV q0 q1 q2) h4
  · simp only [Sx.val, envO, word0 hf.N]
  · have := hf.N
    show (0 : Int) ≤ ((word o.N 0 : Nat) : Int) ∧ ((word o.N 0 : Nat) : Int) < (4294967296 : Int)
    rw [word0 hf.N]
    omega
theorem sofS {b' j' : Nat} (h : SofL (adS q0 q1 q2 m idx ps b s) (memS m) b' j') : ∃ c, c < m ∧ b' = (ps (idx c)).1 := by
  obtain ⟨c, p, ch, h1, h2, h3, h4⟩ := h
  rcases keyS c p ch h1 h2 with ⟨l, e1, e2⟩ | ⟨i, l, rfl, rfl, rfl⟩ | ⟨i, l, rfl, rfl, rfl⟩
  · exfalso
    match c, e2 with
    | 0, e2 => obtain rfl := Option.some.inj e2; cases h3
    | 1, e2 => obtain rfl := Option.some.inj e2; cases h3
    | 2, e2 => obtain rfl := Option.some.inj e2; cases h3
    | 3, e2 => obtain rfl := Option.some.inj e2; cases h3
    | 4, e2 => obtain rfl := Option.some.inj e2; cases h3
    | 5, e2 => obtain rfl := Option.some.inj e2; cases h3
    | c + 6, _ => omega
  · exact ⟨i, l, h4.1⟩
  · cases h3
theorem step_run {l : List (Nat × Rule)} (ht : TabOk l) {ms' : Ms} (h : runOk (body l 8 fStep) (msS m []) (argsS m pat o.k) (.tuple []) ms') (hasm : noAsm ms'.tr = true) (hn : inR .i64 ((n : Nat) : Int)) (hf : o.Fits)
    (hi : ∀ i, i < m → idx i < n) (hj : ∀ i j, i < m → j < m → idx i = idx j → i = j) (hp : ∀ j e, pat[j]? = some e → e < m ∧ oI n o (j + 1) = ((idx e : Nat) : Int))
    (hH : H ≤ W.heap.size) (hv : VarsAt W H q0 q1 q2) (hr : Regs W H n ps es) (hs : RegS W H n ps b s) (fin : Env → Nat → Elt)
    (hfin : ∀ ρ', Agree (msS m []).cn (envO n o idx es (.slice (some ⟨b, s, none⟩) n cap)) ρ' → Defs ρ' ms'.tr → ∀ j, j < m → ∃ ch, ms'.mem[6 + j]? = some ch ∧ ch.wr = true ∧ ∀ i, i < 5 → ∃ sx, ch.cells[i]? = some (.int .u64 sx) ∧ sx.val ρ' = (fin ρ' j).1.at i) :
    Invokes Tryd.prog fStep #[.slice (some ⟨b, s, none⟩) n cap, opV o] W fun v W' => v = .tuple #[] ∧ (∃ ρ', Agree (msS m []).cn (envO n o idx es (.slice (some ⟨b, s, none⟩) n cap)) ρ' ∧ Defs ρ' ms'.tr ∧ Regs W' H n ps (updM idx (fin ρ') es m)) ∧ Fr (fun b' _ => ∃ i, i < n ∧ b' = (ps i).1) W W' := by
  refine (run_calls (body_ok ht 8 fStep) h (mrepS hH hv hr hs hi hj) (grepS q0 q1 q2 m idx ps b s) (argsS_rel hn hf hi hp) (fun ρ' _ _ => noAsm_ok hasm)).mono ?_
  rintro v w' ⟨ρ', α', ha, hd, hext, hv', hm⟩
  have hlen : (msS m []).mem.length = 6 + m + m := by simp [msS, memS, memV]; omega
  have hα : ∀ j, j < m → α' (6 + j) = some (ps (idx j)) := fun j hj' => (hext (6 + j) (by rw [hlen]; omega)).trans (three_f (A := adV q0 q1 q2) hj')
  have far : ∀ i, i < n → (¬ ∃ j, j < m ∧ idx j = i) → ∀ j, ¬ SofL (adS q0 q1 q2 m idx ps b s) (memS m) (ps i).1 j := by
    intro i hi' hne j hs'
    obtain ⟨c, hc, e⟩ := sofS hs'
    by_cases hci : idx c = i
    · exact hne ⟨c, hc, hci⟩
    · exact hr.dis i (idx c) hi' (hi c hc) (fun e => hci e.symm) e
  refine ⟨?_, ⟨ρ', ha, hd, ⟨fun i hi' => ?_, fun i hi' => ?_, hr.new, hr.dis⟩⟩, hm.fr.mono fun b' j' hs' => ?_⟩
  · simp only [VRel, VRels] at hv'
    obtain ⟨us, rfl, rfl⟩ := hv'
    rfl
  · by_cases hx : ∃ j, j < m ∧ idx j = i
    · obtain ⟨j, hj', rfl⟩ := hx
      rw [updM_at hj hj']
      obtain ⟨ch, c1, c2, c3⟩ := hfin ρ' ha hd j hj'
      intro t ht'
      obtain ⟨sx, s1, s2⟩ := c3 t ht'
      obtain ⟨v', v1, v2⟩ := hm.cell (6 + j) ch _ _ c1 (hα j hj') t _ s1
      simp only [VRel] at v2
      rw [v2.1, s2] at v1
      exact v1
    · rw [updM_ne fun j hj' e => hx ⟨j, hj', e⟩]
      exact fun j hj' => hm.fr.cell (hr.rd i hi' j hj') (far i hi' hx _)
  · by_cases hx : ∃ j, j < m ∧ idx j = i
    · obtain ⟨j, hj', rfl⟩ := hx
      obtain ⟨ch, c1, c2, c3⟩ := hfin ρ' ha hd j hj'
      intro t ht'
      obtain ⟨sx, s1, s2⟩ := c3 t ht'
      obtain ⟨v', v1, v2⟩ := hm.cell (6 + j) ch _ _ c1 (hα j hj') t _ s1
      exact ⟨⟨_, v1⟩, (hm.wr (6 + j) ch _ _ c1 (hα j hj') c2 t (List.getElem?_eq_some_iff.1 s1).1).1⟩
    · intro t ht'
      obtain ⟨⟨v', v1⟩, v2⟩ := hr.own i hi' t ht'
      exact ⟨⟨v', hm.fr.cell v1 (far i hi' hx _)⟩, by rw [hm.fr.frozen v1]; exact v2⟩
  · obtain ⟨c, hc, e⟩ := sofS hs'
    exact .inl ⟨idx c, hi c hc, e⟩
end

/-! ### traces reckoned over the field -/
structure FEnv where
  i : Nat → Int
  e : Nat → F
  n : Nat → Nat
def Sx.vF (φ : FEnv) : Sx → Int
  | .c n => n
  | .x i => φ.i i
  | .l _ _ => 0
  | .w n j => (word (φ.n n) j : Nat)
  | .o n j => (octet (φ.n n) j : Nat)
  | .oi n i => (octet (φ.n n) (φ.i i).toNat : Nat)
  | .wi n i => (word (φ.n n) (φ.i i).toNat : Nat)
def Sx.okF : Sx → Bool
  | .l _ _ => false
  | _ => true
def Fe.semF : Fe → List F → List Int → F
  | .mul, [a, b], _ => a * b
  | .sq, [a], _ => a * a
  | .add, [a, b], _ => a + b
  | .sub, [a, b], _ => a - b
  | .sel, [a, b], [c] => if c = 1 then a else b
  | .sqN, [a], [n] => fpow a (2 ^ n.toNat)
  | .m32, [a], [n] => a * toF n
  | _, _, _ => 0
def evE (φ : FEnv) : Ent → FEnv
  | .di k f xs => ⟨fun j => if j = k then f.sem (xs.map (Sx.vF φ)) else φ.i j, φ.e, φ.n⟩
  | .de k f es xs _ => ⟨φ.i, fun j => if j = k then f.semF (es.map φ.e) (xs.map (Sx.vF φ)) else φ.e j, φ.n⟩
  | .dn k _ es _ _ => ⟨φ.i, φ.e, fun j => if j = k then (φ.e (es.headD 0)).val else φ.n j⟩
  | _ => φ
def evL : FEnv → List Ent → FEnv
  | φ, [] => φ
  | φ, e :: l => evL (evE φ e) l
def okE : Ent → Bool
  | .di _ _ xs => xs.all Sx.okF
  | .de _ .mul [_, _] [] [] => true
  | .de _ .sq [_] [] [] => true
  | .de _ .add [_, _] [] [] => true
  | .de _ .sub [_, _] [] [] => true
  | .de _ .sel [_, _] [x] [] => x.okF
  | .de _ .sqN [_] [x] [] => x.okF
  | .de _ .m32 [_] [.w 0 0] [] => true
  | .dn _ .canon [_] [] [] => true
  | _ => false
def endC : Cn → List Ent → Cn
  | c, [] => c
  | c, .di .. :: l => endC { c with ni := c.ni + 1 } l
  | c, .db .. :: l => endC { c with nb := c.nb + 1 } l
  | c, .de .. :: l => endC { c with ne := c.ne + 1 } l
  | c, .dn .. :: l => endC { c with nn := c.nn + 1 } l
  | c, .asm .. :: l => endC c l
structure InvF (c : Cn) (φ : FEnv) (ρ : Env) : Prop where
  i : ∀ j, j < c.ni → φ.i j = ρ.i j
  e : ∀ j, j < c.ne → φ.e j = (ρ.e j).fe
  n : ∀ j, j < c.nn → φ.n j = ρ.n j
section
variable {c : Cn} {φ : FEnv} {ρ : Env}
theorem vF_ok (h : InvF c φ ρ) {x : Sx} (hl : x.low c = true) (ho : x.okF = true) : x.vF φ = x.val ρ := by
  cases x with
  | c n => rfl
  | x i => exact h.i i (blt_lt hl)
  | l e j => cases ho
  | w n j => simp only [Sx.vF, Sx.val, h.n n (blt_lt hl)]
  | o n j => simp only [Sx.vF, Sx.val, h.n n (blt_lt hl)]
  | oi n i => simp only [Sx.low, Bool.and_eq_true] at hl; simp only [Sx.vF, Sx.val, h.n n (blt_lt hl.1), h.i i (blt_lt hl.2)]
  | wi n i => simp only [Sx.low, Bool.and_eq_true] at hl; simp only [Sx.vF, Sx.val, h.n n (blt_lt hl.1), h.i i (blt_lt hl.2)]
theorem vFs_ok (h : InvF c φ ρ) : ∀ {l : List Sx}, l.all (Sx.low c) = true → l.all Sx.okF = true → l.map (Sx.vF φ) = l.map (Sx.val ρ)
  | [], _, _ => rfl
  | x :: l, hl, ho => by
    simp only [List.all_cons, Bool.and_eq_true] at hl ho
    simp only [List.map_cons, vF_ok h hl.1 ho.1, vFs_ok h hl.2 ho.2]
theorem de_ok (h : InvF c φ ρ) (hN : ρ.n 0 < 4294967296) {k : Nat} {f : Fe} {es : List Nat} {xs : List Sx} {ns : List Nat} (hd : ρ.e c.ne = f.sem (es.map ρ.e) (xs.map (Sx.val ρ)) (ns.map ρ.n)) (ho : okE (.de k f es xs ns) = true)
    (he : es.all (Nat.blt · c.ne) = true) (hx : xs.all (Sx.low c) = true) : f.semF (es.map φ.e) (xs.map (Sx.vF φ)) = (ρ.e c.ne).fe := by
  rw [hd]
  unfold okE at ho
  split at ho
  case h_1 heq => cases heq
  case h_2 heq =>
    obtain ⟨rfl, rfl, rfl, rfl, rfl⟩ := Ent.de.inj heq
    simp only [List.all_cons, List.all_nil, Bool.and_eq_true, and_true] at he
    simp only [List.map_cons, List.map_nil, Fe.semF, Fe.sem, mulE_fe, h.e _ (blt_lt he.1), h.e _ (blt_lt he.2)]
  case h_3 heq =>
    obtain ⟨rfl, rfl, rfl, rfl, rfl⟩ := Ent.de.inj heq
    simp only [List.all_cons, List.all_nil, Bool.and_eq_true, and_true] at he
    simp only [List.map_cons, List.map_nil, Fe.semF, Fe.sem, sqE_fe, h.e _ (blt_lt he)]
  case h_4 heq =>
    obtain ⟨rfl, rfl, rfl, rfl, rfl⟩ := Ent.de.inj heq
    simp only [List.all_cons, List.all_nil, Bool.and_eq_true, and_true] at he
    simp only [List.map_cons, List.map_nil, Fe.semF, Fe.sem, addE_fe, h.e _ (blt_lt he.1), h.e _ (blt_lt he.2)]
  case h_5 heq =>
    obtain ⟨rfl, rfl, rfl, rfl, rfl⟩ := Ent.de.inj heq
    simp only [List.all_cons, List.all_nil, Bool.and_eq_true, and_true] at he
    simp only [List.map_cons, List.map_nil, Fe.semF, Fe.sem, subE_fe, h.e _ (blt_lt he.1), h.e _ (blt_lt he.2)]
  case h_6 x heq =>
    obtain ⟨rfl, rfl, rfl, rfl, rfl⟩ := Ent.de.inj heq
    simp only [List.all_cons, List.all_nil, Bool.and_eq_true, and_true] at he hx
    simp only [List.map_cons, List.map_nil, Fe.semF, Fe.sem, selE, h.e _ (blt_lt he.1), h.e _ (blt_lt he.2), vF_ok h hx ho]
    split <;> rfl
  case h_7 x heq =>
    obtain ⟨rfl, rfl, rfl, rfl, rfl⟩ := Ent.de.inj heq
    simp only [List.all_cons, List.all_nil, Bool.and_eq_true, and_true] at he hx
    simp only [List.map_cons, List.map_nil, Fe.semF, Fe.sem, sqNE_fe, h.e _ (blt_lt he), vF_ok h hx ho]
  case h_8 heq =>
    obtain ⟨rfl, rfl, rfl, rfl, rfl⟩ := Ent.de.inj heq
    simp only [List.all_cons, List.all_nil, Bool.and_eq_true, and_true] at he hx
    have hw : (Sx.w 0 0).val ρ = ((ρ.n 0 : Nat) : Int) := by simp only [Sx.val, word0 hN]
    simp only [List.map_cons, List.map_nil, Fe.semF, Fe.sem, h.e _ (blt_lt he), vF_ok h hx rfl]
    rw [hw, m32E_fe (by omega) (by omega)]
  case h_9 heq => cases heq
  case h_10 => cases ho
theorem evL_ok (hN : ρ.n 0 < 4294967296) : ∀ (l : List Ent) (c : Cn) (φ : FEnv), wfT c l = true → l.all okE = true → Defs ρ l → InvF c φ ρ → InvF (endC c l) (evL φ l) ρ
  | [], c, φ, _, _, _, h => h
  | .di j f xs :: l, c, φ, hw, ho, hd, h => by
    simp only [wfT, Bool.and_eq_true] at hw
    simp only [List.all_cons, Bool.and_eq_true] at ho
    obtain ⟨⟨hj, hx⟩, hl⟩ := hw
    have hj' := Nat.eq_of_beq_eq_true hj
    subst hj'
    refine evL_ok hN l _ _ hl ho.2 hd.2 ⟨fun k hk => ?_, h.e, h.n⟩
    show (if k = c.ni then f.sem (xs.map (Sx.vF φ)) else φ.i k) = ρ.i k
    by_cases hk' : k = c.ni
    · subst hk'
      rw [if_pos rfl, vFs_ok h hx ho.1]
      exact hd.1.symm
    · rw [if_neg hk']
      exact h.i k (by simp only at hk; omega)
  | .db j f xs ns bs :: l, c, φ, hw, ho, hd, h => by simp [okE] at ho
  | .de j f es xs ns :: l, c, φ, hw, ho, hd, h => by
    simp only [wfT, Bool.and_eq_true] at hw
    simp only [List.all_cons, Bool.and_eq_true] at ho
    obtain ⟨⟨⟨⟨hj, he⟩, hx⟩, hn⟩, hl⟩ := hw
    have hj' := Nat.eq_of_beq_eq_true hj
    subst hj'
    refine evL_ok hN l _ _ hl ho.2 hd.2 ⟨h.i, fun k hk => ?_, h.n⟩
    show (if k = c.ne then f.semF (es.map φ.e) (xs.map (Sx.vF φ)) else φ.e k) = (ρ.e k).fe
    by_cases hk' : k = c.ne
    · subst hk'
      rw [if_pos rfl]
      exact de_ok h hN hd.1 ho.1 he hx
    · rw [if_neg hk']
      exact h.e k (by simp only at hk; omega)
  | .dn j f es xs ns :: l, c, φ, hw, ho, hd, h => by
    simp only [wfT, Bool.and_eq_true] at hw
    simp only [List.all_cons, Bool.and_eq_true] at ho
    obtain ⟨⟨⟨⟨hj, he⟩, hx⟩, hn⟩, hl⟩ := hw
    have hj' := Nat.eq_of_beq_eq_true hj
    subst hj'
    have hd1 := hd.1
    have ho1 := ho.1
    unfold okE at ho1
    split at ho1
    case h_9 a heq =>
      obtain ⟨rfl, rfl, rfl, rfl, rfl⟩ := Ent.dn.inj heq
      refine evL_ok hN l _ _ hl ho.2 hd.2 ⟨h.i, h.e, fun k hk => ?_⟩
      show (if k = c.nn then (φ.e a).val else φ.n k) = ρ.n k
      by_cases hk' : k = c.nn
      · subst hk'
        simp only [List.all_cons, List.all_nil, Bool.and_eq_true, and_true] at he
        rw [if_pos rfl, h.e a (blt_lt he)]
        exact hd1.symm
      · rw [if_neg hk']
        exact h.n k (by simp only at hk; omega)
    case h_10 => cases ho1
    all_goals (rename_i heq; cases heq)
  | .asm b v :: l, c, φ, hw, ho, hd, h => by simp [okE] at ho
end
end Go.Proofs.YtpaidbefbkokfaaDoor
