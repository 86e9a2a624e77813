/- Traces have solutions; a run of the kernel's as a contract. No condition. -/
import Derived.Test.YtpaidbefbkokfaaDoorRule
namespace Go.Proofs.YtpaidbefbkokfaaDoor
open Go Go.RowKit
set_option linter.unusedVariables false
set_option linter.unusedSimpArgs false

structure Cn where
  ni : Nat
  nb : Nat
  ne : Nat
  nn : Nat
structure Agree (k : Cn) (ρ ρ' : Env) : Prop where
  i : ∀ j, j < k.ni → ρ'.i j = ρ.i j
  b : ∀ j, j < k.nb → ρ'.b j = ρ.b j
  e : ∀ j, j < k.ne → ρ'.e j = ρ.e j
  n : ∀ j, j < k.nn → ρ'.n j = ρ.n j
  v : ρ'.v = ρ.v
theorem Agree.refl (k : Cn) (ρ : Env) : Agree k ρ ρ := ⟨fun _ _ => rfl, fun _ _ => rfl, fun _ _ => rfl, fun _ _ => rfl, rfl⟩
def Sx.low (k : Cn) : Sx → Bool
  | .c _ => true
  | .x i => Nat.blt i k.ni
  | .l e _ => Nat.blt e k.ne
  | .w n _ => Nat.blt n k.nn
  | .o n _ => Nat.blt n k.nn
  | .oi n i => Nat.blt n k.nn && Nat.blt i k.ni
  | .wi n i => Nat.blt n k.nn && Nat.blt i k.ni
def Sb.low (k : Cn) : Sb → Bool
  | .c _ => true
  | .x i => Nat.blt i k.nb
theorem blt_lt {a b : Nat} (h : Nat.blt a b = true) : a < b := by
  have : a + 1 ≤ b := by simpa [Nat.blt] using h
  omega
section
variable {k : Cn} {ρ ρ' : Env}
theorem Sx.agree (h : Agree k ρ ρ') {x : Sx} (hl : x.low k = true) : x.val ρ' = x.val ρ := by
  cases x with
  | c n => rfl
  | x i => exact h.i i (blt_lt hl)
  | l e j => simp only [Sx.val, h.e e (blt_lt hl)]
  | w n j => simp only [Sx.val, h.n n (blt_lt hl)]
  | o n j => simp only [Sx.val, h.n n (blt_lt hl)]
  | oi n i => simp only [Sx.low, Bool.and_eq_true] at hl; simp only [Sx.val, h.n n (blt_lt hl.1), h.i i (blt_lt hl.2)]
  | wi n i => simp only [Sx.low, Bool.and_eq_true] at hl; simp only [Sx.val, h.n n (blt_lt hl.1), h.i i (blt_lt hl.2)]
theorem Sb.agree (h : Agree k ρ ρ') {x : Sb} (hl : x.low k = true) : x.val ρ' = x.val ρ := by
  cases x with
  | c n => rfl
  | x i => exact h.b i (blt_lt hl)
theorem Sxs.agree (h : Agree k ρ ρ') : ∀ {l : List Sx}, l.all (Sx.low k) = true → l.map (Sx.val ρ') = l.map (Sx.val ρ)
  | [], _ => rfl
  | x :: l, hl => by
    simp only [List.all_cons, Bool.and_eq_true] at hl
    simp only [List.map_cons, Sx.agree h hl.1, Sxs.agree h hl.2]
theorem Sbs.agree (h : Agree k ρ ρ') : ∀ {l : List Sb}, l.all (Sb.low k) = true → l.map (Sb.val ρ') = l.map (Sb.val ρ)
  | [], _ => rfl
  | x :: l, hl => by
    simp only [List.all_cons, Bool.and_eq_true] at hl
    simp only [List.map_cons, Sb.agree h hl.1, Sbs.agree h hl.2]
theorem esAgree (h : Agree k ρ ρ') : ∀ {l : List Nat}, l.all (Nat.blt · k.ne) = true → l.map ρ'.e = l.map ρ.e
  | [], _ => rfl
  | x :: l, hl => by
    simp only [List.all_cons, Bool.and_eq_true] at hl
    simp only [List.map_cons, h.e x (blt_lt hl.1), esAgree h hl.2]
theorem nsAgree (h : Agree k ρ ρ') : ∀ {l : List Nat}, l.all (Nat.blt · k.nn) = true → l.map ρ'.n = l.map ρ.n
  | [], _ => rfl
  | x :: l, hl => by
    simp only [List.all_cons, Bool.and_eq_true] at hl
    simp only [List.map_cons, h.n x (blt_lt hl.1), nsAgree h hl.2]
mutual
def SV.low (k : Cn) : SV → Bool
  | .int _ x => x.low k
  | .bool x => x.low k
  | .iface _ x => SV.low k x
  | .ptrI _ _ i _ => Nat.blt i k.ni
  | .sl i => Nat.blt i k.ni
  | .tbl _ i _ l => Nat.blt i k.ni && l.all (fun jc => Nat.blt jc.1 k.ni)
  | .agg vs => SV.lows k vs
  | .tuple vs => SV.lows k vs
  | _ => true
def SV.lows (k : Cn) : List SV → Bool
  | [] => true
  | x :: l => SV.low k x && SV.lows k l
end
mutual
theorem VRel.agree (h : Agree k ρ ρ') {α : Adr} : ∀ (s : SV) {v : Value}, s.low k = true → VRel ρ α s v → VRel ρ' α s v := by
  intro s v hl hv
  cases s with
  | int kk x =>
    simp only [SV.low] at hl
    simp only [VRel] at hv ⊢
    rw [Sx.agree h hl]; exact hv
  | bool x =>
    simp only [SV.low] at hl
    simp only [VRel] at hv ⊢
    rw [Sb.agree h hl]; exact hv
  | opq i => simp only [VRel] at hv ⊢; rw [h.v]; exact hv
  | ptrI c o i kk =>
    simp only [SV.low] at hl
    simp only [VRel] at hv ⊢
    rw [h.i i (blt_lt hl)]; exact hv
  | sl i =>
    simp only [SV.low] at hl
    simp only [VRel] at hv ⊢
    rw [h.i i (blt_lt hl)]; exact hv
  | tbl q i kk l =>
    simp only [SV.low, Bool.and_eq_true, List.all_eq_true] at hl
    simp only [VRel] at hv ⊢
    obtain ⟨h0, a, n, cap, h1, h2, h3, h4⟩ := hv
    refine ⟨by rw [h.v]; exact h0, a, n, cap, h1, by rw [h.i i (blt_lt hl.1)]; exact h2, h3, fun jc hj => ?_⟩
    have e := h.i jc.1 (blt_lt (hl.2 jc hj))
    rw [e]; exact h4 jc hj
  | iface t x =>
    simp only [SV.low] at hl
    simp only [VRel] at hv ⊢
    obtain ⟨u, h1, h2⟩ := hv
    exact ⟨u, h1, VRel.agree h x hl h2⟩
  | agg vs =>
    simp only [SV.low] at hl
    simp only [VRel] at hv ⊢
    obtain ⟨us, h1, h2⟩ := hv
    exact ⟨us, h1, VRels.agree h vs hl h2⟩
  | tuple vs =>
    simp only [SV.low] at hl
    simp only [VRel] at hv ⊢
    obtain ⟨us, h1, h2⟩ := hv
    exact ⟨us, h1, VRels.agree h vs hl h2⟩
  | any => simp only [VRel]
  | _ => simpa only [VRel] using hv
theorem VRels.agree (h : Agree k ρ ρ') {α : Adr} : ∀ (s : List SV) {v : List Value}, SV.lows k s = true → VRels ρ α s v → VRels ρ' α s v
  | [], _, _, hv => by simpa only [VRels] using hv
  | x :: l, _, hl, hv => by
    simp only [SV.lows, Bool.and_eq_true] at hl
    simp only [VRels] at hv ⊢
    obtain ⟨u, us', h1, h2, h3⟩ := hv
    exact ⟨u, us', h1, VRel.agree h x hl.1 h2, VRels.agree h l hl.2 h3⟩
end
theorem lows_get : ∀ {l : List SV} {j : Nat} {x : SV}, SV.lows k l = true → l[j]? = some x → x.low k = true
  | [], j, x, _, h => by simp at h
  | y :: l, j, x, hl, h => by
    simp only [SV.lows, Bool.and_eq_true] at hl
    cases j with
    | zero => simp only [List.getElem?_cons_zero, Option.some.injEq] at h; subst h; exact hl.1
    | succ j => exact lows_get hl.2 (by simpa using h)
theorem MRep.agree (h : Agree k ρ ρ') {S : Nat → Nat → Prop} {w0 : World} {α : Adr} {M : List Chunk} {w : World} (hl : M.all (fun c => SV.lows k c.cells) = true) (hm : MRep ρ S w0 α M w) : MRep ρ' S w0 α M w :=
  ⟨hm.fr, hm.out, fun c ch b s hc ha j x hx => by
    obtain ⟨v, hv, hr⟩ := hm.cell c ch b s hc ha j x hx
    exact ⟨v, hv, VRel.agree h x (lows_get (List.all_eq_true.1 hl ch (List.mem_of_getElem? hc)) hx) hr⟩, hm.lt, hm.wr, hm.dis⟩

/-! ### solutions -/
def wfT : Cn → List Ent → Bool
  | _, [] => true
  | c, .di j f xs :: l => Nat.beq j c.ni && xs.all (Sx.low c) && wfT { c with ni := c.ni + 1 } l
  | c, .db j f xs ns bs :: l => Nat.beq j c.nb && xs.all (Sx.low c) && ns.all (Nat.blt · c.nn) && bs.all (Sb.low c) && wfT { c with nb := c.nb + 1 } l
  | c, .de j f es xs ns :: l => Nat.beq j c.ne && es.all (Nat.blt · c.ne) && xs.all (Sx.low c) && ns.all (Nat.blt · c.nn) && wfT { c with ne := c.ne + 1 } l
  | c, .dn j f es xs ns :: l => Nat.beq j c.nn && es.all (Nat.blt · c.ne) && xs.all (Sx.low c) && ns.all (Nat.blt · c.nn) && wfT { c with nn := c.nn + 1 } l
  | c, .asm b v :: l => wfT c l
def Ent.def (ρ : Env) : Ent → Prop
  | .di k f xs => ρ.i k = f.sem (xs.map (Sx.val ρ))
  | .db k f xs ns bs => ρ.b k = f.sem (xs.map (Sx.val ρ)) (ns.map ρ.n) (bs.map (Sb.val ρ))
  | .de k f es xs ns => ρ.e k = f.sem (es.map ρ.e) (xs.map (Sx.val ρ)) (ns.map ρ.n)
  | .dn k f es xs ns => ρ.n k = f.sem (es.map ρ.e) (xs.map (Sx.val ρ)) (ns.map ρ.n)
  | .asm _ _ => True
def Ent.asn (ρ : Env) : Ent → Prop
  | .di _ _ _ => True
  | .db _ _ _ _ _ => True
  | .de _ _ _ _ _ => True
  | .dn _ _ _ _ _ => True
  | .asm b v => b.val ρ = v
def Defs (ρ : Env) : List Ent → Prop
  | [] => True
  | e :: l => e.def ρ ∧ Defs ρ l
def Asms (ρ : Env) : List Ent → Prop
  | [] => True
  | e :: l => e.asn ρ ∧ Asms ρ l
theorem sat_iff : ∀ {l : List Ent}, Sat ρ l ↔ Defs ρ l ∧ Asms ρ l
  | [] => by simp [Sat, Defs, Asms]
  | e :: l => by
    simp only [Sat, Defs, Asms, sat_iff (l := l)]
    cases e <;> simp only [Ent.def, Ent.asn, Ent.ok] <;> exact ⟨fun ⟨a, b, c⟩ => (by simp [a, b, c]), fun ⟨⟨a, b⟩, c, d⟩ => (by first | exact ⟨a, b, d⟩ | exact ⟨c, b, d⟩)⟩
theorem solve : ∀ (l : List Ent) (c : Cn) (ρ : Env), wfT c l = true → ∃ ρ', Agree c ρ ρ' ∧ Defs ρ' l
  | [], c, ρ, _ => ⟨ρ, Agree.refl _ _, trivial⟩
  | .di j f xs :: l, c, ρ, h => by
    simp only [wfT, Bool.and_eq_true] at h
    obtain ⟨⟨hj, hx⟩, hl⟩ := h
    have hj' := Nat.eq_of_beq_eq_true hj
    subst hj'
    let ρ1 : Env := { ρ with i := fun m => if m = c.ni then f.sem (xs.map (Sx.val ρ)) else ρ.i m }
    have h01 : Agree c ρ ρ1 := ⟨fun m hm => by simp only [ρ1]; rw [if_neg (by omega)], fun _ _ => rfl, fun _ _ => rfl, fun _ _ => rfl, rfl⟩
    obtain ⟨ρ', h1, h2⟩ := solve l { c with ni := c.ni + 1 } ρ1 hl
    have h0 : Agree c ρ ρ' := ⟨fun m hm => (h1.i m (by simp only; omega)).trans (h01.i m hm), fun m hm => (h1.b m hm).trans (h01.b m hm), fun m hm => (h1.e m hm).trans (h01.e m hm), fun m hm => (h1.n m hm).trans (h01.n m hm), h1.v.trans h01.v⟩
    refine ⟨ρ', h0, ?_, h2⟩
    show ρ'.i c.ni = f.sem (xs.map (Sx.val ρ'))
    rw [h1.i c.ni (by simp only; omega), Sxs.agree h0 hx]
    simp only [ρ1, if_true]
  | .db j f xs ns bs :: l, c, ρ, h => by
    simp only [wfT, Bool.and_eq_true] at h
    obtain ⟨⟨⟨⟨hj, hx⟩, hn⟩, hb⟩, hl⟩ := h
    have hj' := Nat.eq_of_beq_eq_true hj
    subst hj'
    let ρ1 : Env := { ρ with b := fun m => if m = c.nb then f.sem (xs.map (Sx.val ρ)) (ns.map ρ.n) (bs.map (Sb.val ρ)) else ρ.b m }
    have h01 : Agree c ρ ρ1 := ⟨fun _ _ => rfl, fun m hm => by simp only [ρ1]; rw [if_neg (by omega)], fun _ _ => rfl, fun _ _ => rfl, rfl⟩
    obtain ⟨ρ', h1, h2⟩ := solve l { c with nb := c.nb + 1 } ρ1 hl
    have h0 : Agree c ρ ρ' := ⟨fun m hm => (h1.i m hm).trans (h01.i m hm), fun m hm => (h1.b m (by simp only; omega)).trans (h01.b m hm), fun m hm => (h1.e m hm).trans (h01.e m hm), fun m hm => (h1.n m hm).trans (h01.n m hm), h1.v.trans h01.v⟩
    refine ⟨ρ', h0, ?_, h2⟩
    show ρ'.b c.nb = f.sem (xs.map (Sx.val ρ')) (ns.map ρ'.n) (bs.map (Sb.val ρ'))
    rw [h1.b c.nb (by simp only; omega), Sxs.agree h0 hx, nsAgree h0 hn, Sbs.agree h0 hb]
    simp only [ρ1, if_true]
  | .de j f es xs ns :: l, c, ρ, h => by
    simp only [wfT, Bool.and_eq_true] at h
    obtain ⟨⟨⟨⟨hj, he⟩, hx⟩, hn⟩, hl⟩ := h
    have hj' := Nat.eq_of_beq_eq_true hj
    subst hj'
    let ρ1 : Env := { ρ with e := fun m => if m = c.ne then f.sem (es.map ρ.e) (xs.map (Sx.val ρ)) (ns.map ρ.n) else ρ.e m }
    have h01 : Agree c ρ ρ1 := ⟨fun _ _ => rfl, fun _ _ => rfl, fun m hm => by simp only [ρ1]; rw [if_neg (by omega)], fun _ _ => rfl, rfl⟩
    obtain ⟨ρ', h1, h2⟩ := solve l { c with ne := c.ne + 1 } ρ1 hl
    have h0 : Agree c ρ ρ' := ⟨fun m hm => (h1.i m hm).trans (h01.i m hm), fun m hm => (h1.b m hm).trans (h01.b m hm), fun m hm => (h1.e m (by simp only; omega)).trans (h01.e m hm), fun m hm => (h1.n m hm).trans (h01.n m hm), h1.v.trans h01.v⟩
    refine ⟨ρ', h0, ?_, h2⟩
    show ρ'.e c.ne = f.sem (es.map ρ'.e) (xs.map (Sx.val ρ')) (ns.map ρ'.n)
    rw [h1.e c.ne (by simp only; omega), Sxs.agree h0 hx, nsAgree h0 hn, esAgree h0 he]
    simp only [ρ1, if_true]
  | .dn j f es xs ns :: l, c, ρ, h => by
    simp only [wfT, Bool.and_eq_true] at h
    obtain ⟨⟨⟨⟨hj, he⟩, hx⟩, hn⟩, hl⟩ := h
    have hj' := Nat.eq_of_beq_eq_true hj
    subst hj'
    let ρ1 : Env := { ρ with n := fun m => if m = c.nn then f.sem (es.map ρ.e) (xs.map (Sx.val ρ)) (ns.map ρ.n) else ρ.n m }
    have h01 : Agree c ρ ρ1 := ⟨fun _ _ => rfl, fun _ _ => rfl, fun _ _ => rfl, fun m hm => by simp only [ρ1]; rw [if_neg (by omega)], rfl⟩
    obtain ⟨ρ', h1, h2⟩ := solve l { c with nn := c.nn + 1 } ρ1 hl
    have h0 : Agree c ρ ρ' := ⟨fun m hm => (h1.i m hm).trans (h01.i m hm), fun m hm => (h1.b m hm).trans (h01.b m hm), fun m hm => (h1.e m hm).trans (h01.e m hm), fun m hm => (h1.n m (by simp only; omega)).trans (h01.n m hm), h1.v.trans h01.v⟩
    refine ⟨ρ', h0, ?_, h2⟩
    show ρ'.n c.nn = f.sem (es.map ρ'.e) (xs.map (Sx.val ρ')) (ns.map ρ'.n)
    rw [h1.n c.nn (by simp only; omega), Sxs.agree h0 hx, nsAgree h0 hn, esAgree h0 he]
    simp only [ρ1, if_true]
  | .asm b v :: l, c, ρ, h => by
    simp only [wfT] at h
    obtain ⟨ρ', h1, h2⟩ := solve l c ρ h
    exact ⟨ρ', h1, trivial, h2⟩
theorem defs_app : ∀ {l m : List Ent}, Defs ρ (l ++ m) ↔ Defs ρ l ∧ Defs ρ m
  | [], m => by simp [Defs]
  | e :: l, m => by simp only [List.cons_append, Defs, defs_app (l := l), and_assoc]
theorem defs_rev : ∀ {l : List Ent}, Defs ρ l.reverse → Defs ρ l
  | [], _ => trivial
  | e :: l, h => by
    rw [List.reverse_cons, defs_app] at h
    exact ⟨h.2.1, defs_rev h.1⟩
end
def Ms.cn (ms : Ms) : Cn := ⟨ms.ni, ms.nb, ms.ne, ms.nn⟩
/-- What the kernel looks at: the run, and that all is in order. -/
def runOk (r : Rule) (ms : Ms) (args : List SV) (ret : SV) (ms' : Ms) : Prop :=
  r ms args = some (ret, ms') ∧ wfT ms.cn ms'.tr.reverse = true ∧ ms.mem.all (fun c => SV.lows ms.cn c.cells) = true ∧ SV.lows ms.cn args = true
/-- A run as a contract. -/
theorem run_calls {P : Program} {f : FuncId} {r : Rule} (hr : RuleOk P f r) {ms ms' : Ms} {args : List SV} {ret : SV} (h : runOk r ms args ret ms') {ρ : Env} {S : Nat → Nat → Prop} {w0 : World} {α : Adr} {w : World} {vs : List Value}
    (hm : MRep ρ S w0 α ms.mem w) (hg : GRep ms.gl α) (hv : VRels ρ α args vs) (hasm : ∀ ρ', Agree ms.cn ρ ρ' → Defs ρ' ms'.tr → Asms ρ' ms'.tr) :
    Invokes P f vs.toArray w fun v w' => ∃ ρ' α', Agree ms.cn ρ ρ' ∧ Defs ρ' ms'.tr ∧ Ext ms.mem.length α α' ∧ VRel ρ' α' ret v ∧ MRep ρ' S w0 α' ms'.mem w' := by
  obtain ⟨h1, h2, h3, h4⟩ := h
  obtain ⟨ρ', ha, hd⟩ := solve _ _ ρ h2
  have hd' := defs_rev hd
  have hs : Sat ρ' ms'.tr := sat_iff.2 ⟨hd', hasm ρ' ha hd'⟩
  obtain ⟨g, hk⟩ := hr ρ' ms ms' args ret h1 hs
  refine (hk S w0 α w vs (hm.agree ha h3) hg (VRels.agree ha _ h4 hv)).mono ?_
  rintro v w' ⟨α', h5, h6, h7⟩
  exact ⟨ρ', α', ha, hd', h5, h6, h7⟩
/-- A run at an environment that solves its trace. -/
theorem run_at {P : Program} {f : FuncId} {r : Rule} (hr : RuleOk P f r) {ms ms' : Ms} {args : List SV} {ret : SV} (h : runOk r ms args ret ms') {ρ ρ' : Env} (ha : Agree ms.cn ρ ρ') (hd : Defs ρ' ms'.tr) (has : Asms ρ' ms'.tr)
    {S : Nat → Nat → Prop} {w0 : World} {α : Adr} {w : World} {vs : List Value} (hm : MRep ρ S w0 α ms.mem w) (hg : GRep ms.gl α) (hv : VRels ρ α args vs) :
    Invokes P f vs.toArray w fun v w' => ∃ α', Ext ms.mem.length α α' ∧ VRel ρ' α' ret v ∧ MRep ρ' S w0 α' ms'.mem w' := by
  obtain ⟨h1, h2, h3, h4⟩ := h
  obtain ⟨g, hk⟩ := hr ρ' ms ms' args ret h1 (sat_iff.2 ⟨hd, has⟩)
  exact hk S w0 α w vs (hm.agree ha h3) hg (VRels.agree ha _ h4 hv)
theorem solved {r : Rule} {ms ms' : Ms} {args : List SV} {ret : SV} (h : runOk r ms args ret ms') (ρ : Env) : ∃ ρ', Agree ms.cn ρ ρ' ∧ Defs ρ' ms'.tr := by
  obtain ⟨h1, h2, h3, h4⟩ := h
  obtain ⟨ρ', ha, hd⟩ := solve _ _ ρ h2
  exact ⟨ρ', ha, defs_rev hd⟩
end Go.Proofs.YtpaidbefbkokfaaDoor
