/- The table of rules for points. No condition. -/
import Derived.Test.YtolmkbojlpplfaaDoorPsg
import Derived.Test.YtolmkbojlpplfaaDoorDec
import Derived.Test.YtolmkbojlpplfaaDoorSli
import Derived.Test.YtolmkbojlpplfaaDoorEdd
import Derived.OpenShut
import Derived.Test.YtolmkbojlpplfaaDoorLaw2
namespace Go.Proofs.YtolmkbojlpplfaaDoor
open Go Go.RowKit
noncomputable def tabQ : List (Nat × Rule) := (30, psRule 108 isVf ptf pXf pYf pZf pTf) ::
  (31, npRule isVf iXf iYf iZf iTf "iXf" "iYf" "iZf" "iTf") ::
  (33, npRule isVf gXf gYf gZf gTf "gXf" "gYf" "gZf" "gTf") ::
  (25, pbRule) :: (27, decRule ptf dXf) :: (28, encRule) :: (14, sliRule) :: tabK
theorem tabQ_ok : TabOk tabQ := .cons (psRule_ok isV_ok ps_c) (.cons (npRule_ok isV_ok nip_c) (.cons (npRule_ok isV_ok ngp_c) (.cons (pbRule_ok pb_c) (.cons (decRule_ok dec_c) (.cons (encRule_ok enc_c) (.cons (sliRule_ok slice_c) tabK_ok))))))
end Go.Proofs.YtolmkbojlpplfaaDoor

/- Coordinates of points with a denominator: what the code's and the reference's formulas give. No condition. -/
namespace Go.Proofs.YtolmkbojlpplfaaDoor
set_option linter.unusedVariables false
set_option linter.unusedSimpArgs false

/-- x / z and y / z are a point's. -/
def Co (x y z : F) (p : Pt) : Prop := z ≠ 0 ∧ x = p.x * z ∧ y = p.y * z
/-- As well t / z is x y of it. -/
def Co4 (x y z t : F) (p : Pt) : Prop := Co x y z p ∧ t = p.x * p.y * z
theorem co_ne {x y z : F} {p : Pt} (h : Co x y z p) : ¬ (x = 0 ∧ y = 0) := fun ⟨h1, h2⟩ => by
  obtain ⟨hz, hx, hy⟩ := h
  rw [h1] at hx
  rw [h2] at hy
  refine pt_ne p ⟨?_, ?_⟩
  · rcases mul_eq_zero' hx.symm with e | e
    · exact e
    · exact absurd e hz
  · rcases mul_eq_zero' hy.symm with e | e
    · exact e
    · exact absurd e hz
theorem co_frac {x z a : F} (hz : z ≠ 0) (h : x = a * z) : x * finv z = a := by
  have hf := mul_finv hz
  rw [h]
  generalize finv z = i at *
  grind
theorem co_enc {x y z : F} {p : Pt} (h : Co x y z p) : encF (x * finv z) (y * finv z) = encF p.x p.y := by
  rw [co_frac h.1 h.2.1, co_frac h.1 h.2.2]
theorem one_ne0 : (1 : F) ≠ 0 := by decide +kernel
theorem two_ne0 : (1 : F) + 1 ≠ 0 := by decide +kernel
theorem co_one {x y z t : F} {p : Pt} (hx : x = p.x) (hy : y = p.y) (hz : z = 1) (ht : t = p.x * p.y) : Co4 x y z t p := by
  subst hx hy hz ht
  exact ⟨⟨one_ne0, (m1F _).symm, (m1F _).symm⟩, (m1F _).symm⟩
theorem co_pt {x y z : F} {p : Pt} (hx : x = p.x) (hy : y = p.y) (hz : z = 1) : Co x y z p := by
  subst hx hy hz
  exact ⟨one_ne0, (m1F _).symm, (m1F _).symm⟩
theorem co_negN {x y z : F} {p : Pt} (h : Co x y z p) : Co (0 - x) y z p.neg := by
  obtain ⟨hz, hx, hy⟩ := h
  refine ⟨hz, ?_, hy⟩
  show 0 - x = -p.x * z
  rw [hx]; grind
theorem co_neg {x y z t : F} {p : Pt} (h : Co4 x y z t p) : Co4 (0 - x) y z (0 - t) p.neg := by
  refine ⟨co_negN h.1, ?_⟩
  show 0 - t = -p.x * p.y * z
  rw [h.2]; grind
/-- A sum, as the reference reckons it. -/
theorem co_addN {x1 y1 z1 x2 y2 z2 : F} {p q : Pt} (h1 : Co x1 y1 z1 p) (h2 : Co x2 y2 z2 q) :
    Co (z1 * z2 * ((x1 * y2 + x2 * y1) * (z1 * z2 * (z1 * z2) - dC * (x1 * x2 * (y1 * y2))))) (z1 * z2 * ((x1 * x2 + y1 * y2) * (z1 * z2 * (z1 * z2) + dC * (x1 * x2 * (y1 * y2))))) ((z1 * z2 * (z1 * z2) + dC * (x1 * x2 * (y1 * y2))) * (z1 * z2 * (z1 * z2) - dC * (x1 * x2 * (y1 * y2)))) (p.add q) := by
  obtain ⟨hz1, rfl, rfl⟩ := h1
  obtain ⟨hz2, rfl, rfl⟩ := h2
  have a1 := addX_eq p.on q.on
  have a2 := addY_eq p.on q.on
  have n1 := den_add p.on q.on
  have n2 := den_sub p.on q.on
  show _ ∧ _ = addX p.x p.y q.x q.y * _ ∧ _ = addY p.x p.y q.x q.y * _
  generalize addX p.x p.y q.x q.y = X at *
  generalize addY p.x p.y q.x q.y = Y at *
  generalize p.x = a at *
  generalize p.y = b at *
  generalize q.x = c at *
  generalize q.y = e at *
  generalize dC = d at *
  have m1 : z1 * z2 * (z1 * z2) + d * (a * z1 * (c * z2) * (b * z1 * (e * z2))) = z1 * z2 * (z1 * z2) * (1 + d * a * c * b * e) := by grind
  have m2 : z1 * z2 * (z1 * z2) - d * (a * z1 * (c * z2) * (b * z1 * (e * z2))) = z1 * z2 * (z1 * z2) * (1 - d * a * c * b * e) := by grind
  rw [m1, m2]
  have hz := mul_ne0 hz1 hz2
  have hzz := mul_ne0 hz hz
  refine ⟨mul_ne0 (mul_ne0 hzz n1) (mul_ne0 hzz n2), ?_, ?_⟩
  · have : X * (z1 * z2 * (z1 * z2) * (1 + d * a * c * b * e) * (z1 * z2 * (z1 * z2) * (1 - d * a * c * b * e))) = z1 * z2 * (z1 * z2) * (X * (1 + d * a * c * b * e)) * (z1 * z2 * (z1 * z2) * (1 - d * a * c * b * e)) := by grind
    rw [this, a1]
    generalize 1 - d * a * c * b * e = v
    grind
  · have : Y * (z1 * z2 * (z1 * z2) * (1 + d * a * c * b * e) * (z1 * z2 * (z1 * z2) * (1 - d * a * c * b * e))) = z1 * z2 * (z1 * z2) * (Y * (1 - d * a * c * b * e)) * (z1 * z2 * (z1 * z2) * (1 + d * a * c * b * e)) := by grind
    rw [this, a2]
    generalize 1 + d * a * c * b * e = v
    grind
/-- A sum, as the code reckons it. -/
theorem co_add {x1 y1 z1 t1 x2 y2 z2 t2 : F} {p q : Pt} (h1 : Co4 x1 y1 z1 t1 p) (h2 : Co4 x2 y2 z2 t2 q) {PP MM TT ZZ : F} (hP : PP = (y1 + x1) * (y2 + x2)) (hM : MM = (y1 - x1) * (y2 - x2)) (hT : TT = t1 * (t2 * (dC + dC))) (hZ : ZZ = z1 * z2 + z1 * z2) :
    Co4 ((PP - MM) * (ZZ - TT)) ((PP + MM) * (ZZ + TT)) ((ZZ + TT) * (ZZ - TT)) ((PP - MM) * (PP + MM)) (p.add q) := by
  obtain ⟨⟨hz1, rfl, rfl⟩, rfl⟩ := h1
  obtain ⟨⟨hz2, rfl, rfl⟩, rfl⟩ := h2
  have a1 := addX_eq p.on q.on
  have a2 := addY_eq p.on q.on
  have n1 := den_add p.on q.on
  have n2 := den_sub p.on q.on
  show (_ ∧ _ = addX p.x p.y q.x q.y * _ ∧ _ = addY p.x p.y q.x q.y * _) ∧ _ = addX p.x p.y q.x q.y * addY p.x p.y q.x q.y * _
  generalize addX p.x p.y q.x q.y = X at *
  generalize addY p.x p.y q.x q.y = Y at *
  generalize p.x = a at *
  generalize p.y = b at *
  generalize q.x = c at *
  generalize q.y = e at *
  generalize dC = d at *
  have m1 : ZZ + TT = (1 + 1) * (z1 * z2) * (1 + d * a * c * b * e) := by rw [hZ, hT]; grind
  have m2 : ZZ - TT = (1 + 1) * (z1 * z2) * (1 - d * a * c * b * e) := by rw [hZ, hT]; grind
  have m3 : PP - MM = X * (ZZ + TT) := by
    have : X * ((1 + 1) * (z1 * z2) * (1 + d * a * c * b * e)) = (1 + 1) * (z1 * z2) * (X * (1 + d * a * c * b * e)) := by grind
    rw [m1, this, a1, hP, hM]; grind
  have m4 : PP + MM = Y * (ZZ - TT) := by
    have : Y * ((1 + 1) * (z1 * z2) * (1 - d * a * c * b * e)) = (1 + 1) * (z1 * z2) * (Y * (1 - d * a * c * b * e)) := by grind
    rw [m2, this, a2, hP, hM]; grind
  have hz := mul_ne0 two_ne0 (mul_ne0 hz1 hz2)
  have k1 : ZZ + TT ≠ 0 := by rw [m1]; exact mul_ne0 hz n1
  have k2 : ZZ - TT ≠ 0 := by rw [m2]; exact mul_ne0 hz n2
  rw [m3, m4]
  generalize ZZ + TT = u at *
  generalize ZZ - TT = v at *
  refine ⟨⟨mul_ne0 k1 k2, ?_, ?_⟩, ?_⟩ <;> grind
/-- A difference. -/
theorem co_sub {x1 y1 z1 t1 x2 y2 z2 t2 : F} {p q : Pt} (h1 : Co4 x1 y1 z1 t1 p) (h2 : Co4 x2 y2 z2 t2 q) {PP MM TT ZZ : F} (hP : PP = (y1 + x1) * (y2 - x2)) (hM : MM = (y1 - x1) * (y2 + x2)) (hT : TT = t1 * (t2 * (dC + dC))) (hZ : ZZ = z1 * z2 + z1 * z2) :
    Co4 ((PP - MM) * (ZZ + TT)) ((PP + MM) * (ZZ - TT)) ((ZZ - TT) * (ZZ + TT)) ((PP - MM) * (PP + MM)) (p.add q.neg) := by
  have h := co_add h1 (co_neg h2) (PP := PP) (MM := MM) (TT := -TT) (ZZ := ZZ) (by rw [hP]; grind) (by rw [hM]; grind) (by rw [hT]; generalize dC = d; grind) hZ
  have e1 : ZZ - -TT = ZZ + TT := by grind
  have e2 : ZZ + -TT = ZZ - TT := by grind
  rw [e1, e2] at h
  exact h
end Go.Proofs.YtolmkbojlpplfaaDoor

/- What traces over points tell: facts of single entries. No condition. -/
namespace Go.Proofs.YtolmkbojlpplfaaDoor
open Go Go.RowKit
set_option linter.unusedVariables false
set_option linter.unusedSimpArgs false
set_option maxRecDepth 100000
section
variable {ρ : Env}
theorem isv_t {k j a b c : Nat} (hv : [ρ.e a, ρ.e b, ρ.e c] = esV) (h1 : Ent.def ρ (.dn k (.fx "isVf" isVf) [a, b, c] [] [])) (h2 : Ent.def ρ (.db j .eql [.w k 0, .c 1] [] [])) : ρ.b j = true := by
  have e1 : ρ.n k = isVf [ρ.e a, ρ.e b, ρ.e c] [] [] := h1
  have e2 : ρ.b j = (((word (ρ.n k) 0 : Nat) : Int) == 1) := h2
  have e3 : ρ.n k = 1 := by rw [e1, hv]; unfold isVf; exact if_pos rfl
  rw [e2, e3]; decide
theorem ini_t {k j x y : Nat} (hne : ¬ ((ρ.e x).fe = 0 ∧ (ρ.e y).fe = 0)) (h1 : Ent.def ρ (.dn k (.fx "iniN" iniN) [x, y] [] [])) (h2 : Ent.def ρ (.db j .eql [.w k 0, .c 1] [] [])) : ρ.b j = true := by
  have e1 : ρ.n k = if (ρ.e x).fe = 0 ∧ (ρ.e y).fe = 0 then 0 else 1 := h1
  have e2 : ρ.b j = (((word (ρ.n k) 0 : Nat) : Int) == 1) := h2
  rw [if_neg hne] at e1
  rw [e2, e1]; decide
theorem pt_t {j m : Nat} (h : Ent.def ρ (.db j (.fx "ptf" ptf) [] [m] [])) : ρ.b j = ptB (ρ.n m) := h
theorem co_ps {k m : Nat} {p : Pt} (hp : ptB (ρ.n m) = true) (hd : decP (ρ.n m) = p) (h0 : Ent.def ρ (.de k (.fx "pXf" pXf) [] [] [m])) (h1 : Ent.def ρ (.de (k + 1) (.fx "pYf" pYf) [] [] [m])) (h2 : Ent.def ρ (.de (k + 2) (.fx "pZf" pZf) [] [] [m])) (h3 : Ent.def ρ (.de (k + 3) (.fx "pTf" pTf) [] [] [m])) :
    Co4 (ρ.e k).fe (ρ.e (k + 1)).fe (ρ.e (k + 2)).fe (ρ.e (k + 3)).fe p := by
  obtain ⟨f0, f1, f2, f3⟩ := pt_fe hp
  rw [hd] at f0 f1 f3
  have e0 : ρ.e k = pXf [] [] [ρ.n m] := h0
  have e1 : ρ.e (k + 1) = pYf [] [] [ρ.n m] := h1
  have e2 : ρ.e (k + 2) = pZf [] [] [ρ.n m] := h2
  have e3 : ρ.e (k + 3) = pTf [] [] [ρ.n m] := h3
  rw [e0, e1, e2, e3]
  exact co_one f0 f1 f2 f3
theorem co_id {k : Nat} (h0 : Ent.def ρ (.de k (.fx "iXf" iXf) [] [] [])) (h1 : Ent.def ρ (.de (k + 1) (.fx "iYf" iYf) [] [] [])) (h2 : Ent.def ρ (.de (k + 2) (.fx "iZf" iZf) [] [] [])) (h3 : Ent.def ρ (.de (k + 3) (.fx "iTf" iTf) [] [] [])) :
    Co4 (ρ.e k).fe (ρ.e (k + 1)).fe (ρ.e (k + 2)).fe (ρ.e (k + 3)).fe Pt.zero := by
  obtain ⟨f0, f1, f2, f3⟩ := id_fe
  have e0 : ρ.e k = iXf [] [] [] := h0
  have e1 : ρ.e (k + 1) = iYf [] [] [] := h1
  have e2 : ρ.e (k + 2) = iZf [] [] [] := h2
  have e3 : ρ.e (k + 3) = iTf [] [] [] := h3
  rw [e0, e1, e2, e3]
  exact co_one f0 f1 f2 f3
theorem co_gen {k : Nat} (h0 : Ent.def ρ (.de k (.fx "gXf" gXf) [] [] [])) (h1 : Ent.def ρ (.de (k + 1) (.fx "gYf" gYf) [] [] [])) (h2 : Ent.def ρ (.de (k + 2) (.fx "gZf" gZf) [] [] [])) (h3 : Ent.def ρ (.de (k + 3) (.fx "gTf" gTf) [] [] [])) :
    Co4 (ρ.e k).fe (ρ.e (k + 1)).fe (ρ.e (k + 2)).fe (ρ.e (k + 3)).fe genP := by
  obtain ⟨f0, f1, f2, f3⟩ := gen_fe
  have e0 : ρ.e k = gXf [] [] [] := h0
  have e1 : ρ.e (k + 1) = gYf [] [] [] := h1
  have e2 : ρ.e (k + 2) = gZf [] [] [] := h2
  have e3 : ρ.e (k + 3) = gTf [] [] [] := h3
  rw [e0, e1, e2, e3]
  exact co_one f0 f1 f2 f3
theorem e_encP {k x y z : Nat} {p : Pt} (h : Ent.def ρ (.dn k (.fx "encP" encP) [x, y, z] [] [])) (hc : Co (ρ.e x).fe (ρ.e y).fe (ρ.e z).fe p) : ρ.n k = encF p.x p.y :=
  (show ρ.n k = encF ((ρ.e x).fe * finv (ρ.e z).fe) ((ρ.e y).fe * finv (ρ.e z).fe) from h).trans (co_enc hc)
theorem ptB_of {m : Nat} {p : Pt} (h : ρ.n m = encF p.x p.y) : ptB (ρ.n m) = true := by rw [h]; exact ptB_enc p
theorem decP_of {m : Nat} {p : Pt} (h : ρ.n m = encF p.x p.y) : decP (ρ.n m) = p := by rw [h]; exact dec_enc p
theorem v_dX {k m : Nat} {p : Pt} (h : Ent.def ρ (.dn k (.fx "dXf" dXf) [] [] [m])) (hp : ptB (ρ.n m) = true) (hd : decP (ρ.n m) = p) : ρ.n k = p.x.val := by
  rw [show ρ.n k = (decX (ρ.n m)).val from h, ← hd, decP_x hp]
theorem v_dY {k m : Nat} {p : Pt} (h : Ent.def ρ (.dn k .elem [] [] [m])) (hp : ptB (ρ.n m) = true) (hd : decP (ρ.n m) = p) : ρ.n k = p.y.val := by
  rw [v_elem h, ← hd, decP_y hp]
theorem inP_t {j a b c : Nat} {x y z : F} (h : Ent.def ρ (.db j (.fx "inP" inP) [] [a, b, c] [])) (ha : ρ.n a = x.val) (hb : ρ.n b = y.val) (hc : ρ.n c = z.val) : ρ.b j = true := by
  have e : ρ.b j = (decide (ρ.n a < P) && (decide (ρ.n b < P) && decide (ρ.n c < P))) := h
  rw [e, ha, hb, hc, decide_eq_true x.isLt, decide_eq_true y.isLt, decide_eq_true z.isLt]
  rfl
theorem e_encN {k a b c : Nat} {x y z : F} {p : Pt} (h : Ent.def ρ (.dn k (.fx "encN" encN) [] [] [a, b, c])) (ha : ρ.n a = x.val) (hb : ρ.n b = y.val) (hc : ρ.n c = z.val) (hco : Co x y z p) : ρ.n k = encF p.x p.y := by
  have e : ρ.n k = encF (inF (ρ.n a) * finv (inF (ρ.n c))) (inF (ρ.n b) * finv (inF (ρ.n c))) := h
  rw [e, ha, hb, hc, inF_val, inF_val, inF_val, co_enc hco]
theorem encF_256 (x y : F) : encF x y < 2 ^ 256 := encF_lt x y
open Classical in
/-- Whether bytes of points are equal. -/
theorem b_ee {k a b : Nat} {p q : Pt} (h : Ent.def ρ (.db k .eqs (octX a 0 32 ++ octX b 0 32) [] [])) (ha : ρ.n a = encF p.x p.y) (hb : ρ.n b = encF q.x q.y) : ρ.b k = decide (p = q) := by
  rw [eqs_oo h, ha, hb, decide_eq_decide, octs_inj (encF_256 _ _) (encF_256 _ _)]
  exact enc_inj
open Classical in
theorem ee_t {k a b : Nat} {p q : Pt} (h : Ent.def ρ (.db k .eqs (octX a 0 32 ++ octX b 0 32) [] [])) (ha : ρ.n a = encF p.x p.y) (hb : ρ.n b = encF q.x q.y) (e : p = q) : ρ.b k = true := by
  rw [b_ee h ha hb]; exact decide_eq_true e
theorem fe_zero (hv : [ρ.e 0, ρ.e 1, ρ.e 2] = esV) : (ρ.e 0).fe = 0 := by
  have h : ρ.e 0 = litE 0 0 0 0 0 := by unfold esV at hv; simp only [List.cons.injEq] at hv; exact hv.1
  rw [h]; decide +kernel
end
theorem hvV {ns : List Nat} {ρ : Env} {i n : Nat} (ha : Agree ⟨i, 0, 3, n⟩ (envV ns []) ρ) : [ρ.e 0, ρ.e 1, ρ.e 2] = esV := by
  rw [show ρ.e 0 = esV.getD 0 zeroE from ha.e 0 (show 0 < 3 by decide), show ρ.e 1 = esV.getD 1 zeroE from ha.e 1 (show 1 < 3 by decide), show ρ.e 2 = esV.getD 2 zeroE from ha.e 2 (show 2 < 3 by decide)]
  rfl
section
variable {H : Type} {enc : TypeId × Value → H} {Q : Program} {w : World} {spare : Nat → Bool}
open Go.ChangeShapes Go.RowKit in
/-- Three named variables, opened. -/
theorem vars_three {n0 n1 n2 : String} {gs : List (DataW H)} {ps : List MemPlace} (h : DataW.TrodVars enc Q w spare [n0, n1, n2] gs ps) : ∃ g0 g1 g2, gs = [g0, g1, g2] := by
  cases gs with
  | nil => simp [DataW.TrodVars] at h
  | cons d ds =>
    obtain ⟨g0, t0, cs0, f0, p0, q0, h1, h2, h3, h4, hs, e⟩ := h
    obtain ⟨_, _, _, _, d1, _, _, _, _, _, d2, _, e2, _⟩ := trodVars_two hs
    exact ⟨d, d1, d2, by rw [e2]⟩
end
end Go.Proofs.YtolmkbojlpplfaaDoor
