/- What the laws share: the reference's numbers as elements of the field. No condition. -/
import Derived.Test.YtolmkbojlpplfaaDoorLaw
namespace Go.Proofs.YtolmkbojlpplfaaDoor
open Go Go.RowKit
set_option linter.unusedVariables false
set_option linter.unusedSimpArgs false

theorem P_pP : P = pP := rfl
theorem val_W4 (x : F) : x.val % W4 = x.val := Nat.mod_eq_of_lt (Nat.lt_trans x.isLt (by decide))
theorem val_lt4 (x : F) : x.val < W4 := Nat.lt_trans x.isLt (by decide)
theorem elem_val (n : Nat) : n % 57896044618658097711785492504343953926634992332820282019728792003956564819968 % pP = (inF n).val := by
  have h := toF_val ((n : Int) % 57896044618658097711785492504343953926634992332820282019728792003956564819968)
  have h2 : ((inF n).val : Int) = (n : Int) % 57896044618658097711785492504343953926634992332820282019728792003956564819968 % (P : Int) := h
  rw [show ((P : Nat) : Int) = ((pP : Nat) : Int) from rfl] at h2
  unfold pP at h2 ⊢
  generalize (inF n).val = z at *
  omega
theorem plus_val (x y : F) : plusN x.val y.val pP = (x + y).val := by
  rw [plusN_eq (m := pP) x.isLt y.isLt pP_le]; rfl
theorem times_val (x y : F) : timesN x.val y.val pP = (x * y).val := by
  rw [timesN_eq (m := pP) x.isLt (val_lt4 y) pP_le]; rfl
theorem sqs_val (x : F) : ∀ k, sqsN x.val k = (fpow x (2 ^ k)).val := by
  intro k
  induction k generalizing x with
  | zero => rw [Nat.pow_zero, fpow_one]; rfl
  | succ k ih =>
    show sqsN (timesN x.val x.val pP) k = _
    rw [times_val, ih, Nat.pow_succ', fpow_mul, fpow_two]
section
variable {ρ : Env}
theorem v_canon {k e : Nat} (h : Ent.def ρ (.dn k .canon [e] [] [])) : ρ.n k = (ρ.e e).fe.val := h
theorem v_elem {k a : Nat} (h : Ent.def ρ (.dn k .elem [] [] [a])) : ρ.n k = (inF (ρ.n a)).val := by
  have h1 : ρ.n k = ρ.n a % 57896044618658097711785492504343953926634992332820282019728792003956564819968 % pP := h
  rw [h1, elem_val]
theorem v_elem' {k a : Nat} {x : F} (h : Ent.def ρ (.dn k .elem [] [] [a])) (ha : ρ.n a = x.val) : ρ.n k = x.val := by
  rw [v_elem h, ha, inF_val]
theorem v_plus {k a b m : Nat} {x y : F} (h : Ent.def ρ (.dn k .plus [] [] [a, b, m])) (ha : ρ.n a = x.val) (hb : ρ.n b = y.val) (hm : ρ.n m % W4 = pP) : ρ.n k = (x + y).val := by
  have h1 : ρ.n k = plusN (ρ.n a % W4) (ρ.n b % W4) (ρ.n m % W4) := h
  rw [h1, ha, hb, hm, val_W4, val_W4, plus_val]
theorem v_times {k a b m : Nat} {x y : F} (h : Ent.def ρ (.dn k .times [] [] [a, b, m])) (ha : ρ.n a = x.val) (hb : ρ.n b = y.val) (hm : ρ.n m % W4 = pP) : ρ.n k = (x * y).val := by
  have h1 : ρ.n k = timesN (ρ.n a % W4) (ρ.n b % W4) (ρ.n m % W4) := h
  rw [h1, ha, hb, hm, val_W4, val_W4, times_val]
theorem v_sqs {k a i : Nat} {x : F} (h : Ent.def ρ (.dn k .sqs [] [.x i] [a])) (ha : ρ.n a = x.val) : ρ.n k = (fpow x (2 ^ (ρ.i i).toNat)).val := by
  have h1 : ρ.n k = sqsN (ρ.n a % W4) (ρ.i i).toNat := h
  rw [h1, ha, val_W4, sqs_val]
theorem v_of {k c : Nat} {x : F} (h : Ent.def ρ (.dn k .of [] (octC c) [])) (hc : c = x.val) : ρ.n k = x.val := by
  rw [of_c h (by rw [hc]; exact Nat.lt_trans x.isLt (by decide)), hc]
theorem oct_valF {x y : F} : decide (octs x.val 0 32 = octs y.val 0 32) = decide (x = y) := by
  rw [decide_eq_decide]
  constructor
  · intro h
    have := (octs_inj (Nat.lt_trans x.isLt (by decide)) (Nat.lt_trans y.isLt (by decide))).1 h
    exact Fin.ext this
  · intro h; rw [h]
theorem b_oo {k a b : Nat} {x y : F} (h : Ent.def ρ (.db k .eqs (octX a 0 32 ++ octX b 0 32) [] [])) (ha : ρ.n a = x.val) (hb : ρ.n b = y.val) : ρ.b k = decide (x = y) := by
  rw [eqs_oo h, ha, hb, oct_valF]
theorem b_oc {k a c : Nat} {x y : F} (h : Ent.def ρ (.db k .eqs (octX a 0 32 ++ octC c) [] [])) (ha : ρ.n a = x.val) (hc : c = y.val) : ρ.b k = decide (x = y) := by
  rw [eqs_oc h, ha, hc, oct_valF]
def wrdX (n : Nat) : Nat → Nat → List Sx
  | _, 0 => []
  | i, k + 1 => .w n i :: wrdX n (i + 1) k
theorem wrdX_val {n : Nat} : ∀ (k i : Nat), (wrdX n i k).map (Sx.val ρ) = wrds (ρ.n n) i k
  | 0, i => rfl
  | k + 1, i => by simp only [wrdX, wrds, List.map_cons, Sx.val, wrdX_val k (i + 1)]
theorem wrds_length {n : Nat} : ∀ (k i : Nat), (wrds n i k).length = k
  | 0, i => rfl
  | k + 1, i => by simp only [wrds, List.length_cons, wrds_length k (i + 1)]
theorem eqs_ww {k a b : Nat} (h : Ent.def ρ (.db k .eqs (wrdX a 0 4 ++ wrdX b 0 4) [] [])) : ρ.b k = decide (wrds (ρ.n a) 0 4 = wrds (ρ.n b) 0 4) := by
  have h1 : ρ.b k = Fb.sem .eqs ((wrdX a 0 4 ++ wrdX b 0 4).map (Sx.val ρ)) [] [] := h
  rw [List.map_append, wrdX_val, wrdX_val, eqs_sem (by rw [wrds_length, wrds_length])] at h1
  exact h1
theorem b_ww {k a b : Nat} {x y : F} (h : Ent.def ρ (.db k .eqs (wrdX a 0 4 ++ wrdX b 0 4) [] [])) (ha : ρ.n a = x.val) (hb : ρ.n b = y.val) : ρ.b k = decide (x = y) := by
  rw [eqs_ww h, ha, hb, decide_eq_decide, wrds_inj (val_lt4 x) (val_lt4 y)]
  exact ⟨fun h => Fin.ext h, fun h => by rw [h]⟩
theorem i_eqI {k a b : Nat} {x y : F} (h : Ent.def ρ (.di k .eqI (octX a 0 32 ++ octX b 0 32))) (ha : ρ.n a = x.val) (hb : ρ.n b = y.val) : ρ.i k = if x = y then 1 else 0 := by
  have h1 : ρ.i k = Fi.sem .eqI ((octX a 0 32 ++ octX b 0 32).map (Sx.val ρ)) := h
  rw [List.map_append, octX_val, octX_val, eqI_sem, ha, hb, val_W4, val_W4] at h1
  rw [h1]
  by_cases hxy : x = y
  · rw [if_pos (by rw [hxy]), if_pos hxy]
  · rw [if_neg (fun h => hxy (Fin.ext h)), if_neg hxy]
theorem f_sqN {k a : Nat} {x : F} {n : Sx} (h : Ent.def ρ (.de k .sqN [a] [n] [])) (ha : (ρ.e a).fe = x) : (ρ.e k).fe = fpow x (2 ^ (n.val ρ).toNat) := by
  have h1 : ρ.e k = sqNE (ρ.e a) (n.val ρ).toNat := h
  rw [h1, sqNE_fe, ha]
theorem f_sel {k a b : Nat} {n : Sx} (h : Ent.def ρ (.de k .sel [a, b] [n] [])) : ρ.e k = if n.val ρ = 1 then ρ.e a else ρ.e b := h
/-- Powers of one element, by their exponents. -/
theorem p_mul {k a b K L M : Nat} {x : F} (h : Ent.def ρ (.de k .mul [a, b] [] [])) (ha : (ρ.e a).fe = fpow x K) (hb : (ρ.e b).fe = fpow x L) (hM : K + L = M) : (ρ.e k).fe = fpow x M := by
  have h1 : ρ.e k = mulE (ρ.e a) (ρ.e b) := h
  rw [h1, mulE_fe, ha, hb, ← fpow_add, hM]
theorem p_sq {k a K M : Nat} {x : F} (h : Ent.def ρ (.de k .sq [a] [] [])) (ha : (ρ.e a).fe = fpow x K) (hM : K + K = M) : (ρ.e k).fe = fpow x M := by
  have h1 : ρ.e k = sqE (ρ.e a) := h
  rw [h1, sqE_fe, ha, ← fpow_add, hM]
theorem p_sqN {k a K n M : Nat} {x : F} (h : Ent.def ρ (.de k .sqN [a] [.c (n : Nat)] [])) (ha : (ρ.e a).fe = fpow x K) (hM : K * 2 ^ n = M) : (ρ.e k).fe = fpow x M := by
  rw [f_sqN h ha, ← fpow_mul]
  show fpow x (K * 2 ^ ((n : Int)).toNat) = _
  rw [Int.toNat_natCast, hM]
end
/-- A run without memory, as a law's call. -/
theorem law_run {l : List (Nat × Rule)} (ht : TabOk l) {d : Nat} {f : FuncId} {n i : Nat} {orc : List Bool} {ps : List NP} {b : Sb} {ms' : Ms} (h : runOk (body l d f) (msP n i orc) (argsN ps 0 0) (.bool b) ms') {ns : List Nat} {xs : List Int} {vs : List Value} (hf : NFits ps ns xs vs)
    (math : ∀ ρ : Env, Agree ⟨i, 0, 0, n⟩ (envN ns xs) ρ → Defs ρ ms'.tr → Asms ρ ms'.tr ∧ b.val ρ = true) (W : World) : Invokes Tryd.prog f vs.toArray W fun r w' => r = .bool true ∧ Fr (fun _ _ => False) W w' :=
  num_of_run (body_ok ht d f) h hf (fun ρ ha hd => ⟨(math ρ ha hd).1, fun α v hv => by simp only [VRel] at hv; rw [hv, (math ρ ha hd).2]⟩) W
end Go.Proofs.YtolmkbojlpplfaaDoor
