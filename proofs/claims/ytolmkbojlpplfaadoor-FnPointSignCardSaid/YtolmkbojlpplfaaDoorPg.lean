/- Facts for the laws of the generator, of equality and of the sign of points. No condition. -/
import Derived.Test.YtolmkbojlpplfaaDoorPf
namespace Go.Proofs.YtolmkbojlpplfaaDoor
open Go Go.RowKit
set_option linter.unusedVariables false
set_option linter.unusedSimpArgs false
set_option maxRecDepth 100000

/-! ### a flipped sign -/
theorem ofB_snoc {n : Nat} {x : Int} : ∀ (k i : Nat), ofB (octs n i k ++ [x]) = n / 256 ^ i % 256 ^ k + 256 ^ k * x.toNat
  | 0, i => by simp [octs, ofB, Nat.mod_one]
  | k + 1, i => by
    have h := ofB_octs (n := n) (k + 1) i
    simp only [octs, ofB, ofB_octs k (i + 1), Int.toNat_natCast] at h
    simp only [octs, List.cons_append, ofB, ofB_snoc k (i + 1), Int.toNat_natCast]
    rw [Nat.mul_add, ← Nat.add_assoc, h, Nat.pow_succ', Nat.mul_assoc]
theorem xor_top : ∀ b : Fin 256, b.val ^^^ 128 = if b.val < 128 then b.val + 128 else b.val - 128 := by decide +kernel
theorem flip_v {n m t : Nat} (ht : t = octet n 31 ^^^ 128) (hm : m = n / 256 ^ 0 % 256 ^ 31 + 256 ^ 31 * t) : inF m = inF n ∧ bitN m = !bitN n := by
  have h1 := xor_top ⟨octet n 31, octet_lt n 31⟩
  simp only at h1
  rw [← ht] at h1
  unfold octet at h1
  simp only [Nat.reducePow, Nat.div_one] at h1 hm
  have key : m % 57896044618658097711785492504343953926634992332820282019728792003956564819968 = n % 57896044618658097711785492504343953926634992332820282019728792003956564819968 ∧ (m / 57896044618658097711785492504343953926634992332820282019728792003956564819968 % 2 = 1 ↔ ¬ n / 57896044618658097711785492504343953926634992332820282019728792003956564819968 % 2 = 1) := by
    split at h1 <;> omega
  constructor
  · unfold inF
    congr 1
    omega
  · unfold bitN
    rw [Nat.testBit_eq_decide_div_mod_eq, Nat.testBit_eq_decide_div_mod_eq]
    simp only [Nat.reducePow]
    rw [decide_eq_decide.2 key.2, decide_not]
theorem flip_e {ρ : Env} {k i m : Nat} (h : Ent.def ρ (.dn k .of [] (octX m 0 31 ++ [Sx.x i]) [])) (hi : ρ.i i = wr .u8 ((ub .u8 ((octet (ρ.n m) 31 : Nat) : Int) ^^^ ub .u8 128 : Nat) : Int)) : inF (ρ.n k) = inF (ρ.n m) ∧ bitN (ρ.n k) = !bitN (ρ.n m) := by
  have h1 : ρ.n k = ofB ((octX m 0 31 ++ [Sx.x i]).map (Sx.val ρ)) := h
  rw [List.map_append, octX_val, show [Sx.x i].map (Sx.val ρ) = [ρ.i i] from rfl, ofB_snoc] at h1
  refine flip_v (t := (ρ.i i).toNat) ?_ h1
  have hb := octet_lt (ρ.n m) 31
  have hx := xor_top ⟨octet (ρ.n m) 31, hb⟩
  simp only at hx
  rw [hi, show ub .u8 ((octet (ρ.n m) 31 : Nat) : Int) = octet (ρ.n m) 31 by simp only [ub]; omega, show ub .u8 128 = 128 by decide]
  generalize octet (ρ.n m) 31 = b at *
  rw [hx]
  simp only [wr]
  split <;> omega
theorem neg_x (p : Pt) : p.neg.x = -p.x := rfl
theorem neg_y (p : Pt) : p.neg.y = p.y := rfl
theorem flip_dec {n m : Nat} (h1 : inF m = inF n) (h2 : bitN m = !bitN n) (hp : ptB n = true) : ptB m = true ∧ decP m = (decP n).neg := by
  have hon := decX_on hp
  have hm : ptB m = true := ptB_iff.2 ⟨decX n, by rw [h1]; exact hon⟩
  have e1 := decX_eq (n := m) (x := decX n) (by rw [h1]; exact hon)
  have e2 := decX_eq hon
  refine ⟨hm, Pt.ext' ?_ ?_⟩
  · rw [decP_x hm, neg_x, decP_x hp, e1, h2]
    cases hb : bitN n with
    | true =>
      rw [hb] at e2
      simp only [if_true] at e2
      simp only [Bool.not_true, if_false, Bool.false_eq_true]
      generalize decX n = x at *
      generalize absF x = a at *
      rw [e2]; grind
    | false =>
      rw [hb] at e2
      simp only [if_false, Bool.false_eq_true] at e2
      simp only [Bool.not_false, if_true]
      rw [← e2]
  · rw [decP_y hm, neg_y, decP_y hp, h1]
theorem flip_no {n m : Nat} (h1 : inF m = inF n) (hp : ptB n = false) : ptB m = false := by
  cases h : ptB m with
  | false => rfl
  | true =>
    obtain ⟨x, hx⟩ := ptB_iff.1 h
    rw [h1] at hx
    rw [ptB_iff.2 ⟨x, hx⟩] at hp
    exact hp

/-! ### the generator's y -/
theorem gen_45 : ((4 : F) * fpow (5 : F) 57896044618658097711785492504343953926634992332820282019728792003956564819947).val = encF genP.x genP.y := by
  rw [show fpow (5 : F) 57896044618658097711785492504343953926634992332820282019728792003956564819947 = ⟨11579208923731619542357098500868790785326998466564056403945758400791312963990, by decide⟩ from fpow_const (by decide) (by decide +kernel)]
  decide +kernel

/-! ### equality -/
theorem eq_i {ρ : Env} {i j k : Nat} {x y z x' y' z' : F} {p q : Pt} (h : Co x y z p) (h' : Co x' y' z' q) (e0 : ρ.i i = if x' * z = x * z' then 1 else 0) (e1 : ρ.i j = if y' * z = y * z' then 1 else 0) (e2 : ρ.i k = wr .i64 ((ub .i64 (ρ.i i) &&& ub .i64 (ρ.i j) : Nat) : Int)) :
    (p = q → ρ.i k = 1) ∧ (p ≠ q → ρ.i k = 0) := by
  have hq := pt_eq_frac (p := p) (q := q) h.1 h'.1 h.2.1.symm h.2.2.symm h'.2.1.symm h'.2.2.symm
  constructor
  · intro e
    obtain ⟨a, b⟩ := hq.2 e
    rw [if_pos a.symm] at e0
    rw [if_pos b.symm] at e1
    rw [e2, e0, e1]; decide
  · intro e
    by_cases a : x' * z = x * z'
    · rw [if_pos a] at e0
      rw [if_neg (fun b => e (hq.1 ⟨a.symm, b.symm⟩))] at e1
      rw [e2, e0, e1]; decide
    · rw [if_neg a] at e0
      by_cases b : y' * z = y * z'
      · rw [if_pos b] at e1
        rw [e2, e0, e1]; decide
      · rw [if_neg b] at e1
        rw [e2, e0, e1]; decide
open Classical in
theorem eq_b1 {ρ : Env} {j k : Nat} {p q : Pt} (h : (p = q → ρ.i k = 1) ∧ (p ≠ q → ρ.i k = 0)) (g : Ent.def ρ (.db j .eql [Sx.x k, Sx.c 1] [] [])) : ρ.b j = decide (p = q) := by
  have e : ρ.b j = (ρ.i k == 1) := g
  by_cases hq : p = q
  · rw [e, h.1 hq, decide_eq_true hq]; rfl
  · rw [e, h.2 hq, decide_eq_false hq]; rfl
open Classical in
theorem eq_b0 {ρ : Env} {j k : Nat} {p q : Pt} (h : (p = q → ρ.i k = 1) ∧ (p ≠ q → ρ.i k = 0)) (g : Ent.def ρ (.db j .eql [Sx.x k, Sx.c 0] [] [])) : ρ.b j = !decide (p = q) := by
  have e : ρ.b j = (ρ.i k == 0) := g
  by_cases hq : p = q
  · rw [e, h.1 hq, decide_eq_true hq]; rfl
  · rw [e, h.2 hq, decide_eq_false hq]; rfl
theorem beq_t {ρ : Env} {j a b : Nat} {d : Bool} (g : Ent.def ρ (.db j .beq [] [] [Sb.x a, Sb.x b])) (ha : ρ.b a = d) (hb : ρ.b b = d) : ρ.b j = true := by
  have e : ρ.b j = (ρ.b a == ρ.b b) := g
  rw [e, ha, hb]; cases d <;> rfl
theorem neqs_sem {A B : List Int} (h : A.length = B.length) : Fb.sem .neqs (A ++ B) [] [] = !decide (A = B) := by
  show (!decide ((A ++ B).take ((A ++ B).length / 2) = (A ++ B).drop ((A ++ B).length / 2))) = _
  rw [show (A ++ B).length / 2 = A.length by rw [List.length_append]; omega, List.take_left, List.drop_left]
theorem neqs_oo {ρ : Env} {k a b : Nat} (h : Ent.def ρ (.db k .neqs (octX a 0 32 ++ octX b 0 32) [] [])) : ρ.b k = !decide (octs (ρ.n a) 0 32 = octs (ρ.n b) 0 32) := by
  have h1 : ρ.b k = Fb.sem .neqs ((octX a 0 32 ++ octX b 0 32).map (Sx.val ρ)) [] [] := h
  rw [List.map_append, octX_val, octX_val, neqs_sem (by rw [octs_length, octs_length])] at h1
  exact h1
open Classical in
theorem b_ne {ρ : Env} {k a b : Nat} {p q : Pt} (h : Ent.def ρ (.db k .neqs (octX a 0 32 ++ octX b 0 32) [] [])) (ha : ρ.n a = encF p.x p.y) (hb : ρ.n b = encF q.x q.y) : ρ.b k = !decide (p = q) := by
  rw [neqs_oo h, ha, hb]
  congr 1
  rw [decide_eq_decide, octs_inj (encF_256 _ _) (encF_256 _ _)]
  exact enc_inj
theorem pt_same {p q : Pt} (hx : p.x = q.x) (hy : p.y = q.y) : p = q := Pt.ext' hx hy
end Go.Proofs.YtolmkbojlpplfaaDoor
