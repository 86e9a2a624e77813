/- What the laws of signs and roots share: parities, the reference's minus and power, as the field's. No condition. -/
import Derived.Test.YtklgdgeeillpaaaDoorLaw2
import Derived.Test.YtklgdgeeillpaaaDoorRoot
namespace Go.Proofs.YtklgdgeeillpaaaDoor
open Go Go.RowKit
set_option linter.unusedVariables false
set_option linter.unusedSimpArgs false

theorem minus_val (x y : F) : minusN x.val y.val pP = (x - y).val := by
  have hx := x.isLt
  have hy := y.isLt
  have hs : (x - y).val = (P - y.val + x.val) % P := Fin.sub_def .. ▸ rfl
  rw [hs]
  generalize x.val = a at *
  generalize y.val = b at *
  unfold P at *
  unfold minusN pP
  simp only [Nat.reducePow]
  split <;> omega
theorem pow_val (x : F) (E : Nat) : ∀ k (o : F), powF x.val E pP k o.val = (fpow o (2 ^ k) * fpow x (E % 2 ^ k)).val := by
  intro k
  induction k with
  | zero => intro o; rw [Nat.pow_zero, Nat.mod_one, fpow_one]; show o.val = (o * fpow x 0).val; rw [show fpow x 0 = 1 from rfl, show o * 1 = o by grind]
  | succ k ih =>
    intro o
    have hb := Nat.mod_two_eq_zero_or_one (E / 2 ^ k)
    have hm : E % 2 ^ (k + 1) = E % 2 ^ k + 2 ^ k * (E / 2 ^ k % 2) := by rw [Nat.pow_succ, Nat.mod_mul]
    have hp : fpow (o * o) (2 ^ k) = fpow o (2 ^ (k + 1)) := by rw [← fpow_two, ← fpow_mul, Nat.pow_succ']
    simp only [powF, times_val, Nat.testBit_eq_decide_div_mod_eq, decide_eq_true_eq]
    rcases hb with h | h
    · rw [if_neg (by omega), ih, hp, hm, h]; rfl
    · rw [if_pos h, ih, fpow_mul_base, hp, hm, h, Nat.mul_one, fpow_add]
      congr 1
      generalize fpow o (2 ^ (k + 1)) = A
      generalize fpow x (2 ^ k) = B
      generalize fpow x (E % 2 ^ k) = C
      grind
theorem power_val (x : F) {E : Nat} (h : E < 2 ^ 256) : powerN x.val E pP = (fpow x E).val := by
  have := pow_val x E 256 1
  unfold powerN
  rw [one_val] at this
  rw [this, fpow_one_base, Nat.mod_eq_of_lt h]
  congr 1
  generalize fpow x E = z
  grind
theorem zsub (x : F) : 0 - x = -x := by grind
theorem absF_odd {x : F} (h : x.val % 2 = 1) : absF x = -x := by unfold absF; rw [if_pos h]
theorem absF_ne {x : F} (h : x.val % 2 = 1) : absF x ≠ x := by
  intro e
  have := absF_even x
  rw [e] at this
  omega
theorem addz (x : F) : x + 0 = x := by grind
section
variable {ρ : Env}
theorem v_minus {k a b m : Nat} {x y : F} (h : Ent.def ρ (.dn k .minus [] [] [a, b, m])) (ha : ρ.n a = x.val) (hb : ρ.n b = y.val) (hm : ρ.n m % W4 = pP) : ρ.n k = (x - y).val := by
  have h1 : ρ.n k = minusN (ρ.n a % W4) (ρ.n b % W4) (ρ.n m % W4) := h
  rw [h1, ha, hb, hm, val_W4, val_W4, minus_val]
theorem v_power {k a e m E : Nat} {x : F} (h : Ent.def ρ (.dn k .power [] [] [a, e, m])) (ha : ρ.n a = x.val) (he : ρ.n e % W4 = E) (hm : ρ.n m % W4 = pP) : ρ.n k = (fpow x E).val := by
  have h1 : ρ.n k = powerN (ρ.n a % W4) (ρ.n e % W4) (ρ.n m % W4) := h
  rw [h1, ha, hm, val_W4, he, power_val]
  rw [← he]; exact Nat.mod_lt _ (by decide)
theorem and_one (a : Nat) : a &&& 1 = a % 2 := by
  exact Nat.and_two_pow_sub_one_eq_mod a 1
/-- The lowest bit of an element's first byte. -/
theorem par_o {k i n : Nat} {x : F} (h1 : Ent.def ρ (.di i (.and .u8) [.o n 0, .c 1])) (h2 : Ent.def ρ (.di k (.conv .i64) [.x i])) (hv : ρ.n n = x.val) : ρ.i k = ((x.val % 2 : Nat) : Int) := by
  have e1 : ρ.i i = wr .u8 ((ub .u8 ((octet (ρ.n n) 0 : Nat) : Int) &&& ub .u8 1 : Nat) : Int) := h1
  have e2 : ρ.i k = wr .i64 (ρ.i i) := h2
  rw [hv] at e1
  rw [show ub .u8 1 = 1 by decide, and_one] at e1
  have e3 : ub .u8 ((octet x.val 0 : Nat) : Int) = x.val % 256 := by
    simp only [ub, octet, Nat.pow_zero, Nat.div_one]; omega
  rw [e3] at e1
  rw [e2, e1]
  simp only [wr]; omega
theorem neg_w {b i j n : Nat} {x : F} (h1 : Ent.def ρ (.di i (.shr .u64) [.w n 0, .c 0])) (h2 : Ent.def ρ (.di j (.and .u64) [.x i, .c 1])) (h3 : Ent.def ρ (.db b .eql [.x j, .c 1] [] [])) (hv : ρ.n n = x.val) : ρ.b b = decide (x.val % 2 = 1) := by
  have e1 : ρ.i i = ((word (ρ.n n) 0 : Nat) : Int) / 2 ^ min (0 : Int).toNat (nbits .u64) := h1
  have e2 : ρ.i j = wr .u64 ((ub .u64 (ρ.i i) &&& ub .u64 1 : Nat) : Int) := h2
  have e3 : ρ.b b = (ρ.i j == 1) := h3
  rw [hv] at e1
  have e4 : ρ.i i = ((word x.val 0 : Nat) : Int) := by rw [e1]; simp
  have e5 : ub .u64 (ρ.i i) = word x.val 0 := by
    rw [e4]
    have := word_lt x.val 0
    simp only [ub]; omega
  rw [e5, show ub .u64 1 = 1 by decide, and_one] at e2
  have e6 : word x.val 0 % 2 = x.val % 2 := by simp only [word, Nat.pow_zero, Nat.div_one]; omega
  rw [e6] at e2
  have e7 : ρ.i j = ((x.val % 2 : Nat) : Int) := by rw [e2]; simp only [wr]; omega
  rw [e3, e7]
  by_cases h : x.val % 2 = 1
  · rw [h]; rfl
  · rw [decide_eq_false h]; exact beq_eq_false_iff_ne.2 (by omega)
theorem f_abs {k a b i : Nat} {x : F} (h : Ent.def ρ (.de k .sel [a, b] [.x i] [])) (hi : ρ.i i = ((x.val % 2 : Nat) : Int)) (ha : (ρ.e a).fe = -x) (hb : (ρ.e b).fe = x) : (ρ.e k).fe = absF x := by
  have h1 := f_sel h
  rw [show Sx.val ρ (.x i) = ρ.i i from rfl, hi] at h1
  unfold absF
  by_cases hx : x.val % 2 = 1
  · rw [if_pos hx]; rw [if_pos (by omega)] at h1; rw [h1, ha]
  · rw [if_neg hx]; rw [if_neg (by omega)] at h1; rw [h1, hb]
theorem b_wz {k a : Nat} {x : F} (h : Ent.def ρ (.db k .eqs (wrdX a 0 4 ++ [Sx.c 0, Sx.c 0, Sx.c 0, Sx.c 0]) [] [])) (ha : ρ.n a = x.val) : ρ.b k = decide (x = 0) := by
  have h1 : ρ.b k = Fb.sem .eqs ((wrdX a 0 4 ++ [Sx.c 0, Sx.c 0, Sx.c 0, Sx.c 0]).map (Sx.val ρ)) [] [] := h
  rw [List.map_append, wrdX_val, show ([Sx.c 0, Sx.c 0, Sx.c 0, Sx.c 0] : List Sx).map (Sx.val ρ) = wrds 0 0 4 by simp [Sx.val, wrds, word], eqs_sem (by rw [wrds_length, wrds_length])] at h1
  rw [h1, ha, decide_eq_decide, wrds_inj (val_lt4 x) (by decide)]
  exact ⟨fun h => Fin.ext h, fun h => by rw [h]; rfl⟩
end
end Go.Proofs.YtklgdgeeillpaaaDoor
