/- Plain numbers: square roots modulo 2^255 - 19. No condition. -/
import Derived.Test.YtolmkbojlpplfaaDoorField
import Derived.Test.YtolmkbojlpplfaaDoorLaw2
namespace Go.Proofs.YtolmkbojlpplfaaDoor
set_option linter.unusedVariables false
set_option exponentiation.threshold 600

/-! ### the one of x and -x that is even -/
def absF (x : F) : F := if x.val % 2 = 1 then -x else x
theorem neg_val {x : F} (h : x ≠ 0) : (-x).val = P - x.val := by
  have hx := x.isLt
  have h0 : x.val ≠ 0 := fun e => h (Fin.ext e)
  rw [Fin.val_neg', Nat.mod_eq_of_lt (by omega)]
theorem P_odd : P % 2 = 1 := by decide
theorem neg_zeroF : (-0 : F) = 0 := by grind
theorem neg_negF (x : F) : - -x = x := by grind
theorem absF_neg (x : F) : absF (-x) = absF x := by
  unfold absF
  by_cases h : x = 0
  · simp only [h, neg_zeroF]
  · have hx := x.isLt
    have hp := P_odd
    rw [neg_val h, neg_negF]
    by_cases h1 : x.val % 2 = 1
    · rw [if_pos h1, if_neg (by omega)]
    · rw [if_neg h1, if_pos (by omega)]
theorem absF_or (x : F) : absF x = x ∨ absF x = -x := by
  unfold absF; split
  · exact .inr rfl
  · exact .inl rfl
theorem absF_even (x : F) : (absF x).val % 2 = 0 := by
  unfold absF
  have hx := x.isLt
  have hp := P_odd
  by_cases h1 : x.val % 2 = 1
  · rw [if_pos h1, neg_val (fun e => by rw [e] at h1; exact absurd h1 (by decide))]; omega
  · rw [if_neg h1]; omega
theorem absF_of_even {x : F} (h : x.val % 2 = 0) : absF x = x := by unfold absF; rw [if_neg (by omega)]
theorem absF_zero : absF 0 = 0 := absF_of_even (by decide)
theorem sq_eq {x y : F} (h : x * x = y * y) : x = y ∨ x = -y := by
  have h1 : (x - y) * (x + y) = 0 := by grind
  rcases mul_eq_zero' h1 with h2 | h2
  · left; grind
  · right; grind
theorem absF_sq {x y : F} (h : x * x = y * y) : absF x = absF y := by
  rcases sq_eq h with rfl | rfl
  · rfl
  · exact absF_neg y

/-! ### powers that are constants -/
theorem fpow_const {a x : F} {e : Nat} (he : e < 2 ^ 256) (h : pmod P 256 a.val e = x.val) : fpow a e = x :=
  Fin.ext (by rw [fpow_val, pw 256 he h])
/-- The square root of -1. -/
def iC : F := ⟨19681161376707505956807079304988542015446066515923890162744021073123829784752, by decide⟩
def E1 : Nat := 7237005577332262213973186563042994240829374041602535252466099000494570602494
def E2 : Nat := 14474011154664524427946373126085988481658748083205070504932198000989141204987
def E3 : Nat := 7237005577332262213973186563042994240829374041602535252466099000494570602493
theorem iC_sq : iC * iC = -1 := by decide +kernel
theorem two_E2 : fpow 2 E2 = iC := fpow_const (by decide) (by decide +kernel)
theorem iC_E2 : fpow iC E2 = -iC := fpow_const (by decide) (by decide +kernel)
theorem one_ne_neg : (1 : F) ≠ -1 := by decide +kernel
theorem two_ne_zero' : (2 : F) ≠ 0 := by decide +kernel
/-- The first root that is tried. -/
theorem r0_sq (a : F) : fpow a E1 * fpow a E1 = a * fpow a E2 := by
  rw [← fpow_add, show E1 + E1 = E2 + 1 by decide]; simp only [fpow]; grind
theorem hlp1 {r w a i : F} (h : r * r = a * w) (hi : i * i = -1) : r * i * (r * i) = -(a * w) := by grind
theorem hlp2 {w a : F} (e : -(a * w) = a) : a * -w = a := by grind
theorem hlp3 {w : F} (h : w * w = -1) : -w * -w = -1 := by grind
theorem hlp4 {w a : F} (e : -(a * -w) = a) : a * w = a := by grind
theorem r1_sq (a : F) : fpow a E1 * fpow 2 E2 * (fpow a E1 * fpow 2 E2) = -(a * fpow a E2) := by
  rw [two_E2]
  exact hlp1 (r0_sq a) iC_sq
theorem w_four {a : F} (h : a ≠ 0) : fpow a E2 = 1 ∨ fpow a E2 = -1 ∨ fpow a E2 = iC ∨ fpow a E2 = -iC := by
  have h4 : fpow (fpow a E2) 4 = 1 := by rw [← fpow_mul, show E2 * 4 = P - 1 by decide]; exact fermatF h
  have h4' : fpow a E2 * fpow a E2 * (fpow a E2 * fpow a E2) = 1 := by
    rw [← h4]; simp only [fpow]; grind
  generalize fpow a E2 = w at *
  have h1 : (w * w - 1) * (w * w + 1) = 0 := by grind
  rcases mul_eq_zero' h1 with h2 | h2
  · have h3 : (w - 1) * (w + 1) = 0 := by grind
    rcases mul_eq_zero' h3 with h5 | h5
    · left; grind
    · right; left; grind
  · have hi := iC_sq
    have h3 : (w - iC) * (w + iC) = 0 := by grind
    rcases mul_eq_zero' h3 with h5 | h5
    · right; right; left; grind
    · right; right; right; grind
theorem w_i (a : F) : fpow (iC * a) E2 = -iC * fpow a E2 := by rw [fpow_mul_base, iC_E2]

/-! ### the root of a ratio -/
/-- What the reference finds: the root of a, if a^E2 is 1 or -1. -/
theorem root_one {a r : F} (h : fpow a E2 = 1) (hr : r * r = a) : fpow a E1 * fpow a E1 = a ∧ absF (fpow a E1) = absF r := by
  have h1 := r0_sq a
  rw [h] at h1
  have h2 : fpow a E1 * fpow a E1 = a := by rw [h1]; grind
  exact ⟨h2, absF_sq (h2.trans hr.symm)⟩
theorem root_neg {a r : F} (ha : a ≠ 0) (h : fpow a E2 = -1) (hr : r * r = a) :
    fpow a E1 * fpow a E1 ≠ a ∧ fpow a E1 * fpow 2 E2 * (fpow a E1 * fpow 2 E2) = a ∧ absF (fpow a E1 * fpow 2 E2) = absF r := by
  have h1 := r0_sq a
  have h3 := r1_sq a
  rw [h] at h1 h3
  have h2 : fpow a E1 * fpow 2 E2 * (fpow a E1 * fpow 2 E2) = a := by rw [h3]; grind
  refine ⟨fun e => ?_, h2, absF_sq (h2.trans hr.symm)⟩
  rw [h1] at e
  have : 2 * a = 0 := by grind
  rcases mul_eq_zero' this with h5 | h5
  · exact two_ne_zero' h5
  · exact ha h5
theorem root_none {a : F} (ha : a ≠ 0) (h : fpow a E2 = iC ∨ fpow a E2 = -iC) :
    fpow a E1 * fpow a E1 ≠ a ∧ fpow a E1 * fpow 2 E2 * (fpow a E1 * fpow 2 E2) ≠ a := by
  have h1 := r0_sq a
  have h3 := r1_sq a
  have hi := iC_sq
  have key : ∀ w : F, w * w = -1 → a * w ≠ a := by
    intro w hw e
    have h5 : w = 1 := mul_cancel' ha (e.trans (by grind))
    rw [h5] at hw
    exact one_ne_neg (by grind)
  constructor
  · rw [h1]
    rcases h with h | h <;> rw [h]
    · exact key _ hi
    · exact key _ (hlp3 hi)
  · rw [h3]
    rcases h with h | h <;> rw [h]
    · intro e; exact key (-iC) (hlp3 hi) (hlp2 e)
    · intro e; exact key iC hi (hlp4 e)
/-- What the code reckons. -/
def rrF (u v : F) : F := u * (v * v * v) * fpow (u * (v * v * v) * (v * v * (v * v))) E3
theorem check_eq (u v : F) : v * (rrF u v * rrF u v) = u * fpow (u * (v * v * v) * (v * v * (v * v))) E2 := by
  unfold rrF
  have h : fpow (u * (v * v * v) * (v * v * (v * v))) E2 = fpow (u * (v * v * v) * (v * v * (v * v))) E3 * fpow (u * (v * v * v) * (v * v * (v * v))) E3 * (u * (v * v * v) * (v * v * (v * v))) := by
    rw [← fpow_add, show E2 = E3 + E3 + 1 by decide]; simp only [fpow]
  rw [h]
  generalize fpow (u * (v * v * v) * (v * v * (v * v))) E3 = z
  grind
theorem w_ratio {u v : F} (hv : v ≠ 0) : fpow (u * (v * v * v) * (v * v * (v * v))) E2 = fpow (u * finv v) E2 := by
  have h1 : u * (v * v * v) * (v * v * (v * v)) = u * finv v * fpow v 8 := by
    have := mul_finv hv
    simp only [fpow]; grind
  have h2 : fpow (fpow v 8) E2 = 1 := by
    rw [← fpow_mul, show 8 * E2 = (P - 1) * 2 by decide, fpow_mul, fermatF hv, fpow_one_base]
  rw [h1, fpow_mul_base, h2]; grind
theorem rr_sq {u v : F} (hv : v ≠ 0) : rrF u v * rrF u v = u * finv v * fpow (u * finv v) E2 := by
  have h := check_eq u v
  rw [w_ratio hv] at h
  have := mul_finv hv
  apply mul_cancel' hv
  rw [h]; grind
theorem ratio_ne {u v : F} (hu : u ≠ 0) (hv : v ≠ 0) : u * finv v ≠ 0 := by
  intro e
  rcases mul_eq_zero' e with h | h
  · exact hu h
  · exact finv_ne_zero hv h
theorem rrF_zero {u v : F} (h : u = 0 ∨ v = 0) : rrF u v = 0 := by
  unfold rrF
  rcases h with rfl | rfl <;> grind
/-- The four ways, of u and v that are not 0. -/
theorem ratio_ways {u v : F} (hu : u ≠ 0) (hv : v ≠ 0) :
    (fpow (u * finv v) E2 = 1 ∧ v * (rrF u v * rrF u v) = u ∧ rrF u v * rrF u v = u * finv v) ∨
    (fpow (u * finv v) E2 = -1 ∧ v * (rrF u v * rrF u v) = -u ∧ iC * rrF u v * (iC * rrF u v) = u * finv v) ∨
    (fpow (u * finv v) E2 = iC ∧ v * (rrF u v * rrF u v) = u * iC ∧ rrF u v * rrF u v = iC * (u * finv v)) ∨
    (fpow (u * finv v) E2 = -iC ∧ v * (rrF u v * rrF u v) = -u * iC ∧ iC * rrF u v * (iC * rrF u v) = iC * (u * finv v)) := by
  have h1 := check_eq u v
  rw [w_ratio hv] at h1
  have h2 := rr_sq (u := u) hv
  have hi := iC_sq
  rcases w_four (ratio_ne hu hv) with h | h | h | h
  · left; rw [h] at h1 h2; exact ⟨h, by rw [h1]; grind, by rw [h2]; grind⟩
  · right; left; rw [h] at h1 h2; exact ⟨h, by rw [h1]; grind, by grind⟩
  · right; right; left; rw [h] at h1 h2; exact ⟨h, by rw [h1], by rw [h2]; grind⟩
  · right; right; right; rw [h] at h1 h2; exact ⟨h, by rw [h1]; grind, by grind⟩
theorem mul_ne {u c d : F} (hu : u ≠ 0) (hc : c ≠ d) : u * c ≠ u * d := fun e => hc (mul_cancel' hu e)
theorem hg1 {u : F} (e : -u = u) : u * -1 = u * 1 := by grind
theorem hg2 {u c : F} (e : -u * c = u) : u * -c = u * 1 := by grind
theorem hg3 {u c : F} (e : -u * c = -u) : u * c = u * 1 := by grind
theorem hg4 {u c : F} (e : u * c = u) : u * c = u * 1 := by grind
theorem hg5 {u c : F} (e : u * c = -u) : u * c = u * -1 := by grind
theorem hg6 {u c : F} (e : -u * c = u * c) : u * -c = u * c := by grind
theorem i_ne_one : iC ≠ 1 := by decide +kernel
theorem i_ne_neg_one : iC ≠ -1 := by decide +kernel
theorem ni_ne_one : -iC ≠ 1 := by decide +kernel
theorem ni_ne_i : -iC ≠ iC := by decide +kernel
/-- No two of u, -u, u * i, -u * i are one. -/
theorem ne1 {u : F} (h : u ≠ 0) : -u ≠ u := fun e => mul_ne h one_ne_neg.symm (hg1 e)
theorem ne2 {u : F} (h : u ≠ 0) : -u * iC ≠ u := fun e => mul_ne h ni_ne_one (hg2 e)
theorem ne3 {u : F} (h : u ≠ 0) : -u * iC ≠ -u := fun e => mul_ne h i_ne_one (hg3 e)
theorem ne4 {u : F} (h : u ≠ 0) : u * iC ≠ u := fun e => mul_ne h i_ne_one (hg4 e)
theorem ne5 {u : F} (h : u ≠ 0) : u * iC ≠ -u := fun e => mul_ne h i_ne_neg_one (hg5 e)
theorem ne6 {u : F} (h : u ≠ 0) : -u * iC ≠ u * iC := fun e => mul_ne h ni_ne_i (hg6 e)
theorem neg_one_E1 : fpow (0 - 1) E1 = 1 := fpow_const (by decide) (by decide +kernel)
theorem neg_one_ne : (1 : F) * 1 ≠ 0 - 1 := by decide +kernel
theorem imag_eq : fpow (0 - 1) E1 * fpow 2 E2 = iC := by rw [neg_one_E1, two_E2]; decide +kernel
theorem iC_sq' : iC * iC = 0 - 1 := by decide +kernel
theorem iC_even : ¬ iC.val % 2 = 1 := by decide +kernel
theorem ri_sq (r c : F) : r * c * (r * c) = c * r * (c * r) := by grind
theorem negz {u : F} (h : -u = 0) : u = 0 := by grind
theorem iC_ne_zero : iC ≠ 0 := by decide +kernel
theorem negi {u : F} (h : -u * iC = 0) : u = 0 := by
  rcases mul_eq_zero' h with h1 | h1
  · exact negz h1
  · exact absurd h1 iC_ne_zero
theorem fin_even {x y : F} (h : absF x = absF y) (hp : ¬ x.val % 2 = 1) : absF y = x := by rw [← h]; exact absF_of_even (by omega)
theorem fin_odd {x y : F} (h : absF x = absF y) (hp : x.val % 2 = 1) : absF y = 0 - x := by
  rw [← h]; unfold absF; rw [if_pos hp]; grind
theorem finv_lit (x : F) : fpow x 57896044618658097711785492504343953926634992332820282019728792003956564819947 = finv x := by
  unfold finv; rw [show P - 2 = 57896044618658097711785492504343953926634992332820282019728792003956564819947 by decide]
theorem w_three {a : F} (h : fpow a E2 = iC) : fpow (iC * a) E2 = 1 := by rw [w_i, h]; decide +kernel
theorem w_fourth {a : F} (h : fpow a E2 = -iC) : fpow (iC * a) E2 = -1 := by rw [w_i, h]; decide +kernel
theorem ia_ne {a : F} (h : a ≠ 0) : iC * a ≠ 0 := fun e => by
  rcases mul_eq_zero' e with h1 | h1
  · exact iC_ne_zero h1
  · exact h h1
theorem check_zero {u v : F} (h : u = 0 ∨ v = 0) : v * (rrF u v * rrF u v) = 0 := by rw [rrF_zero h]; grind
end Go.Proofs.YtolmkbojlpplfaaDoor

/- What the laws of signs and roots share: parities, the reference's minus and power, as the field's. No condition. -/
namespace Go.Proofs.YtolmkbojlpplfaaDoor
open Go Go.RowKit
set_option linter.unusedVariables false
set_option linter.unusedSimpArgs false

theorem minus_val (x y : F) : minusN x.val y.val pP = (x - y).val := by
  have hx := x.isLt
  have hy := y.isLt
  have hs : (x - y).val = (P - y.val + x.val) % P := Fin.sub_def .. ▸ rfl
  rw [hs]
  generalize x.val = a at *
  generalize y.val = b at *
  unfold P at *
  unfold minusN pP
  simp only [Nat.reducePow]
  split <;> omega
theorem pow_val (x : F) (E : Nat) : ∀ k (o : F), powF x.val E pP k o.val = (fpow o (2 ^ k) * fpow x (E % 2 ^ k)).val := by
  intro k
  induction k with
  | zero => intro o; rw [Nat.pow_zero, Nat.mod_one, fpow_one]; show o.val = (o * fpow x 0).val; rw [show fpow x 0 = 1 from rfl, show o * 1 = o by grind]
  | succ k ih =>
    intro o
    have hb := Nat.mod_two_eq_zero_or_one (E / 2 ^ k)
    have hm : E % 2 ^ (k + 1) = E % 2 ^ k + 2 ^ k * (E / 2 ^ k % 2) := by rw [Nat.pow_succ, Nat.mod_mul]
    have hp : fpow (o * o) (2 ^ k) = fpow o (2 ^ (k + 1)) := by rw [← fpow_two, ← fpow_mul, Nat.pow_succ']
    simp only [powF, times_val, Nat.testBit_eq_decide_div_mod_eq, decide_eq_true_eq]
    rcases hb with h | h
    · rw [if_neg (by omega), ih, hp, hm, h]; rfl
    · rw [if_pos h, ih, fpow_mul_base, hp, hm, h, Nat.mul_one, fpow_add]
      congr 1
      generalize fpow o (2 ^ (k + 1)) = A
      generalize fpow x (2 ^ k) = B
      generalize fpow x (E % 2 ^ k) = C
      grind
theorem power_val (x : F) {E : Nat} (h : E < 2 ^ 256) : powerN x.val E pP = (fpow x E).val := by
  have := pow_val x E 256 1
  unfold powerN
  rw [one_val] at this
  rw [this, fpow_one_base, Nat.mod_eq_of_lt h]
  congr 1
  generalize fpow x E = z
  grind
theorem zsub (x : F) : 0 - x = -x := by grind
theorem absF_odd {x : F} (h : x.val % 2 = 1) : absF x = -x := by unfold absF; rw [if_pos h]
theorem absF_ne {x : F} (h : x.val % 2 = 1) : absF x ≠ x := by
  intro e
  have := absF_even x
  rw [e] at this
  omega
theorem addz (x : F) : x + 0 = x := by grind
section
variable {ρ : Env}
theorem v_minus {k a b m : Nat} {x y : F} (h : Ent.def ρ (.dn k .minus [] [] [a, b, m])) (ha : ρ.n a = x.val) (hb : ρ.n b = y.val) (hm : ρ.n m % W4 = pP) : ρ.n k = (x - y).val := by
  have h1 : ρ.n k = minusN (ρ.n a % W4) (ρ.n b % W4) (ρ.n m % W4) := h
  rw [h1, ha, hb, hm, val_W4, val_W4, minus_val]
theorem v_power {k a e m E : Nat} {x : F} (h : Ent.def ρ (.dn k .power [] [] [a, e, m])) (ha : ρ.n a = x.val) (he : ρ.n e % W4 = E) (hm : ρ.n m % W4 = pP) : ρ.n k = (fpow x E).val := by
  have h1 : ρ.n k = powerN (ρ.n a % W4) (ρ.n e % W4) (ρ.n m % W4) := h
  rw [h1, ha, hm, val_W4, he, power_val]
  rw [← he]; exact Nat.mod_lt _ (by decide)
theorem and_one (a : Nat) : a &&& 1 = a % 2 := by
  exact Nat.and_two_pow_sub_one_eq_mod a 1
/-- The lowest bit of an element's first byte. -/
theorem par_o {k i n : Nat} {x : F} (h1 : Ent.def ρ (.di i (.and .u8) [.o n 0, .c 1])) (h2 : Ent.def ρ (.di k (.conv .i64) [.x i])) (hv : ρ.n n = x.val) : ρ.i k = ((x.val % 2 : Nat) : Int) := by
  have e1 : ρ.i i = wr .u8 ((ub .u8 ((octet (ρ.n n) 0 : Nat) : Int) &&& ub .u8 1 : Nat) : Int) := h1
  have e2 : ρ.i k = wr .i64 (ρ.i i) := h2
  rw [hv] at e1
  rw [show ub .u8 1 = 1 by decide, and_one] at e1
  have e3 : ub .u8 ((octet x.val 0 : Nat) : Int) = x.val % 256 := by
    simp only [ub, octet, Nat.pow_zero, Nat.div_one]; omega
  rw [e3] at e1
  rw [e2, e1]
  simp only [wr]; omega
theorem neg_w {b i j n : Nat} {x : F} (h1 : Ent.def ρ (.di i (.shr .u64) [.w n 0, .c 0])) (h2 : Ent.def ρ (.di j (.and .u64) [.x i, .c 1])) (h3 : Ent.def ρ (.db b .eql [.x j, .c 1] [] [])) (hv : ρ.n n = x.val) : ρ.b b = decide (x.val % 2 = 1) := by
  have e1 : ρ.i i = ((word (ρ.n n) 0 : Nat) : Int) / 2 ^ min (0 : Int).toNat (nbits .u64) := h1
  have e2 : ρ.i j = wr .u64 ((ub .u64 (ρ.i i) &&& ub .u64 1 : Nat) : Int) := h2
  have e3 : ρ.b b = (ρ.i j == 1) := h3
  rw [hv] at e1
  have e4 : ρ.i i = ((word x.val 0 : Nat) : Int) := by rw [e1]; simp
  have e5 : ub .u64 (ρ.i i) = word x.val 0 := by
    rw [e4]
    have := word_lt x.val 0
    simp only [ub]; omega
  rw [e5, show ub .u64 1 = 1 by decide, and_one] at e2
  have e6 : word x.val 0 % 2 = x.val % 2 := by simp only [word, Nat.pow_zero, Nat.div_one]; omega
  rw [e6] at e2
  have e7 : ρ.i j = ((x.val % 2 : Nat) : Int) := by rw [e2]; simp only [wr]; omega
  rw [e3, e7]
  by_cases h : x.val % 2 = 1
  · rw [h]; rfl
  · rw [decide_eq_false h]; exact beq_eq_false_iff_ne.2 (by omega)
theorem f_abs {k a b i : Nat} {x : F} (h : Ent.def ρ (.de k .sel [a, b] [.x i] [])) (hi : ρ.i i = ((x.val % 2 : Nat) : Int)) (ha : (ρ.e a).fe = -x) (hb : (ρ.e b).fe = x) : (ρ.e k).fe = absF x := by
  have h1 := f_sel h
  rw [show Sx.val ρ (.x i) = ρ.i i from rfl, hi] at h1
  unfold absF
  by_cases hx : x.val % 2 = 1
  · rw [if_pos hx]; rw [if_pos (by omega)] at h1; rw [h1, ha]
  · rw [if_neg hx]; rw [if_neg (by omega)] at h1; rw [h1, hb]
theorem b_wz {k a : Nat} {x : F} (h : Ent.def ρ (.db k .eqs (wrdX a 0 4 ++ [Sx.c 0, Sx.c 0, Sx.c 0, Sx.c 0]) [] [])) (ha : ρ.n a = x.val) : ρ.b k = decide (x = 0) := by
  have h1 : ρ.b k = Fb.sem .eqs ((wrdX a 0 4 ++ [Sx.c 0, Sx.c 0, Sx.c 0, Sx.c 0]).map (Sx.val ρ)) [] [] := h
  rw [List.map_append, wrdX_val, show ([Sx.c 0, Sx.c 0, Sx.c 0, Sx.c 0] : List Sx).map (Sx.val ρ) = wrds 0 0 4 by simp [Sx.val, wrds, word], eqs_sem (by rw [wrds_length, wrds_length])] at h1
  rw [h1, ha, decide_eq_decide, wrds_inj (val_lt4 x) (by decide)]
  exact ⟨fun h => Fin.ext h, fun h => by rw [h]; rfl⟩
end
end Go.Proofs.YtolmkbojlpplfaaDoor
