/- Plain numbers: square roots modulo 2^255 - 19. No condition. -/
import Derived.Test.YtklgdgeeillpaaaDoorField
namespace Go.Proofs.YtklgdgeeillpaaaDoor
set_option linter.unusedVariables false
set_option exponentiation.threshold 600

/-! ### the one of x and -x that is even -/
def absF (x : F) : F := if x.val % 2 = 1 then -x else x
theorem neg_val {x : F} (h : x ≠ 0) : (-x).val = P - x.val := by
  have hx := x.isLt
  have h0 : x.val ≠ 0 := fun e => h (Fin.ext e)
  rw [Fin.val_neg', Nat.mod_eq_of_lt (by omega)]
theorem P_odd : P % 2 = 1 := by decide
theorem neg_zeroF : (-0 : F) = 0 := by grind
theorem neg_negF (x : F) : - -x = x := by grind
theorem absF_neg (x : F) : absF (-x) = absF x := by
  unfold absF
  by_cases h : x = 0
  · simp only [h, neg_zeroF]
  · have hx := x.isLt
    have hp := P_odd
    rw [neg_val h, neg_negF]
    by_cases h1 : x.val % 2 = 1
    · rw [if_pos h1, if_neg (by omega)]
    · rw [if_neg h1, if_pos (by omega)]
theorem absF_or (x : F) : absF x = x ∨ absF x = -x := by
  unfold absF; split
  · exact .inr rfl
  · exact .inl rfl
theorem absF_even (x : F) : (absF x).val % 2 = 0 := by
  unfold absF
  have hx := x.isLt
  have hp := P_odd
  by_cases h1 : x.val % 2 = 1
  · rw [if_pos h1, neg_val (fun e => by rw [e] at h1; exact absurd h1 (by decide))]; omega
  · rw [if_neg h1]; omega
theorem absF_of_even {x : F} (h : x.val % 2 = 0) : absF x = x := by unfold absF; rw [if_neg (by omega)]
theorem absF_zero : absF 0 = 0 := absF_of_even (by decide)
theorem sq_eq {x y : F} (h : x * x = y * y) : x = y ∨ x = -y := by
  have h1 : (x - y) * (x + y) = 0 := by grind
  rcases mul_eq_zero' h1 with h2 | h2
  · left; grind
  · right; grind
theorem absF_sq {x y : F} (h : x * x = y * y) : absF x = absF y := by
  rcases sq_eq h with rfl | rfl
  · rfl
  · exact absF_neg y

/-! ### powers that are constants -/
theorem fpow_const {a x : F} {e : Nat} (he : e < 2 ^ 256) (h : pmod P 256 a.val e = x.val) : fpow a e = x :=
  Fin.ext (by rw [fpow_val, pw 256 he h])
/-- The square root of -1. -/
def iC : F := ⟨19681161376707505956807079304988542015446066515923890162744021073123829784752, by decide⟩
def E1 : Nat := 7237005577332262213973186563042994240829374041602535252466099000494570602494
def E2 : Nat := 14474011154664524427946373126085988481658748083205070504932198000989141204987
def E3 : Nat := 7237005577332262213973186563042994240829374041602535252466099000494570602493
theorem iC_sq : iC * iC = -1 := by decide +kernel
theorem two_E2 : fpow 2 E2 = iC := fpow_const (by decide) (by decide +kernel)
theorem iC_E2 : fpow iC E2 = -iC := fpow_const (by decide) (by decide +kernel)
theorem one_ne_neg : (1 : F) ≠ -1 := by decide +kernel
theorem two_ne_zero' : (2 : F) ≠ 0 := by decide +kernel
/-- The first root that is tried. -/
theorem r0_sq (a : F) : fpow a E1 * fpow a E1 = a * fpow a E2 := by
  rw [← fpow_add, show E1 + E1 = E2 + 1 by decide]; simp only [fpow]; grind
theorem hlp1 {r w a i : F} (h : r * r = a * w) (hi : i * i = -1) : r * i * (r * i) = -(a * w) := by grind
theorem hlp2 {w a : F} (e : -(a * w) = a) : a * -w = a := by grind
theorem hlp3 {w : F} (h : w * w = -1) : -w * -w = -1 := by grind
theorem hlp4 {w a : F} (e : -(a * -w) = a) : a * w = a := by grind
theorem r1_sq (a : F) : fpow a E1 * fpow 2 E2 * (fpow a E1 * fpow 2 E2) = -(a * fpow a E2) := by
  rw [two_E2]
  exact hlp1 (r0_sq a) iC_sq
theorem w_four {a : F} (h : a ≠ 0) : fpow a E2 = 1 ∨ fpow a E2 = -1 ∨ fpow a E2 = iC ∨ fpow a E2 = -iC := by
  have h4 : fpow (fpow a E2) 4 = 1 := by rw [← fpow_mul, show E2 * 4 = P - 1 by decide]; exact fermatF h
  have h4' : fpow a E2 * fpow a E2 * (fpow a E2 * fpow a E2) = 1 := by
    rw [← h4]; simp only [fpow]; grind
  generalize fpow a E2 = w at *
  have h1 : (w * w - 1) * (w * w + 1) = 0 := by grind
  rcases mul_eq_zero' h1 with h2 | h2
  · have h3 : (w - 1) * (w + 1) = 0 := by grind
    rcases mul_eq_zero' h3 with h5 | h5
    · left; grind
    · right; left; grind
  · have hi := iC_sq
    have h3 : (w - iC) * (w + iC) = 0 := by grind
    rcases mul_eq_zero' h3 with h5 | h5
    · right; right; left; grind
    · right; right; right; grind
theorem w_i (a : F) : fpow (iC * a) E2 = -iC * fpow a E2 := by rw [fpow_mul_base, iC_E2]

/-! ### the root of a ratio -/
/-- What the reference finds: the root of a, if a^E2 is 1 or -1. -/
theorem root_one {a r : F} (h : fpow a E2 = 1) (hr : r * r = a) : fpow a E1 * fpow a E1 = a ∧ absF (fpow a E1) = absF r := by
  have h1 := r0_sq a
  rw [h] at h1
  have h2 : fpow a E1 * fpow a E1 = a := by rw [h1]; grind
  exact ⟨h2, absF_sq (h2.trans hr.symm)⟩
theorem root_neg {a r : F} (ha : a ≠ 0) (h : fpow a E2 = -1) (hr : r * r = a) :
    fpow a E1 * fpow a E1 ≠ a ∧ fpow a E1 * fpow 2 E2 * (fpow a E1 * fpow 2 E2) = a ∧ absF (fpow a E1 * fpow 2 E2) = absF r := by
  have h1 := r0_sq a
  have h3 := r1_sq a
  rw [h] at h1 h3
  have h2 : fpow a E1 * fpow 2 E2 * (fpow a E1 * fpow 2 E2) = a := by rw [h3]; grind
  refine ⟨fun e => ?_, h2, absF_sq (h2.trans hr.symm)⟩
  rw [h1] at e
  have : 2 * a = 0 := by grind
  rcases mul_eq_zero' this with h5 | h5
  · exact two_ne_zero' h5
  · exact ha h5
theorem root_none {a : F} (ha : a ≠ 0) (h : fpow a E2 = iC ∨ fpow a E2 = -iC) :
    fpow a E1 * fpow a E1 ≠ a ∧ fpow a E1 * fpow 2 E2 * (fpow a E1 * fpow 2 E2) ≠ a := by
  have h1 := r0_sq a
  have h3 := r1_sq a
  have hi := iC_sq
  have key : ∀ w : F, w * w = -1 → a * w ≠ a := by
    intro w hw e
    have h5 : w = 1 := mul_cancel' ha (e.trans (by grind))
    rw [h5] at hw
    exact one_ne_neg (by grind)
  constructor
  · rw [h1]
    rcases h with h | h <;> rw [h]
    · exact key _ hi
    · exact key _ (hlp3 hi)
  · rw [h3]
    rcases h with h | h <;> rw [h]
    · intro e; exact key (-iC) (hlp3 hi) (hlp2 e)
    · intro e; exact key iC hi (hlp4 e)
/-- What the code reckons. -/
def rrF (u v : F) : F := u * (v * v * v) * fpow (u * (v * v * v) * (v * v * (v * v))) E3
theorem check_eq (u v : F) : v * (rrF u v * rrF u v) = u * fpow (u * (v * v * v) * (v * v * (v * v))) E2 := by
  unfold rrF
  have h : fpow (u * (v * v * v) * (v * v * (v * v))) E2 = fpow (u * (v * v * v) * (v * v * (v * v))) E3 * fpow (u * (v * v * v) * (v * v * (v * v))) E3 * (u * (v * v * v) * (v * v * (v * v))) := by
    rw [← fpow_add, show E2 = E3 + E3 + 1 by decide]; simp only [fpow]
  rw [h]
  generalize fpow (u * (v * v * v) * (v * v * (v * v))) E3 = z
  grind
theorem w_ratio {u v : F} (hv : v ≠ 0) : fpow (u * (v * v * v) * (v * v * (v * v))) E2 = fpow (u * finv v) E2 := by
  have h1 : u * (v * v * v) * (v * v * (v * v)) = u * finv v * fpow v 8 := by
    have := mul_finv hv
    simp only [fpow]; grind
  have h2 : fpow (fpow v 8) E2 = 1 := by
    rw [← fpow_mul, show 8 * E2 = (P - 1) * 2 by decide, fpow_mul, fermatF hv, fpow_one_base]
  rw [h1, fpow_mul_base, h2]; grind
theorem rr_sq {u v : F} (hv : v ≠ 0) : rrF u v * rrF u v = u * finv v * fpow (u * finv v) E2 := by
  have h := check_eq u v
  rw [w_ratio hv] at h
  have := mul_finv hv
  apply mul_cancel' hv
  rw [h]; grind
theorem ratio_ne {u v : F} (hu : u ≠ 0) (hv : v ≠ 0) : u * finv v ≠ 0 := by
  intro e
  rcases mul_eq_zero' e with h | h
  · exact hu h
  · exact finv_ne_zero hv h
theorem rrF_zero {u v : F} (h : u = 0 ∨ v = 0) : rrF u v = 0 := by
  unfold rrF
  rcases h with rfl | rfl <;> grind
/-- The four ways, of u and v that are not 0. -/
theorem ratio_ways {u v : F} (hu : u ≠ 0) (hv : v ≠ 0) :
    (fpow (u * finv v) E2 = 1 ∧ v * (rrF u v * rrF u v) = u ∧ rrF u v * rrF u v = u * finv v) ∨
    (fpow (u * finv v) E2 = -1 ∧ v * (rrF u v * rrF u v) = -u ∧ iC * rrF u v * (iC * rrF u v) = u * finv v) ∨
    (fpow (u * finv v) E2 = iC ∧ v * (rrF u v * rrF u v) = u * iC ∧ rrF u v * rrF u v = iC * (u * finv v)) ∨
    (fpow (u * finv v) E2 = -iC ∧ v * (rrF u v * rrF u v) = -u * iC ∧ iC * rrF u v * (iC * rrF u v) = iC * (u * finv v)) := by
  have h1 := check_eq u v
  rw [w_ratio hv] at h1
  have h2 := rr_sq (u := u) hv
  have hi := iC_sq
  rcases w_four (ratio_ne hu hv) with h | h | h | h
  · left; rw [h] at h1 h2; exact ⟨h, by rw [h1]; grind, by rw [h2]; grind⟩
  · right; left; rw [h] at h1 h2; exact ⟨h, by rw [h1]; grind, by grind⟩
  · right; right; left; rw [h] at h1 h2; exact ⟨h, by rw [h1], by rw [h2]; grind⟩
  · right; right; right; rw [h] at h1 h2; exact ⟨h, by rw [h1]; grind, by grind⟩
theorem mul_ne {u c d : F} (hu : u ≠ 0) (hc : c ≠ d) : u * c ≠ u * d := fun e => hc (mul_cancel' hu e)
theorem hg1 {u : F} (e : -u = u) : u * -1 = u * 1 := by grind
theorem hg2 {u c : F} (e : -u * c = u) : u * -c = u * 1 := by grind
theorem hg3 {u c : F} (e : -u * c = -u) : u * c = u * 1 := by grind
theorem hg4 {u c : F} (e : u * c = u) : u * c = u * 1 := by grind
theorem hg5 {u c : F} (e : u * c = -u) : u * c = u * -1 := by grind
theorem hg6 {u c : F} (e : -u * c = u * c) : u * -c = u * c := by grind
theorem i_ne_one : iC ≠ 1 := by decide +kernel
theorem i_ne_neg_one : iC ≠ -1 := by decide +kernel
theorem ni_ne_one : -iC ≠ 1 := by decide +kernel
theorem ni_ne_i : -iC ≠ iC := by decide +kernel
/-- No two of u, -u, u * i, -u * i are one. -/
theorem ne1 {u : F} (h : u ≠ 0) : -u ≠ u := fun e => mul_ne h one_ne_neg.symm (hg1 e)
theorem ne2 {u : F} (h : u ≠ 0) : -u * iC ≠ u := fun e => mul_ne h ni_ne_one (hg2 e)
theorem ne3 {u : F} (h : u ≠ 0) : -u * iC ≠ -u := fun e => mul_ne h i_ne_one (hg3 e)
theorem ne4 {u : F} (h : u ≠ 0) : u * iC ≠ u := fun e => mul_ne h i_ne_one (hg4 e)
theorem ne5 {u : F} (h : u ≠ 0) : u * iC ≠ -u := fun e => mul_ne h i_ne_neg_one (hg5 e)
theorem ne6 {u : F} (h : u ≠ 0) : -u * iC ≠ u * iC := fun e => mul_ne h ni_ne_i (hg6 e)
theorem neg_one_E1 : fpow (0 - 1) E1 = 1 := fpow_const (by decide) (by decide +kernel)
theorem neg_one_ne : (1 : F) * 1 ≠ 0 - 1 := by decide +kernel
theorem imag_eq : fpow (0 - 1) E1 * fpow 2 E2 = iC := by rw [neg_one_E1, two_E2]; decide +kernel
theorem iC_sq' : iC * iC = 0 - 1 := by decide +kernel
theorem iC_even : ¬ iC.val % 2 = 1 := by decide +kernel
theorem ri_sq (r c : F) : r * c * (r * c) = c * r * (c * r) := by grind
theorem negz {u : F} (h : -u = 0) : u = 0 := by grind
theorem iC_ne_zero : iC ≠ 0 := by decide +kernel
theorem negi {u : F} (h : -u * iC = 0) : u = 0 := by
  rcases mul_eq_zero' h with h1 | h1
  · exact negz h1
  · exact absurd h1 iC_ne_zero
theorem fin_even {x y : F} (h : absF x = absF y) (hp : ¬ x.val % 2 = 1) : absF y = x := by rw [← h]; exact absF_of_even (by omega)
theorem fin_odd {x y : F} (h : absF x = absF y) (hp : x.val % 2 = 1) : absF y = 0 - x := by
  rw [← h]; unfold absF; rw [if_pos hp]; grind
theorem finv_lit (x : F) : fpow x 57896044618658097711785492504343953926634992332820282019728792003956564819947 = finv x := by
  unfold finv; rw [show P - 2 = 57896044618658097711785492504343953926634992332820282019728792003956564819947 by decide]
theorem w_three {a : F} (h : fpow a E2 = iC) : fpow (iC * a) E2 = 1 := by rw [w_i, h]; decide +kernel
theorem w_fourth {a : F} (h : fpow a E2 = -iC) : fpow (iC * a) E2 = -1 := by rw [w_i, h]; decide +kernel
theorem ia_ne {a : F} (h : a ≠ 0) : iC * a ≠ 0 := fun e => by
  rcases mul_eq_zero' e with h1 | h1
  · exact iC_ne_zero h1
  · exact h h1
theorem check_zero {u v : F} (h : u = 0 ∨ v = 0) : v * (rrF u v * rrF u v) = 0 := by rw [rrF_zero h]; grind
end Go.Proofs.YtklgdgeeillpaaaDoor
