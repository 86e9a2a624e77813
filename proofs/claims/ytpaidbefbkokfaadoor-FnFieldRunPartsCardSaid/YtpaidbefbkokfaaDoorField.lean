/- The field of 2^255 - 19 as Fin P, plain: numbers modulo P, powers, inverses. No condition. -/
import Derived.Test.YtpaidbefbkokfaaDoorPrime
namespace Go.Proofs.YtpaidbefbkokfaaDoor
set_option linter.unusedVariables false
set_option linter.unusedSimpArgs false

def P : Nat := 57896044618658097711785492504343953926634992332820282019728792003956564819949
theorem P_pos : 0 < P := by decide
instance instP : NeZero P := ⟨by decide⟩
abbrev F := Fin P
theorem prm_P' : Prm P := prm_P

/-- The element that a whole number is. -/
def toF (x : Int) : F := ⟨(x % (P : Int)).toNat, by
  have h1 : (0 : Int) < (P : Int) := by have := P_pos; omega
  have := Int.emod_lt_of_pos x h1
  have := Int.emod_nonneg x (by omega : (P : Int) ≠ 0)
  omega⟩

theorem toF_val (x : Int) : ((toF x).val : Int) = x % (P : Int) := by
  have := Int.emod_nonneg x (by have := P_pos; omega : (P : Int) ≠ 0)
  show ((x % (P : Int)).toNat : Int) = _
  omega

theorem toF_eq {x y : Int} (h : x % (P : Int) = y % (P : Int)) : toF x = toF y := by
  apply Fin.ext
  show (x % (P : Int)).toNat = (y % (P : Int)).toNat
  rw [h]
theorem toF_iff {x y : Int} : toF x = toF y ↔ x % (P : Int) = y % (P : Int) := by
  refine ⟨fun h => ?_, toF_eq⟩
  rw [← toF_val, ← toF_val, h]
theorem toF_sub_mul (x k : Int) : toF (x + (P : Int) * k) = toF x := toF_eq (by rw [Int.add_mul_emod_self_left])

theorem toF_self (x : F) : toF (x.val : Int) = x := by
  apply Fin.ext
  show (((x.val : Int)) % (P : Int)).toNat = x.val
  have h := x.isLt
  rw [Int.emod_eq_of_lt (by omega) (by omega)]
  omega

theorem toF_mul (x y : Int) : toF (x * y) = toF x * toF y := by
  apply Fin.ext
  rw [Fin.val_mul]
  have : ((toF (x * y)).val : Int) = (((toF x).val * (toF y).val % P : Nat) : Int) := by
    rw [toF_val, Int.natCast_emod, Int.natCast_mul, toF_val, toF_val, ← Int.mul_emod]
  omega
theorem toF_add (x y : Int) : toF (x + y) = toF x + toF y := by
  apply Fin.ext
  rw [Fin.val_add]
  have : ((toF (x + y)).val : Int) = ((((toF x).val + (toF y).val) % P : Nat) : Int) := by
    rw [toF_val, Int.natCast_emod, Int.natCast_add, toF_val, toF_val, ← Int.add_emod]
  omega
theorem toF_zero : toF 0 = 0 := rfl
theorem toF_one : toF 1 = 1 := by decide +kernel
theorem toF_neg (x : Int) : toF (-x) = - toF x := by
  have h : toF x + toF (-x) = 0 := by rw [← toF_add, Int.add_right_neg, toF_zero]
  grind
theorem toF_sub (x y : Int) : toF (x - y) = toF x - toF y := by
  rw [Int.sub_eq_add_neg, toF_add, toF_neg]; grind

/-! ### powers and inverses -/
def fpow (x : F) : Nat → F
  | 0 => 1
  | n + 1 => fpow x n * x
theorem fpow_add (x : F) (m n : Nat) : fpow x (m + n) = fpow x m * fpow x n := by
  induction n with
  | zero => simp only [fpow, Nat.add_zero, Nat.mul_zero]; try grind
  | succ n ih => rw [← Nat.add_assoc]; simp only [fpow]; rw [ih]; grind
theorem fpow_one (x : F) : fpow x 1 = x := by simp only [fpow]; grind
theorem fpow_two (x : F) : fpow x 2 = x * x := by simp only [fpow]; grind
theorem fpow_mul (x : F) (m n : Nat) : fpow x (m * n) = fpow (fpow x m) n := by
  induction n with
  | zero => simp only [fpow, Nat.add_zero, Nat.mul_zero]; try grind
  | succ n ih => rw [Nat.mul_succ, fpow_add, ih]; rfl
theorem fpow_mul_base (x y : F) (n : Nat) : fpow (x * y) n = fpow x n * fpow y n := by
  induction n with
  | zero => simp only [fpow, Nat.add_zero, Nat.mul_zero]; try grind
  | succ n ih => simp only [fpow]; rw [ih]; grind
theorem fpow_one_base (n : Nat) : fpow 1 n = 1 := by
  induction n with
  | zero => rfl
  | succ n ih => simp only [fpow]; rw [ih]; grind
theorem one_val : (1 : F).val = 1 := by rw [← toF_one]; decide +kernel
theorem fpow_val (x : F) (n : Nat) : (fpow x n).val = x.val ^ n % P := by
  induction n with
  | zero => simp only [fpow, Nat.pow_zero, one_val]; decide +kernel
  | succ n ih => simp only [fpow, Nat.pow_succ]; rw [Fin.val_mul, ih, Nat.mul_mod, Nat.mod_mod, ← Nat.mul_mod]
theorem fpow_zero_base (n : Nat) (h : 0 < n) : fpow 0 n = 0 := by
  cases n with
  | zero => omega
  | succ n => simp only [fpow]; grind

theorem ne_zero_dvd {x : F} (h : x ≠ 0) : ¬ P ∣ x.val := by
  intro hd
  apply h
  have hx := x.isLt
  apply Fin.ext
  rcases Nat.eq_zero_or_pos x.val with h0 | h0
  · rw [h0]; rfl
  · have := Nat.le_of_dvd h0 hd
    omega

theorem fermatF {x : F} (h : x ≠ 0) : fpow x (P - 1) = 1 := by
  apply Fin.ext
  rw [fpow_val, fermat prm_P' _ (ne_zero_dvd h), one_val]

theorem mul_eq_zero' {x y : F} (h : x * y = 0) : x = 0 ∨ y = 0 := by
  have h1 : P ∣ x.val * y.val := by
    have := congrArg Fin.val h
    rw [Fin.val_mul] at this
    exact Nat.dvd_of_mod_eq_zero this
  by_cases hx : x = 0
  · exact Or.inl hx
  · right
    apply Classical.byContradiction
    intro hy
    rcases prm_dvd_mul prm_P' h1 with h2 | h2
    · exact ne_zero_dvd hx h2
    · exact ne_zero_dvd hy h2

def finv (x : F) : F := fpow x (P - 2)
theorem finv_zero : finv 0 = 0 := fpow_zero_base _ (by decide)
theorem mul_finv {x : F} (h : x ≠ 0) : x * finv x = 1 := by
  have h1 := fermatF h
  have h2 : P - 1 = (P - 2) + 1 := by decide
  rw [h2] at h1
  simp only [fpow] at h1
  unfold finv
  rw [← h1]; grind
theorem mul_cancel' {x y z : F} (hx : x ≠ 0) (h : x * y = x * z) : y = z := by
  have h1 : x * (y - z) = 0 := by grind
  rcases mul_eq_zero' h1 with h2 | h2
  · exact absurd h2 hx
  · grind
theorem finv_finv (x : F) : finv (finv x) = x := by
  by_cases h : x = 0
  · subst h; rw [finv_zero, finv_zero]
  · have h1 := mul_finv h
    have h2 : finv x ≠ 0 := by intro e; rw [e] at h1; have h3 : (0 : F) = 1 := by grind
                               exact absurd (congrArg Fin.val h3) (by rw [one_val]; decide)
    have h3 := mul_finv h2
    refine mul_cancel' h2 ?_
    rw [h3]; grind
theorem one_ne_zero : (1 : F) ≠ 0 := by
  intro h3
  exact absurd (congrArg Fin.val h3) (by rw [one_val]; decide)
theorem finv_ne_zero {x : F} (h : x ≠ 0) : finv x ≠ 0 := by
  intro e
  have h1 := mul_finv h
  rw [e] at h1
  exact one_ne_zero (by grind)
theorem finv_one : finv 1 = 1 := fpow_one_base _
end Go.Proofs.YtpaidbefbkokfaaDoor
