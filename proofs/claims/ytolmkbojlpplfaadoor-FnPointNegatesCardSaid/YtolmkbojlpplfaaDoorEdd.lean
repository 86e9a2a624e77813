/- The curve -x*x + y*y = 1 + d*x*x*y*y over the field of 2^255 - 19: its points are a commutative group. No condition. -/
import Derived.Test.YtolmkbojlpplfaaDoorLaw3
namespace Go.Proofs.YtolmkbojlpplfaaDoor
set_option linter.unusedVariables false
set_option linter.unusedSimpArgs false

/-- d. -/
def dC : F := ⟨37095705934669439343138083508754565189542113879843219016388785533085940283555, by decide⟩
def OnC (x y : F) : Prop := dC * x * x * y * y = y * y - x * x - 1
theorem dC_pow : fpow dC 28948022309329048855892746252171976963317496166410141009864396001978282409974 = -1 := fpow_const (by decide) (by decide +kernel)
theorem dC_nonsq (z : F) : z * z ≠ dC := fun h => by
  have h1 := dC_pow
  by_cases hz : z = 0
  · rw [hz] at h
    exact absurd (h.symm.trans (by grind : (0 : F) * 0 = 0)) (by decide +kernel)
  · rw [← h, fpow_mul_base, ← fpow_add, show 28948022309329048855892746252171976963317496166410141009864396001978282409974 + 28948022309329048855892746252171976963317496166410141009864396001978282409974 = P - 1 by decide, fermatF hz] at h1
    exact one_ne_neg h1
theorem mzF (x : F) : x * 0 = 0 := by grind
theorem zmF (x : F) : 0 * x = 0 := by grind
theorem azF (x : F) : x + 0 = x := by grind
theorem szF (x : F) : x - 0 = x := by grind
theorem m1F (x : F) : x * 1 = x := by grind
theorem ne_of_mul {x y : F} (h : x * y ≠ 0) : x ≠ 0 ∧ y ≠ 0 := by
  constructor
  · intro e; exact h (by rw [e]; grind)
  · intro e; exact h (by rw [e]; grind)
theorem mul_ne0 {x y : F} (hx : x ≠ 0) (hy : y ≠ 0) : x * y ≠ 0 := fun h => by
  rcases mul_eq_zero' h with e | e
  · exact hx e
  · exact hy e
theorem sq_zero {x : F} (h : x * x = 0) : x = 0 := by rcases mul_eq_zero' h with e | e <;> exact e
theorem cp1 {d i e x1 y1 x2 y2 : F} (hi : i * i = -1) (he : e = d * x1 * x2 * y1 * y2) (hee : e * e = 1) (h1 : d * x1 * x1 * y1 * y1 = y1 * y1 - x1 * x1 - 1) (h2 : d * x2 * x2 * y2 * y2 = y2 * y2 - x2 * x2 - 1) :
    (i * x1 + e * y1) * (i * x1 + e * y1) = d * ((x1 * y1 * (i * x2 + y2)) * (x1 * y1 * (i * x2 + y2))) := by
  have k1 : d * x1 * x1 * y1 * y1 * (y2 * y2 - x2 * x2) = y1 * y1 - x1 * x1 := by
    have a1 : y2 * y2 - x2 * x2 = 1 + d * x2 * x2 * y2 * y2 := by rw [h2]; grind
    have a2 : d * x1 * x1 * y1 * y1 * (d * x2 * x2 * y2 * y2) = e * e := by rw [he]; grind
    have a3 : d * x1 * x1 * y1 * y1 * (1 + d * x2 * x2 * y2 * y2) = d * x1 * x1 * y1 * y1 + d * x1 * x1 * y1 * y1 * (d * x2 * x2 * y2 * y2) := by grind
    rw [a1, a3, a2, hee, h1]; grind
  have k2 : (i * x1 + e * y1) * (i * x1 + e * y1) = i * i * (x1 * x1) + 2 * i * x1 * y1 * e + e * e * (y1 * y1) := by grind
  have k3 : d * ((x1 * y1 * (i * x2 + y2)) * (x1 * y1 * (i * x2 + y2))) = i * i * (d * x1 * x1 * y1 * y1 * (x2 * x2)) + 2 * i * x1 * y1 * (d * x1 * x2 * y1 * y2) + d * x1 * x1 * y1 * y1 * (y2 * y2) := by grind
  rw [k2, k3, ← he, hi, hee]
  have k4 : d * x1 * x1 * y1 * y1 * (y2 * y2) = y1 * y1 - x1 * x1 + d * x1 * x1 * y1 * y1 * (x2 * x2) := by rw [← k1]; grind
  rw [k4]; grind
/-- The denominators of a sum are not 0. -/
theorem complete {x1 y1 x2 y2 e : F} (h1 : OnC x1 y1) (h2 : OnC x2 y2) (he : e = dC * x1 * x2 * y1 * y2) (hee : e * e = 1) : False := by
  have he0 : e ≠ 0 := fun h => by rw [h] at hee; exact absurd hee (by decide +kernel)
  have hn : dC * x1 * x2 * y1 * y2 ≠ 0 := by rw [← he]; exact he0
  obtain ⟨hn1, ny2⟩ := ne_of_mul hn
  obtain ⟨hn2, ny1⟩ := ne_of_mul hn1
  obtain ⟨hn3, nx2⟩ := ne_of_mul hn2
  obtain ⟨_, nx1⟩ := ne_of_mul hn3
  have root : ∀ {u w : F}, w ≠ 0 → u * u = dC * (w * w) → False := fun {u w} hw hu => by
    refine dC_nonsq (u * finv w) ?_
    have hf := mul_finv hw
    have : u * finv w * (u * finv w) = u * u * (finv w * finv w) := by grind
    rw [this, hu]
    generalize finv w = z at *
    grind
  by_cases hp : iC * x2 + y2 = 0
  · have hm : iC * x2 + -y2 ≠ 0 := fun h => by
      have : y2 + y2 = 0 := by grind
      have h3 : (2 : F) * y2 = 0 := by grind
      rcases mul_eq_zero' h3 with e | e
      · exact two_ne_zero' e
      · exact ny2 e
    have := cp1 (d := dC) (i := iC) (e := -e) (x1 := x1) (y1 := y1) (x2 := x2) (y2 := -y2) iC_sq (by rw [he]; grind) (by rw [← hee]; grind) h1 (by have := h2; unfold OnC at this; grind)
    exact root (mul_ne0 (mul_ne0 nx1 ny1) hm) this
  · have := cp1 (d := dC) (i := iC) (e := e) (x1 := x1) (y1 := y1) (x2 := x2) (y2 := y2) iC_sq he hee h1 h2
    exact root (mul_ne0 (mul_ne0 nx1 ny1) hp) this
theorem den_add {x1 y1 x2 y2 : F} (h1 : OnC x1 y1) (h2 : OnC x2 y2) : 1 + dC * x1 * x2 * y1 * y2 ≠ 0 := fun h =>
  complete h1 h2 rfl (by have : dC * x1 * x2 * y1 * y2 = -1 := by grind
                         rw [this]; grind)
theorem den_sub {x1 y1 x2 y2 : F} (h1 : OnC x1 y1) (h2 : OnC x2 y2) : 1 - dC * x1 * x2 * y1 * y2 ≠ 0 := fun h =>
  complete h1 h2 rfl (by have : dC * x1 * x2 * y1 * y2 = 1 := by grind
                         rw [this]; grind)
def addX (x1 y1 x2 y2 : F) : F := (x1 * y2 + x2 * y1) * finv (1 + dC * x1 * x2 * y1 * y2)
def addY (x1 y1 x2 y2 : F) : F := (y1 * y2 + x1 * x2) * finv (1 - dC * x1 * x2 * y1 * y2)
theorem addX_eq {x1 y1 x2 y2 : F} (h1 : OnC x1 y1) (h2 : OnC x2 y2) : addX x1 y1 x2 y2 * (1 + dC * x1 * x2 * y1 * y2) = x1 * y2 + x2 * y1 := by
  have := mul_finv (den_add h1 h2)
  unfold addX
  generalize finv (1 + dC * x1 * x2 * y1 * y2) = z at *
  generalize 1 + dC * x1 * x2 * y1 * y2 = w at *
  grind
theorem addY_eq {x1 y1 x2 y2 : F} (h1 : OnC x1 y1) (h2 : OnC x2 y2) : addY x1 y1 x2 y2 * (1 - dC * x1 * x2 * y1 * y2) = y1 * y2 + x1 * x2 := by
  have := mul_finv (den_sub h1 h2)
  unfold addY
  generalize finv (1 - dC * x1 * x2 * y1 * y2) = z at *
  generalize 1 - dC * x1 * x2 * y1 * y2 = w at *
  grind
set_option maxHeartbeats 4000000 in
/-- Polynomial identities, with their cofactors. -/
theorem clo_id (x1 y1 x2 y2 d : F) : (y1*y2 + x1*x2)*(y1*y2 + x1*x2)*((1 + d*x1*x2*y1*y2)*(1 + d*x1*x2*y1*y2)) - (x1*y2 + x2*y1)*(x1*y2 + x2*y1)*((1 - d*x1*x2*y1*y2)*(1 - d*x1*x2*y1*y2)) - (1 + d*x1*x2*y1*y2)*(1 + d*x1*x2*y1*y2)*((1 - d*x1*x2*y1*y2)*(1 - d*x1*x2*y1*y2)) - d*((x1*y2 + x2*y1)*(x1*y2 + x2*y1))*((y1*y2 + x1*x2)*(y1*y2 + x1*x2))
    = (4*x2*x2*y2*y2 - y2*y2*y2*y2 - x2*x2*x2*x2 + 2*x2*x2*y2*y2*d - 2*x2*x2*y2*y2*y2*y2 + 2*x2*x2*x2*x2*y2*y2 + 2*x2*x2*x2*x2*y2*y2*y2*y2*d + y1*y1*x2*x2*y2*y2*y2*y2*d - y1*y1*x2*x2*x2*x2*y2*y2*d - x1*x1*x2*x2*y2*y2*y2*y2*d + x1*x1*x2*x2*x2*x2*y2*y2*d + x2*x2*x2*x2*y2*y2*y2*y2*d*d - y1*y1*x2*x2*x2*x2*y2*y2*y2*y2*d*d + x1*x1*x2*x2*x2*x2*y2*y2*y2*y2*d*d - x1*x1*y1*y1*x2*x2*x2*x2*y2*y2*y2*y2*d*d*d) * (d*x1*x1*y1*y1 - (y1*y1 - x1*x1 - 1)) + (x2*x2 - 1 - y2*y2 - 2*x2*x2*y2*y2 + y1*y1*y2*y2 - y1*y1*x2*x2 - x1*x1*y2*y2 + x1*x1*x2*x2 - x2*x2*y2*y2*d + 2*y1*y1*x2*x2*y2*y2 - 2*x1*x1*x2*x2*y2*y2 + 2*y1*y1*x2*x2*y2*y2*d - 2*x1*x1*x2*x2*y2*y2*d - y1*y1*y1*y1*x2*x2*y2*y2*d - x1*x1*x1*x1*x2*x2*y2*y2*d) * (d*x2*x2*y2*y2 - (y2*y2 - x2*x2 - 1)) := by grobner
set_option maxHeartbeats 4000000 in
theorem assX_id (x1 y1 x2 y2 x3 y3 d : F) : ((x1*y2 + x2*y1)*y3*(1 - d*x1*x2*y1*y2) + x3*(y1*y2 + x1*x2)*(1 + d*x1*x2*y1*y2)) * ((1 + d*x2*x3*y2*y3)*(1 - d*x2*x3*y2*y3) + d*x1*(x2*y3 + x3*y2)*y1*(y2*y3 + x2*x3)) - (x1*(y2*y3 + x2*x3)*(1 + d*x2*x3*y2*y3) + (x2*y3 + x3*y2)*y1*(1 - d*x2*x3*y2*y3)) * ((1 + d*x1*x2*y1*y2)*(1 - d*x1*x2*y1*y2) + d*(x1*y2 + x2*y1)*x3*(y1*y2 + x1*x2)*y3)
    = (y1*x2*x2*y2*y2*y2*x3*d + y1*x2*x2*x2*y2*y2*y3*d + x1*x2*x2*y2*y2*y2*y3*d + x1*x2*x2*x2*y2*y2*x3*d + y1*x2*y2*y2*y2*y2*x3*x3*y3*d + y1*x2*x2*y2*y2*y2*x3*x3*x3*d - y1*x2*x2*x2*y2*y2*y3*y3*y3*d - y1*x2*x2*x2*x2*y2*x3*y3*y3*d - x1*x2*y2*y2*y2*y2*x3*y3*y3*d - x1*x2*x2*y2*y2*y2*y3*y3*y3*d + x1*x2*x2*x2*y2*y2*x3*x3*x3*d + x1*x2*x2*x2*x2*y2*x3*x3*y3*d - y1*x2*x2*x2*y2*y2*y2*y2*x3*x3*y3*d*d - y1*x2*x2*x2*x2*y2*y2*y2*x3*y3*y3*d*d + x1*x2*x2*x2*y2*y2*y2*y2*x3*y3*y3*d*d + x1*x2*x2*x2*x2*y2*y2*y2*x3*x3*y3*d*d) * (d*x1*x1*y1*y1 - (y1*y1 - x1*x1 - 1)) + (y1*y2*x3*y3*y3 - y1*y2*x3 - y1*x2*y3 - x1*y2*y3 - x1*x2*x3 - y1*y2*x3*x3*x3 + y1*x2*y3*y3*y3 - y1*x2*x3*x3*y3 + y1*y1*y1*y2*x3 + y1*y1*y1*x2*y3 + x1*y2*y3*y3*y3 - x1*y2*x3*x3*y3 + x1*x2*x3*y3*y3 - x1*x2*x3*x3*x3 + x1*y1*y1*y2*y3 + x1*y1*y1*x2*x3 - x1*x1*y1*y2*x3 - x1*x1*y1*x2*y3 - x1*x1*x1*y2*y3 - x1*x1*x1*x2*x3 - y1*y1*y1*y2*x3*y3*y3 + y1*y1*y1*y2*x3*x3*x3 - y1*y1*y1*x2*y3*y3*y3 + y1*y1*y1*x2*x3*x3*y3 - x1*y1*y1*y2*y3*y3*y3 + x1*y1*y1*y2*x3*x3*y3 - x1*y1*y1*x2*x3*y3*y3 + x1*y1*y1*x2*x3*x3*x3 + x1*x1*y1*y2*x3*y3*y3 - x1*x1*y1*y2*x3*x3*x3 + x1*x1*y1*x2*y3*y3*y3 - x1*x1*y1*x2*x3*x3*y3 + x1*x1*x1*y2*y3*y3*y3 - x1*x1*x1*y2*x3*x3*y3 + x1*x1*x1*x2*x3*y3*y3 - x1*x1*x1*x2*x3*x3*x3 - y1*y2*x3*x3*x3*y3*y3*d - y1*x2*x3*x3*y3*y3*y3*d + y1*x2*y2*y2*x3*x3*y3*d + y1*x2*x2*y2*x3*y3*y3*d - x1*y2*x3*x3*y3*y3*y3*d - x1*x2*x3*x3*x3*y3*y3*d - x1*x2*y2*y2*x3*y3*y3*d - x1*x2*x2*y2*x3*x3*y3*d + y1*y1*y1*y2*x3*x3*x3*y3*y3*d + y1*y1*y1*x2*x3*x3*y3*y3*y3*d - y1*y1*y1*x2*y2*y2*x3*x3*y3*d - y1*y1*y1*x2*x2*y2*x3*y3*y3*d + x1*y1*y1*y2*x3*x3*y3*y3*y3*d + x1*y1*y1*x2*x3*x3*x3*y3*y3*d + x1*y1*y1*x2*y2*y2*x3*y3*y3*d + x1*y1*y1*x2*x2*y2*x3*x3*y3*d - x1*x1*y1*y2*x3*x3*x3*y3*y3*d - x1*x1*y1*x2*x3*x3*y3*y3*y3*d + x1*x1*y1*x2*y2*y2*x3*x3*y3*d + x1*x1*y1*x2*x2*y2*x3*y3*y3*d - x1*x1*x1*y2*x3*x3*y3*y3*y3*d - x1*x1*x1*x2*x3*x3*x3*y3*y3*d - x1*x1*x1*x2*y2*y2*x3*y3*y3*d - x1*x1*x1*x2*x2*y2*x3*x3*y3*d - x1*y1*y1*x2*y2*y2*x3*x3*x3*y3*y3*d*d + x1*y1*y1*x2*x2*y2*x3*x3*y3*y3*y3*d*d + x1*x1*y1*x2*y2*y2*x3*x3*y3*y3*y3*d*d - x1*x1*y1*x2*x2*y2*x3*x3*x3*y3*y3*d*d) * (d*x2*x2*y2*y2 - (y2*y2 - x2*x2 - 1)) + (y1*y2*x3 + y1*x2*y3 + x1*y2*y3 + x1*x2*x3 - y1*y2*y2*y2*x3 - y1*x2*y2*y2*y3 + y1*x2*x2*y2*x3 + y1*x2*x2*x2*y3 - y1*y1*y1*y2*x3 - y1*y1*y1*x2*y3 - x1*y2*y2*y2*y3 - x1*x2*y2*y2*x3 + x1*x2*x2*y2*y3 + x1*x2*x2*x2*x3 - x1*y1*y1*y2*y3 - x1*y1*y1*x2*x3 + x1*x1*y1*y2*x3 + x1*x1*y1*x2*y3 + x1*x1*x1*y2*y3 + x1*x1*x1*x2*x3 + y1*y1*y1*y2*y2*y2*x3 + y1*y1*y1*x2*y2*y2*y3 - y1*y1*y1*x2*x2*y2*x3 - y1*y1*y1*x2*x2*x2*y3 + x1*y1*y1*y2*y2*y2*y3 + x1*y1*y1*x2*y2*y2*x3 - x1*y1*y1*x2*x2*y2*y3 - x1*y1*y1*x2*x2*x2*x3 - x1*x1*y1*y2*y2*y2*x3 - x1*x1*y1*x2*y2*y2*y3 + x1*x1*y1*x2*x2*y2*x3 + x1*x1*y1*x2*x2*x2*y3 - x1*x1*x1*y2*y2*y2*y3 - x1*x1*x1*x2*y2*y2*x3 + x1*x1*x1*x2*x2*y2*y3 + x1*x1*x1*x2*x2*x2*x3 + x1*y1*y1*x2*y2*y2*x3*d - x1*y1*y1*x2*x2*y2*y3*d - x1*x1*y1*x2*y2*y2*y3*d + x1*x1*y1*x2*x2*y2*x3*d) * (d*x3*x3*y3*y3 - (y3*y3 - x3*x3 - 1)) := by grobner
set_option maxHeartbeats 4000000 in
theorem assY_id (x1 y1 x2 y2 x3 y3 d : F) : ((y1*y2 + x1*x2)*y3*(1 + d*x1*x2*y1*y2) + (x1*y2 + x2*y1)*x3*(1 - d*x1*x2*y1*y2)) * ((1 + d*x2*x3*y2*y3)*(1 - d*x2*x3*y2*y3) - d*x1*(x2*y3 + x3*y2)*y1*(y2*y3 + x2*x3)) - (y1*(y2*y3 + x2*x3)*(1 + d*x2*x3*y2*y3) + x1*(x2*y3 + x3*y2)*(1 - d*x2*x3*y2*y3)) * ((1 + d*x1*x2*y1*y2)*(1 - d*x1*x2*y1*y2) - d*(x1*y2 + x2*y1)*x3*(y1*y2 + x1*x2)*y3)
    = (y1*x2*x2*y2*y2*y2*y3*d + y1*x2*x2*x2*y2*y2*x3*d + x1*x2*x2*y2*y2*y2*x3*d + x1*x2*x2*x2*y2*y2*y3*d - y1*x2*y2*y2*y2*y2*x3*y3*y3*d - y1*x2*x2*y2*y2*y2*y3*y3*y3*d + y1*x2*x2*x2*y2*y2*x3*x3*x3*d + y1*x2*x2*x2*x2*y2*x3*x3*y3*d + x1*x2*y2*y2*y2*y2*x3*x3*y3*d + x1*x2*x2*y2*y2*y2*x3*x3*x3*d - x1*x2*x2*x2*y2*y2*y3*y3*y3*d - x1*x2*x2*x2*x2*y2*x3*y3*y3*d + y1*x2*x2*x2*y2*y2*y2*y2*x3*y3*y3*d*d + y1*x2*x2*x2*x2*y2*y2*y2*x3*x3*y3*d*d - x1*x2*x2*x2*y2*y2*y2*y2*x3*x3*y3*d*d - x1*x2*x2*x2*x2*y2*y2*y2*x3*y3*y3*d*d) * (d*x1*x1*y1*y1 - (y1*y1 - x1*x1 - 1)) + (y1*y2*y3*y3*y3 - y1*y2*y3 - y1*x2*x3 - x1*y2*x3 - x1*x2*y3 - y1*y2*x3*x3*y3 + y1*x2*x3*y3*y3 - y1*x2*x3*x3*x3 + y1*y1*y1*y2*y3 + y1*y1*y1*x2*x3 + x1*y2*x3*y3*y3 - x1*y2*x3*x3*x3 + x1*x2*y3*y3*y3 - x1*x2*x3*x3*y3 + x1*y1*y1*y2*x3 + x1*y1*y1*x2*y3 - x1*x1*y1*y2*y3 - x1*x1*y1*x2*x3 - x1*x1*x1*y2*x3 - x1*x1*x1*x2*y3 - y1*y1*y1*y2*y3*y3*y3 + y1*y1*y1*y2*x3*x3*y3 - y1*y1*y1*x2*x3*y3*y3 + y1*y1*y1*x2*x3*x3*x3 - x1*y1*y1*y2*x3*y3*y3 + x1*y1*y1*y2*x3*x3*x3 - x1*y1*y1*x2*y3*y3*y3 + x1*y1*y1*x2*x3*x3*y3 + x1*x1*y1*y2*y3*y3*y3 - x1*x1*y1*y2*x3*x3*y3 + x1*x1*y1*x2*x3*y3*y3 - x1*x1*y1*x2*x3*x3*x3 + x1*x1*x1*y2*x3*y3*y3 - x1*x1*x1*y2*x3*x3*x3 + x1*x1*x1*x2*y3*y3*y3 - x1*x1*x1*x2*x3*x3*y3 - y1*y2*x3*x3*y3*y3*y3*d - y1*x2*x3*x3*x3*y3*y3*d - y1*x2*y2*y2*x3*y3*y3*d - y1*x2*x2*y2*x3*x3*y3*d - x1*y2*x3*x3*x3*y3*y3*d - x1*x2*x3*x3*y3*y3*y3*d + x1*x2*y2*y2*x3*x3*y3*d + x1*x2*x2*y2*x3*y3*y3*d + y1*y1*y1*y2*x3*x3*y3*y3*y3*d + y1*y1*y1*x2*x3*x3*x3*y3*y3*d + y1*y1*y1*x2*y2*y2*x3*y3*y3*d + y1*y1*y1*x2*x2*y2*x3*x3*y3*d + x1*y1*y1*y2*x3*x3*x3*y3*y3*d + x1*y1*y1*x2*x3*x3*y3*y3*y3*d - x1*y1*y1*x2*y2*y2*x3*x3*y3*d - x1*y1*y1*x2*x2*y2*x3*y3*y3*d - x1*x1*y1*y2*x3*x3*y3*y3*y3*d - x1*x1*y1*x2*x3*x3*x3*y3*y3*d - x1*x1*y1*x2*y2*y2*x3*y3*y3*d - x1*x1*y1*x2*x2*y2*x3*x3*y3*d - x1*x1*x1*y2*x3*x3*x3*y3*y3*d - x1*x1*x1*x2*x3*x3*y3*y3*y3*d + x1*x1*x1*x2*y2*y2*x3*x3*y3*d + x1*x1*x1*x2*x2*y2*x3*y3*y3*d - x1*y1*y1*x2*y2*y2*x3*x3*y3*y3*y3*d*d + x1*y1*y1*x2*x2*y2*x3*x3*x3*y3*y3*d*d + x1*x1*y1*x2*y2*y2*x3*x3*x3*y3*y3*d*d - x1*x1*y1*x2*x2*y2*x3*x3*y3*y3*y3*d*d) * (d*x2*x2*y2*y2 - (y2*y2 - x2*x2 - 1)) + (y1*y2*y3 + y1*x2*x3 + x1*y2*x3 + x1*x2*y3 - y1*y2*y2*y2*y3 - y1*x2*y2*y2*x3 + y1*x2*x2*y2*y3 + y1*x2*x2*x2*x3 - y1*y1*y1*y2*y3 - y1*y1*y1*x2*x3 - x1*y2*y2*y2*x3 - x1*x2*y2*y2*y3 + x1*x2*x2*y2*x3 + x1*x2*x2*x2*y3 - x1*y1*y1*y2*x3 - x1*y1*y1*x2*y3 + x1*x1*y1*y2*y3 + x1*x1*y1*x2*x3 + x1*x1*x1*y2*x3 + x1*x1*x1*x2*y3 + y1*y1*y1*y2*y2*y2*y3 + y1*y1*y1*x2*y2*y2*x3 - y1*y1*y1*x2*x2*y2*y3 - y1*y1*y1*x2*x2*x2*x3 + x1*y1*y1*y2*y2*y2*x3 + x1*y1*y1*x2*y2*y2*y3 - x1*y1*y1*x2*x2*y2*x3 - x1*y1*y1*x2*x2*x2*y3 - x1*x1*y1*y2*y2*y2*y3 - x1*x1*y1*x2*y2*y2*x3 + x1*x1*y1*x2*x2*y2*y3 + x1*x1*y1*x2*x2*x2*x3 - x1*x1*x1*y2*y2*y2*x3 - x1*x1*x1*x2*y2*y2*y3 + x1*x1*x1*x2*x2*y2*x3 + x1*x1*x1*x2*x2*x2*y3 + x1*y1*y1*x2*y2*y2*y3*d - x1*y1*y1*x2*x2*y2*x3*d - x1*x1*y1*x2*y2*y2*x3*d + x1*x1*y1*x2*x2*y2*y3*d) * (d*x3*x3*y3*y3 - (y3*y3 - x3*x3 - 1)) := by grobner
theorem onC_zero {x y : F} (h : OnC x y) : dC*x*x*y*y - (y*y - x*x - 1) = 0 := by unfold OnC at h; rw [h]; grind
theorem clo_lift {a b X Y x y d : F} (ha : a ≠ 0) (hb : b ≠ 0) (hx : x * a = X) (hy : y * b = Y) (h : Y * Y * (a * a) - X * X * (b * b) - a * a * (b * b) - d * (X * X) * (Y * Y) = 0) : d * x * x * y * y = y * y - x * x - 1 := by
  subst hx hy
  have e : (a * b) * (a * b) * (y * y - x * x - 1 - d * x * x * y * y) = 0 := by grind
  rcases mul_eq_zero' e with e1 | e1
  · exact absurd e1 (mul_ne0 (mul_ne0 ha hb) (mul_ne0 ha hb))
  · grind
theorem add_on {x1 y1 x2 y2 : F} (h1 : OnC x1 y1) (h2 : OnC x2 y2) : OnC (addX x1 y1 x2 y2) (addY x1 y1 x2 y2) := by
  refine clo_lift (den_add h1 h2) (den_sub h1 h2) (addX_eq h1 h2) (addY_eq h1 h2) ?_
  have e := clo_id x1 y1 x2 y2 dC
  rw [onC_zero h1, onC_zero h2, mzF, mzF, azF] at e
  exact e
/-- A sum of a sum, over common denominators. -/
theorem two_lift {a b X Y x y u v s e w : F} (hx : x * a = X) (hy : y * b = Y) (hs : s * (1 + e * x * u * y * v) = x * v + u * y) : s * (a * b + e * X * u * Y * v) = X * v * b + u * Y * a := by
  subst hx hy
  have : s * (a * b + e * (x * a) * u * (y * b) * v) = s * (1 + e * x * u * y * v) * (a * b) := by grind
  rw [this, hs]; grind
theorem two_lift' {a b X Y x y u v s e w : F} (hx : x * a = X) (hy : y * b = Y) (hs : s * (1 - e * x * u * y * v) = y * v + x * u) : s * (a * b - e * X * u * Y * v) = Y * v * a + X * u * b := by
  subst hx hy
  have : s * (a * b - e * (x * a) * u * (y * b) * v) = s * (1 - e * x * u * y * v) * (a * b) := by grind
  rw [this, hs]; grind
theorem ne_lift {a b X Y x y u v e : F} (ha : a ≠ 0) (hb : b ≠ 0) (hx : x * a = X) (hy : y * b = Y) (h : 1 + e * x * u * y * v ≠ 0) : a * b + e * X * u * Y * v ≠ 0 := by
  subst hx hy
  have : a * b + e * (x * a) * u * (y * b) * v = (a * b) * (1 + e * x * u * y * v) := by grind
  rw [this]; exact mul_ne0 (mul_ne0 ha hb) h
theorem ne_lift' {a b X Y x y u v e : F} (ha : a ≠ 0) (hb : b ≠ 0) (hx : x * a = X) (hy : y * b = Y) (h : 1 - e * x * u * y * v ≠ 0) : a * b - e * X * u * Y * v ≠ 0 := by
  subst hx hy
  have : a * b - e * (x * a) * u * (y * b) * v = (a * b) * (1 - e * x * u * y * v) := by grind
  rw [this]; exact mul_ne0 (mul_ne0 ha hb) h
theorem cross {s t N D N' D' : F} (hD : D ≠ 0) (hD' : D' ≠ 0) (hs : s * D = N) (ht : t * D' = N') (h : N * D' - N' * D = 0) : s = t := by
  subst hs ht
  have e : (D * D') * (s - t) = 0 := by grind
  rcases mul_eq_zero' e with e1 | e1
  · exact absurd e1 (mul_ne0 hD hD')
  · grind
theorem ass_x {x1 y1 x2 y2 x3 y3 : F} (h1 : OnC x1 y1) (h2 : OnC x2 y2) (h3 : OnC x3 y3) : addX (addX x1 y1 x2 y2) (addY x1 y1 x2 y2) x3 y3 = addX x1 y1 (addX x2 y2 x3 y3) (addY x2 y2 x3 y3) := by
  have h12 := add_on h1 h2
  have h23 := add_on h2 h3
  have e1 := two_lift (w := 0) (addX_eq h1 h2) (addY_eq h1 h2) (addX_eq h12 h3)
  have n1 := ne_lift (den_add h1 h2) (den_sub h1 h2) (addX_eq h1 h2) (addY_eq h1 h2) (den_add h12 h3)
  have hc : addX x1 y1 (addX x2 y2 x3 y3) (addY x2 y2 x3 y3) * (1 + dC * addX x2 y2 x3 y3 * x1 * addY x2 y2 x3 y3 * y1) = addX x2 y2 x3 y3 * y1 + x1 * addY x2 y2 x3 y3 := by
    have := addX_eq h1 h23
    have k : (1 + dC * addX x2 y2 x3 y3 * x1 * addY x2 y2 x3 y3 * y1) = 1 + dC * x1 * addX x2 y2 x3 y3 * y1 * addY x2 y2 x3 y3 := by grind
    rw [k, this]; grind
  have hd : 1 + dC * addX x2 y2 x3 y3 * x1 * addY x2 y2 x3 y3 * y1 ≠ 0 := by
    have k : (1 + dC * addX x2 y2 x3 y3 * x1 * addY x2 y2 x3 y3 * y1) = 1 + dC * x1 * addX x2 y2 x3 y3 * y1 * addY x2 y2 x3 y3 := by grind
    rw [k]; exact den_add h1 h23
  have e2 := two_lift (w := 0) (addX_eq h2 h3) (addY_eq h2 h3) hc
  have n2 := ne_lift (den_add h2 h3) (den_sub h2 h3) (addX_eq h2 h3) (addY_eq h2 h3) hd
  refine cross n1 n2 e1 e2 ?_
  have key := assX_id x1 y1 x2 y2 x3 y3 dC
  rw [onC_zero h1, onC_zero h2, onC_zero h3] at key
  generalize addX (addX x1 y1 x2 y2) (addY x1 y1 x2 y2) x3 y3 = s at *
  clear e1 e2 n1 n2 hc hd h12 h23
  rw [mzF, mzF, mzF, azF, azF] at key
  refine Eq.trans ?_ key
  grind
theorem ass_y {x1 y1 x2 y2 x3 y3 : F} (h1 : OnC x1 y1) (h2 : OnC x2 y2) (h3 : OnC x3 y3) : addY (addX x1 y1 x2 y2) (addY x1 y1 x2 y2) x3 y3 = addY x1 y1 (addX x2 y2 x3 y3) (addY x2 y2 x3 y3) := by
  have h12 := add_on h1 h2
  have h23 := add_on h2 h3
  have e1 := two_lift' (w := 0) (addX_eq h1 h2) (addY_eq h1 h2) (addY_eq h12 h3)
  have n1 := ne_lift' (den_add h1 h2) (den_sub h1 h2) (addX_eq h1 h2) (addY_eq h1 h2) (den_sub h12 h3)
  have hc : addY x1 y1 (addX x2 y2 x3 y3) (addY x2 y2 x3 y3) * (1 - dC * addX x2 y2 x3 y3 * x1 * addY x2 y2 x3 y3 * y1) = addY x2 y2 x3 y3 * y1 + addX x2 y2 x3 y3 * x1 := by
    have := addY_eq h1 h23
    have k : (1 - dC * addX x2 y2 x3 y3 * x1 * addY x2 y2 x3 y3 * y1) = 1 - dC * x1 * addX x2 y2 x3 y3 * y1 * addY x2 y2 x3 y3 := by grind
    rw [k, this]; grind
  have hd : 1 - dC * addX x2 y2 x3 y3 * x1 * addY x2 y2 x3 y3 * y1 ≠ 0 := by
    have k : (1 - dC * addX x2 y2 x3 y3 * x1 * addY x2 y2 x3 y3 * y1) = 1 - dC * x1 * addX x2 y2 x3 y3 * y1 * addY x2 y2 x3 y3 := by grind
    rw [k]; exact den_sub h1 h23
  have e2 := two_lift' (w := 0) (addX_eq h2 h3) (addY_eq h2 h3) hc
  have n2 := ne_lift' (den_add h2 h3) (den_sub h2 h3) (addX_eq h2 h3) (addY_eq h2 h3) hd
  refine cross n1 n2 e1 e2 ?_
  have key := assY_id x1 y1 x2 y2 x3 y3 dC
  rw [onC_zero h1, onC_zero h2, onC_zero h3] at key
  clear e1 e2 n1 n2 hc hd h12 h23
  rw [mzF, mzF, mzF, azF, azF] at key
  refine Eq.trans ?_ key
  grind
/-! ### the group -/
structure Pt where
  x : F
  y : F
  on : OnC x y
theorem Pt.ext' {p q : Pt} (hx : p.x = q.x) (hy : p.y = q.y) : p = q := by
  cases p; cases q; simp only at hx hy; subst hx hy; rfl
theorem on_zero : OnC 0 1 := by unfold OnC; decide +kernel
def Pt.zero : Pt := ⟨0, 1, on_zero⟩
def Pt.neg (p : Pt) : Pt := ⟨-p.x, p.y, by have := p.on; unfold OnC at *; grind⟩
def Pt.add (p q : Pt) : Pt := ⟨addX p.x p.y q.x q.y, addY p.x p.y q.x q.y, add_on p.on q.on⟩
theorem Pt.add_comm (p q : Pt) : p.add q = q.add p := by
  refine Pt.ext' ?_ ?_
  · show addX .. = addX ..
    unfold addX
    have e : dC * p.x * q.x * p.y * q.y = dC * q.x * p.x * q.y * p.y := by grind
    rw [e]
    generalize finv _ = z
    grind
  · show addY .. = addY ..
    unfold addY
    have e : dC * p.x * q.x * p.y * q.y = dC * q.x * p.x * q.y * p.y := by grind
    rw [e]
    generalize finv _ = z
    grind
theorem Pt.add_assoc (p q r : Pt) : (p.add q).add r = p.add (q.add r) := Pt.ext' (ass_x p.on q.on r.on) (ass_y p.on q.on r.on)
theorem finv_one' : finv (1 : F) = 1 := by
  have := mul_finv (x := (1 : F)) (by decide +kernel)
  grind
theorem Pt.add_zero (p : Pt) : p.add Pt.zero = p := by
  refine Pt.ext' ?_ ?_
  · show (p.x * 1 + 0 * p.y) * finv (1 + dC * p.x * 0 * p.y * 1) = p.x
    rw [mzF (dC * p.x), zmF p.y, zmF, azF, azF, finv_one', m1F, m1F]
  · show (p.y * 1 + p.x * 0) * finv (1 - dC * p.x * 0 * p.y * 1) = p.y
    rw [mzF (dC * p.x), zmF p.y, zmF, szF, finv_one', mzF, azF, m1F, m1F]
theorem Pt.zero_add (p : Pt) : Pt.zero.add p = p := by rw [Pt.add_comm, Pt.add_zero]
theorem Pt.add_neg (p : Pt) : p.add p.neg = Pt.zero := by
  have hp := p.on
  refine Pt.ext' ?_ ?_
  · show (p.x * p.y + -p.x * p.y) * finv _ = 0
    generalize finv _ = z
    grind
  · have := addY_eq p.on p.neg.on
    have h2 := den_sub p.on p.neg.on
    show addY p.x p.y p.neg.x p.neg.y = 1
    have e : addY p.x p.y p.neg.x p.neg.y * (1 - dC * p.x * p.neg.x * p.y * p.neg.y) = 1 * (1 - dC * p.x * p.neg.x * p.y * p.neg.y) := by
      rw [this]
      show p.y * p.y + p.x * -p.x = 1 * (1 - dC * p.x * -p.x * p.y * p.y)
      unfold OnC at hp
      grind
    have e2 : (1 - dC * p.x * p.neg.x * p.y * p.neg.y) * (addY p.x p.y p.neg.x p.neg.y - 1) = 0 := by grind
    rcases mul_eq_zero' e2 with e3 | e3
    · exact absurd e3 h2
    · grind
def Pt.nsmul : Nat → Pt → Pt
  | 0, _ => Pt.zero
  | n + 1, p => (Pt.nsmul n p).add p
end Go.Proofs.YtolmkbojlpplfaaDoor

/- Points of bytes and told by bytes, in plain words: which bytes are a point's, which point they are, and that a point's bytes tell it. No condition. -/
namespace Go.Proofs.YtolmkbojlpplfaaDoor
open Go
set_option linter.unusedVariables false
set_option linter.unusedSimpArgs false

theorem sq_w' {A : F} (h : A ≠ 0) : fpow (A * A) E2 * fpow (A * A) E2 = 1 := by
  have e : E2 + E2 + (E2 + E2) = P - 1 := by decide
  rw [fpow_mul_base, ← fpow_add, ← fpow_add, e]
  exact fermatF h
theorem onC_iff {x y : F} : OnC x y ↔ x * x * (dC * (y * y) + 1) = y * y - 1 := by
  unfold OnC
  constructor
  · intro h
    have : x * x * (dC * (y * y) + 1) = dC * x * x * y * y + x * x := by grind
    rw [this, h]; grind
  · intro h
    have : dC * x * x * y * y = x * x * (dC * (y * y) + 1) - x * x := by grind
    rw [this, h]; grind
/-- d y y + 1 is never 0. -/
theorem v_ne (y : F) : dC * (y * y) + 1 ≠ 0 := fun h => by
  have hy : y ≠ 0 := fun e => by
    rw [e, mzF, mzF] at h
    exact absurd h (by decide +kernel)
  have hf := mul_finv hy
  refine dC_nonsq (iC * finv y) ?_
  have h1 : dC * (y * y) = -1 := by grind
  have h2 : iC * finv y * (iC * finv y) = iC * iC * (finv y * finv y) := by grind
  rw [h2, iC_sq, ← h1]
  generalize finv y = z at *
  grind
theorem onC_neg {x y : F} (h : OnC x y) : OnC (-x) y := by unfold OnC at *; grind
theorem onC_abs {x y : F} (h : OnC x y) : OnC (absF x) y := by
  rcases absF_or x with e | e
  · rw [e]; exact h
  · rw [e]; exact onC_neg h
theorem onC_two {x x' y : F} (h : OnC x y) (h' : OnC x' y) : absF x = absF x' := by
  refine absF_sq ?_
  have h1 := onC_iff.1 h
  have h2 := onC_iff.1 h'
  have hv := v_ne y
  have e : (dC * (y * y) + 1) * (x * x - x' * x') = 0 := by
    have : (dC * (y * y) + 1) * (x * x - x' * x') = x * x * (dC * (y * y) + 1) - x' * x' * (dC * (y * y) + 1) := by grind
    rw [this, h1, h2]; grind
  rcases mul_eq_zero' e with e1 | e1
  · exact absurd e1 hv
  · grind

/-! ### which bytes are a point's -/
open Classical in
/-- Whether there is a point with the y that these bytes tell. -/
noncomputable def ptB (n : Nat) : Bool := decide (∃ x, OnC x (inF n))
open Classical in
theorem ptB_iff {n : Nat} : ptB n = true ↔ ∃ x, OnC x (inF n) := by
  unfold ptB
  exact ⟨fun h => of_decide_eq_true h, fun h => decide_eq_true h⟩
def bitN (n : Nat) : Bool := n.testBit 255
open Classical in
noncomputable def rootN (n : Nat) : F := if h : ∃ x, OnC x (inF n) then h.choose else 0
theorem rootN_on {n : Nat} (h : ptB n = true) : OnC (rootN n) (inF n) := by
  have h1 := ptB_iff.1 h
  unfold rootN
  rw [dif_pos h1]
  exact h1.choose_spec
noncomputable def decX (n : Nat) : F := if bitN n then -absF (rootN n) else absF (rootN n)
theorem decX_on {n : Nat} (h : ptB n = true) : OnC (decX n) (inF n) := by
  unfold decX
  split
  · exact onC_neg (onC_abs (rootN_on h))
  · exact onC_abs (rootN_on h)
theorem decX_eq {n : Nat} {x : F} (h : OnC x (inF n)) : decX n = if bitN n then -absF x else absF x := by
  unfold decX
  rw [onC_two (rootN_on (ptB_iff.2 ⟨x, h⟩)) h]
/-- The point that bytes are. -/
noncomputable def decP (n : Nat) : Pt := if h : ptB n = true then ⟨decX n, inF n, decX_on h⟩ else Pt.zero
theorem decP_x {n : Nat} (h : ptB n = true) : (decP n).x = decX n := by unfold decP; rw [dif_pos h]
theorem decP_y {n : Nat} (h : ptB n = true) : (decP n).y = inF n := by unfold decP; rw [dif_pos h]

/-! ### telling a point -/
def encF (x y : F) : Nat := y.val + 57896044618658097711785492504343953926634992332820282019728792003956564819968 * (x.val % 2)
theorem encF_lt (x y : F) : encF x y < W4 := by
  have := y.isLt
  unfold P at this
  unfold encF W4
  omega
theorem encF_inF (x y : F) : inF (encF x y) = y := by
  have h := y.isLt
  have h2 := inF_val y
  unfold inF at h2 ⊢
  rw [← h2]
  congr 1
  unfold P at h
  unfold encF
  rw [h2]
  omega
theorem encF_bit (x y : F) : bitN (encF x y) = decide (x.val % 2 = 1) := by
  have h := y.isLt
  unfold P at h
  unfold bitN
  rw [Nat.testBit_eq_decide_div_mod_eq, decide_eq_decide]
  unfold encF
  simp only [Nat.reducePow]
  omega
theorem absF_par {x : F} : (if x.val % 2 = 1 then -absF x else absF x) = x := by
  by_cases h : x.val % 2 = 1
  · rw [if_pos h, absF_odd h]; exact neg_negF x
  · rw [if_neg h]; exact absF_of_even (by omega)
theorem ptB_enc (p : Pt) : ptB (encF p.x p.y) = true := ptB_iff.2 ⟨p.x, by rw [encF_inF]; exact p.on⟩
/-- What a point is told by is that point. -/
theorem dec_enc (p : Pt) : decP (encF p.x p.y) = p := by
  have h := ptB_enc p
  refine Pt.ext' ?_ ?_
  · rw [decP_x h, decX_eq (x := p.x) (by rw [encF_inF]; exact p.on), encF_bit]
    simp only [decide_eq_true_eq]
    exact absF_par
  · rw [decP_y h, encF_inF]
theorem enc_inj {p q : Pt} : encF p.x p.y = encF q.x q.y ↔ p = q := by
  constructor
  · intro h
    have := congrArg decP h
    rwa [dec_enc, dec_enc] at this
  · rintro rfl; rfl
/-- A point is equal to another just if it is by a common denominator. -/
theorem pt_eq_frac {p q : Pt} {x y z x' y' z' : F} (hz : z ≠ 0) (hz' : z' ≠ 0) (hx : p.x * z = x) (hy : p.y * z = y) (hx' : q.x * z' = x') (hy' : q.y * z' = y') : (x * z' = x' * z ∧ y * z' = y' * z) ↔ p = q := by
  constructor
  · rintro ⟨h1, h2⟩
    subst hx hy hx' hy'
    have can : ∀ a b : F, a * z * z' = b * z' * z → a = b := fun a b h => by
      have e : (z * z') * (a - b) = 0 := by grind
      rcases mul_eq_zero' e with e1 | e1
      · exact absurd e1 (mul_ne0 hz hz')
      · grind
    exact Pt.ext' (can _ _ h1) (can _ _ h2)
  · rintro rfl
    subst hx hy hx' hy'
    constructor <;> grind
theorem pt_ne (p : Pt) : ¬ (p.x = 0 ∧ p.y = 0) := fun ⟨h1, h2⟩ => by
  have := p.on
  unfold OnC at this
  rw [h1, h2, mzF, mzF] at this
  exact absurd this (by decide +kernel)

/-! ### what the code's root gives -/
/-- Where the root that the code takes is one: the point. -/
theorem way_on {y r : F} (h : r * r = (y * y - 1) * finv (dC * (y * y) + 1)) : OnC r y := by
  refine onC_iff.2 ?_
  have hf := mul_finv (v_ne y)
  rw [h]
  generalize finv (dC * (y * y) + 1) = z at *
  generalize dC * (y * y) + 1 = v at *
  grind
theorem way_none {y : F} (hu : y * y - 1 ≠ 0) (hW : fpow ((y * y - 1) * finv (dC * (y * y) + 1)) E2 = iC ∨ fpow ((y * y - 1) * finv (dC * (y * y) + 1)) E2 = -iC) : ¬ ∃ x, OnC x y := by
  rintro ⟨x, hx⟩
  have h1 := onC_iff.1 hx
  have hf := mul_finv (v_ne y)
  have hq : (y * y - 1) * finv (dC * (y * y) + 1) = x * x := by
    rw [← h1]
    generalize finv (dC * (y * y) + 1) = z at *
    generalize dC * (y * y) + 1 = v at *
    grind
  have hx0 : x ≠ 0 := fun e => by
    rw [e, mzF, zmF] at h1
    exact hu h1.symm
  have h2 := sq_w' hx0
  rw [hq] at hW
  rcases hW with h | h
  · rw [h, iC_sq] at h2
    exact one_ne_neg h2.symm
  · rw [h] at h2
    exact one_ne_neg ((show -iC * -iC = -1 by decide +kernel).symm.trans h2).symm
end Go.Proofs.YtolmkbojlpplfaaDoor
