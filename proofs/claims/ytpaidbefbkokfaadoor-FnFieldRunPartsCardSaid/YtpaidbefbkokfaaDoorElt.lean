/- Elements as limbs that keep their bound: the operations and what they are in the field. No condition. -/
import Derived.Test.YtpaidbefbkokfaaDoorRed
namespace Go.Proofs.YtpaidbefbkokfaaDoor
set_option linter.unusedVariables false
set_option linter.unusedSimpArgs false

/-- Five limbs below 2^51 + 2^38. -/
abbrev Elt := { l : E5 // l.lt BD }
def E5.at (l : E5) : Nat → Int
  | 0 => l.a0
  | 1 => l.a1
  | 2 => l.a2
  | 3 => l.a3
  | _ => l.a4
def Elt.fe (a : Elt) : F := a.1.fe
theorem Elt.lt64 (a : Elt) : a.1.lt 18446744073709551616 := a.2.mono (by decide)
theorem Elt.lt52 (a : Elt) : a.1.lt 4503599627370496 := a.2.mono (by decide)
def mulE (a b : Elt) : Elt := ⟨mulL a.1 b.1, (mulL_lt a.1 b.1 a.lt52 b.lt52).mono (by decide)⟩
def sqE (a : Elt) : Elt := ⟨sqL a.1, (sqL_lt a.1 a.lt52).mono (by decide)⟩
def addL (a b : E5) : E5 := ⟨a.a0 + b.a0, a.a1 + b.a1, a.a2 + b.a2, a.a3 + b.a3, a.a4 + b.a4⟩
def subL (a b : E5) : E5 := ⟨a.a0 + 4503599627370458 - b.a0, a.a1 + 4503599627370494 - b.a1, a.a2 + 4503599627370494 - b.a2, a.a3 + 4503599627370494 - b.a3, a.a4 + 4503599627370494 - b.a4⟩
theorem addL_lt' (a b : E5) (ha : a.lt BD) (hb : b.lt BD) : (addL a b).lt 18446744073709551616 := by
  obtain ⟨a0, a1, a2, a3, a4⟩ := a
  obtain ⟨b0, b1, b2, b3, b4⟩ := b
  obtain ⟨h0, h1, h2, h3, h4, k0, k1, k2, k3, k4⟩ := ha
  obtain ⟨i0, i1, i2, i3, i4, j0, j1, j2, j3, j4⟩ := hb
  simp only [BD] at h0 h1 h2 h3 h4 k0 k1 k2 k3 k4 i0 i1 i2 i3 i4 j0 j1 j2 j3 j4
  constructor <;> simp only [addL] <;> omega
theorem addL_lt (a b : Elt) : (addL a.1 b.1).lt 18446744073709551616 := addL_lt' a.1 b.1 a.2 b.2
theorem subL_lt' (a b : E5) (ha : a.lt BD) (hb : b.lt BD) : (subL a b).lt 18446744073709551616 := by
  obtain ⟨a0, a1, a2, a3, a4⟩ := a
  obtain ⟨b0, b1, b2, b3, b4⟩ := b
  obtain ⟨h0, h1, h2, h3, h4, k0, k1, k2, k3, k4⟩ := ha
  obtain ⟨i0, i1, i2, i3, i4, j0, j1, j2, j3, j4⟩ := hb
  simp only [BD] at h0 h1 h2 h3 h4 k0 k1 k2 k3 k4 i0 i1 i2 i3 i4 j0 j1 j2 j3 j4
  constructor <;> simp only [subL] <;> omega
theorem subL_lt (a b : Elt) : (subL a.1 b.1).lt 18446744073709551616 := subL_lt' a.1 b.1 a.2 b.2
def addE (a b : Elt) : Elt := ⟨cpL (addL a.1 b.1), (cpL_lt _ (addL_lt a b)).mono (by decide)⟩
def subE (a b : Elt) : Elt := ⟨cpL (subL a.1 b.1), (cpL_lt _ (subL_lt a b)).mono (by decide)⟩
/-- Mult32's limbs. -/
def m32L (n : Int) (l : E5) : E5 := ⟨l.a0 * n % 2251799813685248 + 19 * (l.a4 * n / 2251799813685248), l.a1 * n % 2251799813685248 + l.a0 * n / 2251799813685248, l.a2 * n % 2251799813685248 + l.a1 * n / 2251799813685248, l.a3 * n % 2251799813685248 + l.a2 * n / 2251799813685248, l.a4 * n % 2251799813685248 + l.a3 * n / 2251799813685248⟩
theorem m32_bd {a n : Int} (h0 : 0 ≤ a) (ha : a < 2252074691592192) (n0 : 0 ≤ n) (hn : n < 4294967296) : 0 ≤ a * n ∧ a * n < 9672587151178720000000000 := by
  refine ⟨Int.mul_nonneg h0 n0, ?_⟩
  have := Int.mul_le_mul (show a ≤ 2252074691592191 by omega) (show n ≤ 4294967295 by omega) n0 (by omega)
  omega
theorem m32L_lt {n : Int} {l : E5} (n0 : 0 ≤ n) (hn : n < 4294967296) (h : l.lt BD) : (m32L n l).lt BD := by
  obtain ⟨a0, a1, a2, a3, a4⟩ := l
  obtain ⟨h0, h1, h2, h3, h4, k0, k1, k2, k3, k4⟩ := h
  simp only [BD] at h0 h1 h2 h3 h4 k0 k1 k2 k3 k4
  have y0 := m32_bd h0 k0 n0 hn
  have y1 := m32_bd h1 k1 n0 hn
  have y2 := m32_bd h2 k2 n0 hn
  have y3 := m32_bd h3 k3 n0 hn
  have y4 := m32_bd h4 k4 n0 hn
  constructor <;> simp only [m32L, BD] <;> omega
def m32E (n : Int) (a : Elt) : Elt := if h : 0 ≤ n ∧ n < 4294967296 then ⟨m32L n a.1, m32L_lt h.1 h.2 a.2⟩ else ⟨⟨0, 0, 0, 0, 0⟩, by constructor <;> decide⟩
def selE (c : Int) (a b : Elt) : Elt := if c = 1 then a else b
def sbE (n : Int) : Elt := ⟨sbL n, (sbL_lt n).mono (by decide)⟩
def zeroE : Elt := ⟨⟨0, 0, 0, 0, 0⟩, by constructor <;> decide⟩
def oneE : Elt := ⟨⟨1, 0, 0, 0, 0⟩, by constructor <;> decide⟩
def sqNE (a : Elt) : Nat → Elt
  | 0 => a
  | n + 1 => sqE (sqNE a n)
instance : Inhabited Elt := ⟨zeroE⟩

theorem mulE_fe (a b : Elt) : (mulE a b).fe = a.fe * b.fe := mulL_F a.1 b.1
theorem sqE_fe (a : Elt) : (sqE a).fe = a.fe * a.fe := sqL_F a.1
theorem addE_fe (a b : Elt) : (addE a b).fe = a.fe + b.fe := by
  show (cpL (addL a.1 b.1)).fe = _
  rw [cpL_F]
  unfold Elt.fe E5.fe
  rw [← toF_add]
  congr 1
  simp only [E5.ev, addL]; omega
theorem subE_fe (a b : Elt) : (subE a b).fe = a.fe - b.fe := by
  show (cpL (subL a.1 b.1)).fe = _
  rw [cpL_F]
  unfold Elt.fe E5.fe
  rw [← toF_sub]
  refine (toF_of_add (k := 2) ?_).symm
  simp only [E5.ev, subL]; omega
theorem m32E_fe {n : Int} (n0 : 0 ≤ n) (hn : n < 4294967296) (a : Elt) : (m32E n a).fe = a.fe * toF n := by
  unfold m32E
  rw [dif_pos ⟨n0, hn⟩]
  obtain ⟨⟨a0, a1, a2, a3, a4⟩, _⟩ := a
  unfold Elt.fe E5.fe
  rw [← toF_mul]
  refine toF_of_add (k := a4 * n / 2251799813685248) ?_
  simp only [E5.ev, m32L, Int.add_mul, Int.mul_assoc]
  generalize a0 * n = p0
  generalize a1 * n = p1
  generalize a2 * n = p2
  generalize a3 * n = p3
  generalize a4 * n = p4
  omega
theorem zeroE_fe : zeroE.fe = 0 := by decide +kernel
theorem oneE_fe : oneE.fe = 1 := by decide +kernel
theorem sbE_fe (n : Int) : (sbE n).fe = toF (n % 57896044618658097711785492504343953926634992332820282019728792003956564819968) := by
  show toF (sbL n).ev = _
  rw [sbL_ev]
theorem sqNE_fe (a : Elt) (n : Nat) : (sqNE a n).fe = fpow a.fe (2 ^ n) := by
  induction n with
  | zero => rw [Nat.pow_zero, fpow_one]; rfl
  | succ n ih => rw [Nat.pow_succ, fpow_mul, fpow_two, ← ih]; exact sqE_fe _
/-- The number below the prime that an element is told by. -/
def canonE (a : Elt) : Nat := a.fe.val
end Go.Proofs.YtpaidbefbkokfaaDoor
