/- Five limbs as an element: the plain laws of carrying, squaring and multiplying. Conditions: the limbs' bounds. -/
import Derived.Test.YtpaidbefbkokfaaDoorField
namespace Go.Proofs.YtpaidbefbkokfaaDoor
set_option linter.unusedVariables false
set_option linter.unusedSimpArgs false

structure E5 where
  a0 : Int
  a1 : Int
  a2 : Int
  a3 : Int
  a4 : Int

/-- All limbs lie below B. -/
structure E5.lt (l : E5) (B : Int) : Prop where
  p0 : 0 ≤ l.a0
  p1 : 0 ≤ l.a1
  p2 : 0 ≤ l.a2
  p3 : 0 ≤ l.a3
  p4 : 0 ≤ l.a4
  q0 : l.a0 < B
  q1 : l.a1 < B
  q2 : l.a2 < B
  q3 : l.a3 < B
  q4 : l.a4 < B

/-- carryPropagate's limbs. -/
def cpL (l : E5) : E5 :=
  ⟨l.a0 % 2251799813685248 + l.a4 / 2251799813685248 * 19, l.a1 % 2251799813685248 + l.a0 / 2251799813685248, l.a2 % 2251799813685248 + l.a1 / 2251799813685248,
   l.a3 % 2251799813685248 + l.a2 / 2251799813685248, l.a4 % 2251799813685248 + l.a3 / 2251799813685248⟩

/-- The five coefficients of a product, carried twice. -/
def redL (r0 r1 r2 r3 r4 : Int) : E5 :=
  ⟨(r0 % 2251799813685248 + r4 / 2251799813685248 * 19) % 2251799813685248 + (r4 % 2251799813685248 + r3 / 2251799813685248) / 2251799813685248 * 19, (r1 % 2251799813685248 + r0 / 2251799813685248) % 2251799813685248 + (r0 % 2251799813685248 + r4 / 2251799813685248 * 19) / 2251799813685248, (r2 % 2251799813685248 + r1 / 2251799813685248) % 2251799813685248 + (r1 % 2251799813685248 + r0 / 2251799813685248) / 2251799813685248,
   (r3 % 2251799813685248 + r2 / 2251799813685248) % 2251799813685248 + (r2 % 2251799813685248 + r1 / 2251799813685248) / 2251799813685248, (r4 % 2251799813685248 + r3 / 2251799813685248) % 2251799813685248 + (r3 % 2251799813685248 + r2 / 2251799813685248) / 2251799813685248⟩
/-- feSquare's limbs. -/
def sqL : E5 → E5
  | ⟨l0, l1, l2, l3, l4⟩ => redL (l0 * l0 + 38 * (l1 * l4) + 38 * (l2 * l3)) (2 * (l0 * l1) + 38 * (l2 * l4) + 19 * (l3 * l3)) (2 * (l0 * l2) + l1 * l1 + 38 * (l3 * l4)) (2 * (l0 * l3) + 2 * (l1 * l2) + 19 * (l4 * l4)) (2 * (l0 * l4) + 2 * (l1 * l3) + l2 * l2)
/-- feMul's limbs. -/
def mulL : E5 → E5 → E5
  | ⟨a0, a1, a2, a3, a4⟩, ⟨b0, b1, b2, b3, b4⟩ => redL (a0 * b0 + 19 * (a1 * b4) + 19 * (a2 * b3) + 19 * (a3 * b2) + 19 * (a4 * b1)) (a0 * b1 + a1 * b0 + 19 * (a2 * b4) + 19 * (a3 * b3) + 19 * (a4 * b2)) (a0 * b2 + a1 * b1 + a2 * b0 + 19 * (a3 * b4) + 19 * (a4 * b3)) (a0 * b3 + a1 * b2 + a2 * b1 + a3 * b0 + 19 * (a4 * b4)) (a0 * b4 + a1 * b3 + a2 * b2 + a3 * b1 + a4 * b0)

/-- The number that five limbs are. -/
def E5.ev (l : E5) : Int := l.a0 + 2251799813685248 * l.a1 + 5070602400912917605986812821504 * l.a2 + 11417981541647679048466287755595961091061972992 * l.a3 + 25711008708143844408671393477458601640355247900524685364822016 * l.a4
def E5.fe (l : E5) : F := toF l.ev
/-- The bound that limbs keep between two calls: 2^51 + 2^38. -/
def BD : Int := 2252074691592192

theorem toF_of_add {x y k : Int} (h : x + 57896044618658097711785492504343953926634992332820282019728792003956564819949 * k = y) : toF x = toF y := by
  have : toF (x + (P : Int) * k) = toF x := toF_sub_mul x k
  rw [← this, ← h]; rfl

theorem cpL_F (l : E5) : (cpL l).fe = l.fe := by
  obtain ⟨l0, l1, l2, l3, l4⟩ := l
  unfold E5.fe
  refine toF_of_add (k := l4 / 2251799813685248) ?_
  simp only [E5.ev, cpL]
  omega
theorem cpL_lt (l : E5) (h : l.lt 18446744073709551616) : (cpL l).lt 2251799813840896 := by
  obtain ⟨l0, l1, l2, l3, l4⟩ := l
  obtain ⟨h0, h1, h2, h3, h4, k0, k1, k2, k3, k4⟩ := h
  simp only at h0 h1 h2 h3 h4 k0 k1 k2 k3 k4
  constructor <;> simp only [cpL] <;> omega
theorem E5.lt.mono {l : E5} {A B : Int} (h : l.lt A) (hAB : A ≤ B) : l.lt B := by
  obtain ⟨h0, h1, h2, h3, h4, k0, k1, k2, k3, k4⟩ := h
  exact ⟨h0, h1, h2, h3, h4, by omega, by omega, by omega, by omega, by omega⟩

theorem redL_F (r0 r1 r2 r3 r4 : Int) : (redL r0 r1 r2 r3 r4).fe = toF (r0 + 2251799813685248 * r1 + 5070602400912917605986812821504 * r2 + 11417981541647679048466287755595961091061972992 * r3 + 25711008708143844408671393477458601640355247900524685364822016 * r4) := by
  unfold E5.fe
  refine toF_of_add (k := r4 / 2251799813685248 + (r4 % 2251799813685248 + r3 / 2251799813685248) / 2251799813685248) ?_
  simp only [E5.ev, redL]
  omega
theorem redL_lt (r0 r1 r2 r3 r4 : Int) (p0 : 0 ≤ r0) (p1 : 0 ≤ r1) (p2 : 0 ≤ r2) (p3 : 0 ≤ r3) (p4 : 0 ≤ r4) (q0 : r0 < 1561745539481178622643938349023232) (q1 : r1 < 1561745539481178622643938349023232) (q2 : r2 < 1561745539481178622643938349023232) (q3 : r3 < 1561745539481178622643938349023232)
    (q4 : r4 < 101412048018258352119736256430080) : (redL r0 r1 r2 r3 r4).lt 2251799813840896 := by
  constructor <;> simp only [redL] <;> omega

theorem mbd (a b : Int) (h0 : 0 ≤ a) (h1 : 0 ≤ b) (ha : a < 4503599627370496) (hb : b < 4503599627370496) : 0 ≤ a * b ∧ a * b < 20282409603651670423947251286016 := by
  refine ⟨Int.mul_nonneg h0 h1, ?_⟩
  have := Int.mul_le_mul (show a ≤ 4503599627370495 by omega) (show b ≤ 4503599627370495 by omega) h1 (by omega)
  omega
theorem sqL_lt (l : E5) (h : l.lt 4503599627370496) : (sqL l).lt 2251799813840896 := by
  obtain ⟨l0, l1, l2, l3, l4⟩ := l
  obtain ⟨h0, h1, h2, h3, h4, k0, k1, k2, k3, k4⟩ := h
  simp only at h0 h1 h2 h3 h4 k0 k1 k2 k3 k4
  have y00 := mbd l0 l0 h0 h0 k0 k0
  have y01 := mbd l0 l1 h0 h1 k0 k1
  have y02 := mbd l0 l2 h0 h2 k0 k2
  have y03 := mbd l0 l3 h0 h3 k0 k3
  have y04 := mbd l0 l4 h0 h4 k0 k4
  have y11 := mbd l1 l1 h1 h1 k1 k1
  have y12 := mbd l1 l2 h1 h2 k1 k2
  have y13 := mbd l1 l3 h1 h3 k1 k3
  have y14 := mbd l1 l4 h1 h4 k1 k4
  have y22 := mbd l2 l2 h2 h2 k2 k2
  have y23 := mbd l2 l3 h2 h3 k2 k3
  have y24 := mbd l2 l4 h2 h4 k2 k4
  have y33 := mbd l3 l3 h3 h3 k3 k3
  have y34 := mbd l3 l4 h3 h4 k3 k4
  have y44 := mbd l4 l4 h4 h4 k4 k4
  simp only [sqL]
  apply redL_lt <;> omega
theorem mulL_lt (l m : E5) (h : l.lt 4503599627370496) (h' : m.lt 4503599627370496) : (mulL l m).lt 2251799813840896 := by
  obtain ⟨a0, a1, a2, a3, a4⟩ := l
  obtain ⟨b0, b1, b2, b3, b4⟩ := m
  obtain ⟨h0, h1, h2, h3, h4, k0, k1, k2, k3, k4⟩ := h
  obtain ⟨i0, i1, i2, i3, i4, j0, j1, j2, j3, j4⟩ := h'
  simp only at h0 h1 h2 h3 h4 k0 k1 k2 k3 k4 i0 i1 i2 i3 i4 j0 j1 j2 j3 j4
  have y00 := mbd a0 b0 h0 i0 k0 j0
  have y01 := mbd a0 b1 h0 i1 k0 j1
  have y02 := mbd a0 b2 h0 i2 k0 j2
  have y03 := mbd a0 b3 h0 i3 k0 j3
  have y04 := mbd a0 b4 h0 i4 k0 j4
  have y10 := mbd a1 b0 h1 i0 k1 j0
  have y11 := mbd a1 b1 h1 i1 k1 j1
  have y12 := mbd a1 b2 h1 i2 k1 j2
  have y13 := mbd a1 b3 h1 i3 k1 j3
  have y14 := mbd a1 b4 h1 i4 k1 j4
  have y20 := mbd a2 b0 h2 i0 k2 j0
  have y21 := mbd a2 b1 h2 i1 k2 j1
  have y22 := mbd a2 b2 h2 i2 k2 j2
  have y23 := mbd a2 b3 h2 i3 k2 j3
  have y24 := mbd a2 b4 h2 i4 k2 j4
  have y30 := mbd a3 b0 h3 i0 k3 j0
  have y31 := mbd a3 b1 h3 i1 k3 j1
  have y32 := mbd a3 b2 h3 i2 k3 j2
  have y33 := mbd a3 b3 h3 i3 k3 j3
  have y34 := mbd a3 b4 h3 i4 k3 j4
  have y40 := mbd a4 b0 h4 i0 k4 j0
  have y41 := mbd a4 b1 h4 i1 k4 j1
  have y42 := mbd a4 b2 h4 i2 k4 j2
  have y43 := mbd a4 b3 h4 i3 k4 j3
  have y44 := mbd a4 b4 h4 i4 k4 j4
  simp only [mulL]
  apply redL_lt <;> omega
theorem mulL_F (l m : E5) : (mulL l m).fe = l.fe * m.fe := by
  obtain ⟨a0, a1, a2, a3, a4⟩ := l
  obtain ⟨b0, b1, b2, b3, b4⟩ := m
  simp only [mulL]
  rw [redL_F]
  simp only [E5.fe]
  rw [← toF_mul]
  refine toF_of_add (k := a1 * b4 + a2 * b3 + 2251799813685248 * (a2 * b4) + a3 * b2 + 2251799813685248 * (a3 * b3) + 5070602400912917605986812821504 * (a3 * b4) + a4 * b1 + 2251799813685248 * (a4 * b2) + 5070602400912917605986812821504 * (a4 * b3) + 11417981541647679048466287755595961091061972992 * (a4 * b4)) ?_
  simp only [E5.ev]
  grind
theorem sqL_F (l : E5) : (sqL l).fe = l.fe * l.fe := by
  obtain ⟨l0, l1, l2, l3, l4⟩ := l
  simp only [sqL]
  rw [redL_F]
  simp only [E5.fe]
  rw [← toF_mul]
  refine toF_of_add (k := l1 * l4 + l2 * l3 + 2251799813685248 * (l2 * l4) + l3 * l2 + 2251799813685248 * (l3 * l3) + 5070602400912917605986812821504 * (l3 * l4) + l4 * l1 + 2251799813685248 * (l4 * l2) + 5070602400912917605986812821504 * (l4 * l3) + 11417981541647679048466287755595961091061972992 * (l4 * l4)) ?_
  simp only [E5.ev]
  grind
end Go.Proofs.YtpaidbefbkokfaaDoor
