/- The plain laws of reading 32 bytes into five limbs, and of reducing five limbs below the prime. Conditions: the limbs' bounds. -/
import Derived.Test.YtpaidbefbkokfaaDoorE5
namespace Go.Proofs.YtpaidbefbkokfaaDoor
set_option linter.unusedVariables false
set_option linter.unusedSimpArgs false

/-- SetBytes's limbs. -/
def sbL (n : Int) : E5 :=
  ⟨n % 2251799813685248, n / 2251799813685248 % 2251799813685248, n / 5070602400912917605986812821504 % 2251799813685248, n / 11417981541647679048466287755595961091061972992 % 2251799813685248, n / 25711008708143844408671393477458601640355247900524685364822016 % 2251799813685248⟩
theorem sbL_lt (n : Int) : (sbL n).lt 2251799813685248 := by
  constructor <;> simp only [sbL] <;> omega
theorem sbL_ev (n : Int) : (sbL n).ev = n % 57896044618658097711785492504343953926634992332820282019728792003956564819968 := by
  simp only [sbL, E5.ev]
  omega

/-- reduce's limbs, of limbs that are carried. -/
def rdC (m : E5) : Int := (m.a4 + (m.a3 + (m.a2 + (m.a1 + (m.a0 + 19) / 2251799813685248) / 2251799813685248) / 2251799813685248) / 2251799813685248) / 2251799813685248
def rdL (m : E5) : E5 :=
  ⟨(m.a0 + 19 * rdC m) % 2251799813685248, (m.a1 + (m.a0 + 19 * rdC m) / 2251799813685248) % 2251799813685248, (m.a2 + (m.a1 + (m.a0 + 19 * rdC m) / 2251799813685248) / 2251799813685248) % 2251799813685248,
   (m.a3 + (m.a2 + (m.a1 + (m.a0 + 19 * rdC m) / 2251799813685248) / 2251799813685248) / 2251799813685248) % 2251799813685248,
   (m.a4 + (m.a3 + (m.a2 + (m.a1 + (m.a0 + 19 * rdC m) / 2251799813685248) / 2251799813685248) / 2251799813685248) / 2251799813685248) % 2251799813685248⟩
theorem rdL_lt (m : E5) : (rdL m).lt 2251799813685248 := by
  constructor <;> simp only [rdL] <;> omega
theorem rdC_eq (m : E5) : rdC m = (m.ev + 19) / 57896044618658097711785492504343953926634992332820282019728792003956564819968 := by
  obtain ⟨l0, l1, l2, l3, l4⟩ := m
  simp only [rdC, E5.ev]
  omega
theorem rdL_ev' (m : E5) : (rdL m).ev = (m.ev + 19 * rdC m) % 57896044618658097711785492504343953926634992332820282019728792003956564819968 := by
  obtain ⟨l0, l1, l2, l3, l4⟩ := m
  simp only [rdL]
  generalize rdC _ = c
  simp only [E5.ev]
  omega
theorem ev_bd (m : E5) (h : m.lt 2251799813840896) : 0 ≤ m.ev ∧ m.ev < 115792089237316195423570985008687907853269984665640564039457584007913129639898 := by
  obtain ⟨l0, l1, l2, l3, l4⟩ := m
  obtain ⟨h0, h1, h2, h3, h4, k0, k1, k2, k3, k4⟩ := h
  simp only at h0 h1 h2 h3 h4 k0 k1 k2 k3 k4
  simp only [E5.ev]
  omega
theorem rdL_ev (m : E5) (h : m.lt 2251799813840896) : (rdL m).ev = m.ev % 57896044618658097711785492504343953926634992332820282019728792003956564819949 := by
  have h1 := ev_bd m h
  rw [rdL_ev', rdC_eq]
  generalize m.ev = V at *
  have hc : (V + 19) / 57896044618658097711785492504343953926634992332820282019728792003956564819968 = 0 ∨ (V + 19) / 57896044618658097711785492504343953926634992332820282019728792003956564819968 = 1 := by omega
  rcases hc with hc | hc <;> rw [hc] <;> omega
/-- What an element is told by: the number below the prime. -/
theorem rdL_cpL (l : E5) (h : l.lt 18446744073709551616) : (rdL (cpL l)).ev = (l.fe.val : Int) := by
  rw [rdL_ev _ (cpL_lt l h), ← cpL_F l]
  unfold E5.fe
  rw [toF_val]
  rfl
theorem fe_bd (x : F) : 0 ≤ (x.val : Int) ∧ (x.val : Int) < 57896044618658097711785492504343953926634992332820282019728792003956564819949 := by
  have := x.isLt
  unfold P at this
  omega
end Go.Proofs.YtpaidbefbkokfaaDoor
