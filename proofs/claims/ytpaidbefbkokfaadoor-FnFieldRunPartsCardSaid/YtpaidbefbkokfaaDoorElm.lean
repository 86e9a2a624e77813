/- The field's functions over elements in memory, as rules: Multiply, Square, Add, Select. No condition. -/
import Derived.Test.YtpaidbefbkokfaaDoorWid
import Derived.Test.YtpaidbefbkokfaaDoorEl
namespace Go.Proofs.YtpaidbefbkokfaaDoor
open Go Go.RowKit Go.Lib
set_option linter.unusedVariables false
set_option linter.unusedSimpArgs false
set_option maxRecDepth 100000

theorem amS {lo hi N m lo' hi' : Int} (h1 : lo = N % 18446744073709551616) (h2 : hi = N / 18446744073709551616) (e1 : lo' = (lo + 18446744073709551616 * hi + m) % 18446744073709551616)
    (e2 : hi' = (lo + 18446744073709551616 * hi + m) / 18446744073709551616 % 18446744073709551616) (h0 : 0 ≤ N + m) (hb : N + m < 340282366920938463463374607431768211456) :
    lo' = (N + m) % 18446744073709551616 ∧ hi' = (N + m) / 18446744073709551616 := by omega
theorem m19S {a b : Int} (h0 : 0 ≤ a) (ha : a < 4503599627370496) : a * 19 % 18446744073709551616 * b = 19 * (a * b) := by
  rw [Int.emod_eq_of_lt (by omega) (by omega)]; grind
theorem m2S {a b : Int} (h0 : 0 ≤ a) (ha : a < 4503599627370496) : a * 2 % 18446744073709551616 * b = 2 * (a * b) := by
  rw [Int.emod_eq_of_lt (by omega) (by omega)]; grind
theorem m38S {a b : Int} (h0 : 0 ≤ a) (ha : a < 4503599627370496) (h1 : 0 ≤ b) (hb : b < 4503599627370496) : a * 19 % 18446744073709551616 * (b * 2 % 18446744073709551616) = 38 * (a * b) := by
  rw [Int.emod_eq_of_lt (by omega) (by omega), Int.emod_eq_of_lt (by omega) (by omega)]; grind
def mulFTr (p q : Nat) : List Ent := [.di 81 (.add (.u64)) [.x 79, .x 80], .di 80 (.shr (.u64)) [.x 63, .c 51], .di 79 (.and (.u64)) [.x 65, .c 2251799813685247], .di 78 (.add (.u64)) [.x 76, .x 77], .di 77 (.shr (.u64)) [.x 61, .c 51], .di 76 (.and (.u64)) [.x 63, .c 2251799813685247], .di 75 (.add (.u64)) [.x 73, .x 74], .di 74 (.shr (.u64)) [.x 59, .c 51], .di 73 (.and (.u64)) [.x 61, .c 2251799813685247], .di 72 (.add (.u64)) [.x 70, .x 71], .di 71 (.shr (.u64)) [.x 57, .c 51], .di 70 (.and (.u64)) [.x 59, .c 2251799813685247], .di 69 (.add (.u64)) [.x 66, .x 68], .di 68 (.m19) [.x 67], .di 67 (.shr (.u64)) [.x 65, .c 51], .di 66 (.and (.u64)) [.x 57, .c 2251799813685247], .di 65 (.add (.u64)) [.x 64, .x 53], .di 64 (.and (.u64)) [.x 48, .c 2251799813685247], .di 63 (.add (.u64)) [.x 62, .x 52], .di 62 (.and (.u64)) [.x 38, .c 2251799813685247], .di 61 (.add (.u64)) [.x 60, .x 51], .di 60 (.and (.u64)) [.x 28, .c 2251799813685247], .di 59 (.add (.u64)) [.x 58, .x 50], .di 58 (.and (.u64)) [.x 18, .c 2251799813685247], .di 57 (.add (.u64)) [.x 55, .x 56], .di 56 (.m19) [.x 54], .di 55 (.and (.u64)) [.x 8, .c 2251799813685247], .di 54 (.s51) [.x 48, .x 49], .di 53 (.s51) [.x 38, .x 39], .di 52 (.s51) [.x 28, .x 29], .di 51 (.s51) [.x 18, .x 19], .di 50 (.s51) [.x 8, .x 9], .di 49 (.amHi) [.x 46, .x 47, .l p 4, .l q 0], .di 48 (.amLo) [.x 46, .x 47, .l p 4, .l q 0], .di 47 (.amHi) [.x 44, .x 45, .l p 3, .l q 1], .di 46 (.amLo) [.x 44, .x 45, .l p 3, .l q 1], .di 45 (.amHi) [.x 42, .x 43, .l p 2, .l q 2], .di 44 (.amLo) [.x 42, .x 43, .l p 2, .l q 2], .di 43 (.amHi) [.x 40, .x 41, .l p 1, .l q 3], .di 42 (.amLo) [.x 40, .x 41, .l p 1, .l q 3], .di 41 (.mulHi) [.l p 0, .l q 4], .di 40 (.mulLo) [.l p 0, .l q 4], .di 39 (.am19Hi) [.x 36, .x 37, .l p 4, .l q 4], .di 38 (.am19Lo) [.x 36, .x 37, .l p 4, .l q 4], .di 37 (.amHi) [.x 34, .x 35, .l p 3, .l q 0], .di 36 (.amLo) [.x 34, .x 35, .l p 3, .l q 0], .di 35 (.amHi) [.x 32, .x 33, .l p 2, .l q 1], .di 34 (.amLo) [.x 32, .x 33, .l p 2, .l q 1], .di 33 (.amHi) [.x 30, .x 31, .l p 1, .l q 2], .di 32 (.amLo) [.x 30, .x 31, .l p 1, .l q 2], .di 31 (.mulHi) [.l p 0, .l q 3], .di 30 (.mulLo) [.l p 0, .l q 3], .di 29 (.am19Hi) [.x 26, .x 27, .l p 4, .l q 3], .di 28 (.am19Lo) [.x 26, .x 27, .l p 4, .l q 3], .di 27 (.am19Hi) [.x 24, .x 25, .l p 3, .l q 4], .di 26 (.am19Lo) [.x 24, .x 25, .l p 3, .l q 4], .di 25 (.amHi) [.x 22, .x 23, .l p 2, .l q 0], .di 24 (.amLo) [.x 22, .x 23, .l p 2, .l q 0], .di 23 (.amHi) [.x 20, .x 21, .l p 1, .l q 1], .di 22 (.amLo) [.x 20, .x 21, .l p 1, .l q 1], .di 21 (.mulHi) [.l p 0, .l q 2], .di 20 (.mulLo) [.l p 0, .l q 2], .di 19 (.am19Hi) [.x 16, .x 17, .l p 4, .l q 2], .di 18 (.am19Lo) [.x 16, .x 17, .l p 4, .l q 2], .di 17 (.am19Hi) [.x 14, .x 15, .l p 3, .l q 3], .di 16 (.am19Lo) [.x 14, .x 15, .l p 3, .l q 3], .di 15 (.am19Hi) [.x 12, .x 13, .l p 2, .l q 4], .di 14 (.am19Lo) [.x 12, .x 13, .l p 2, .l q 4], .di 13 (.amHi) [.x 10, .x 11, .l p 1, .l q 0], .di 12 (.amLo) [.x 10, .x 11, .l p 1, .l q 0], .di 11 (.mulHi) [.l p 0, .l q 1], .di 10 (.mulLo) [.l p 0, .l q 1], .di 9 (.am19Hi) [.x 6, .x 7, .l p 4, .l q 1], .di 8 (.am19Lo) [.x 6, .x 7, .l p 4, .l q 1], .di 7 (.am19Hi) [.x 4, .x 5, .l p 3, .l q 2], .di 6 (.am19Lo) [.x 4, .x 5, .l p 3, .l q 2], .di 5 (.am19Hi) [.x 2, .x 3, .l p 2, .l q 3], .di 4 (.am19Lo) [.x 2, .x 3, .l p 2, .l q 3], .di 3 (.am19Hi) [.x 0, .x 1, .l p 1, .l q 4], .di 2 (.am19Lo) [.x 0, .x 1, .l p 1, .l q 4], .di 1 (.mulHi) [.l p 0, .l q 0], .di 0 (.mulLo) [.l p 0, .l q 0]]
def mulF_012_ms : Ms := ⟨[⟨[.int .u64 (.x 69), .int .u64 (.x 72), .int .u64 (.x 75), .int .u64 (.x 78), .int .u64 (.x 81)], true⟩, ⟨[.int .u64 (.l 1 0), .int .u64 (.l 1 1), .int .u64 (.l 1 2), .int .u64 (.l 1 3), .int .u64 (.l 1 4)], false⟩, ⟨[.int .u64 (.l 2 0), .int .u64 (.l 2 1), .int .u64 (.l 2 2), .int .u64 (.l 2 3), .int .u64 (.l 2 4)], false⟩, ⟨[.int .u64 (.x 8), .int .u64 (.x 9)], true⟩, ⟨[.int .u64 (.x 18), .int .u64 (.x 19)], true⟩, ⟨[.int .u64 (.x 28), .int .u64 (.x 29)], true⟩, ⟨[.int .u64 (.x 38), .int .u64 (.x 39)], true⟩, ⟨[.int .u64 (.x 48), .int .u64 (.x 49)], true⟩], mulFTr 1 2, 82, 0, 3, 0, [], []⟩
theorem mulF_012_run : runOk (body tabW 3 14) (msE [0, 1, 2] 3 0) (argsE [0, 1, 2] []) (.ptr 0 0) mulF_012_ms := ⟨by kernel_rfl, by kernel_rfl, by kernel_rfl, by kernel_rfl⟩
def mulF_001_ms : Ms := ⟨[⟨[.int .u64 (.x 69), .int .u64 (.x 72), .int .u64 (.x 75), .int .u64 (.x 78), .int .u64 (.x 81)], true⟩, ⟨[.int .u64 (.l 1 0), .int .u64 (.l 1 1), .int .u64 (.l 1 2), .int .u64 (.l 1 3), .int .u64 (.l 1 4)], false⟩, ⟨[.int .u64 (.x 8), .int .u64 (.x 9)], true⟩, ⟨[.int .u64 (.x 18), .int .u64 (.x 19)], true⟩, ⟨[.int .u64 (.x 28), .int .u64 (.x 29)], true⟩, ⟨[.int .u64 (.x 38), .int .u64 (.x 39)], true⟩, ⟨[.int .u64 (.x 48), .int .u64 (.x 49)], true⟩], mulFTr 0 1, 82, 0, 2, 0, [], []⟩
theorem mulF_001_run : runOk (body tabW 3 14) (msE [0, 0, 1] 2 0) (argsE [0, 0, 1] []) (.ptr 0 0) mulF_001_ms := ⟨by kernel_rfl, by kernel_rfl, by kernel_rfl, by kernel_rfl⟩
def mulF_010_ms : Ms := ⟨[⟨[.int .u64 (.x 69), .int .u64 (.x 72), .int .u64 (.x 75), .int .u64 (.x 78), .int .u64 (.x 81)], true⟩, ⟨[.int .u64 (.l 1 0), .int .u64 (.l 1 1), .int .u64 (.l 1 2), .int .u64 (.l 1 3), .int .u64 (.l 1 4)], false⟩, ⟨[.int .u64 (.x 8), .int .u64 (.x 9)], true⟩, ⟨[.int .u64 (.x 18), .int .u64 (.x 19)], true⟩, ⟨[.int .u64 (.x 28), .int .u64 (.x 29)], true⟩, ⟨[.int .u64 (.x 38), .int .u64 (.x 39)], true⟩, ⟨[.int .u64 (.x 48), .int .u64 (.x 49)], true⟩], mulFTr 1 0, 82, 0, 2, 0, [], []⟩
theorem mulF_010_run : runOk (body tabW 3 14) (msE [0, 1, 0] 2 0) (argsE [0, 1, 0] []) (.ptr 0 0) mulF_010_ms := ⟨by kernel_rfl, by kernel_rfl, by kernel_rfl, by kernel_rfl⟩
def mulF_011_ms : Ms := ⟨[⟨[.int .u64 (.x 69), .int .u64 (.x 72), .int .u64 (.x 75), .int .u64 (.x 78), .int .u64 (.x 81)], true⟩, ⟨[.int .u64 (.l 1 0), .int .u64 (.l 1 1), .int .u64 (.l 1 2), .int .u64 (.l 1 3), .int .u64 (.l 1 4)], false⟩, ⟨[.int .u64 (.x 8), .int .u64 (.x 9)], true⟩, ⟨[.int .u64 (.x 18), .int .u64 (.x 19)], true⟩, ⟨[.int .u64 (.x 28), .int .u64 (.x 29)], true⟩, ⟨[.int .u64 (.x 38), .int .u64 (.x 39)], true⟩, ⟨[.int .u64 (.x 48), .int .u64 (.x 49)], true⟩], mulFTr 1 1, 82, 0, 2, 0, [], []⟩
theorem mulF_011_run : runOk (body tabW 3 14) (msE [0, 1, 1] 2 0) (argsE [0, 1, 1] []) (.ptr 0 0) mulF_011_ms := ⟨by kernel_rfl, by kernel_rfl, by kernel_rfl, by kernel_rfl⟩
def mulF_000_ms : Ms := ⟨[⟨[.int .u64 (.x 69), .int .u64 (.x 72), .int .u64 (.x 75), .int .u64 (.x 78), .int .u64 (.x 81)], true⟩, ⟨[.int .u64 (.x 8), .int .u64 (.x 9)], true⟩, ⟨[.int .u64 (.x 18), .int .u64 (.x 19)], true⟩, ⟨[.int .u64 (.x 28), .int .u64 (.x 29)], true⟩, ⟨[.int .u64 (.x 38), .int .u64 (.x 39)], true⟩, ⟨[.int .u64 (.x 48), .int .u64 (.x 49)], true⟩], mulFTr 0 0, 82, 0, 1, 0, [], []⟩
theorem mulF_000_run : runOk (body tabW 3 14) (msE [0, 0, 0] 1 0) (argsE [0, 0, 0] []) (.ptr 0 0) mulF_000_ms := ⟨by kernel_rfl, by kernel_rfl, by kernel_rfl, by kernel_rfl⟩
set_option maxHeartbeats 4000000 in
theorem mulF_math (ρ : Env) (ns : List Int) (p q : Nat) (_ : fits [] ns) (_ : True) (_ : ∀ (j : Nat) m, ns[j]? = some m → ρ.i j = m) (hd : Defs ρ (mulFTr p q)) :
    List.map (Sx.val ρ) [.x 69, .x 72, .x 75, .x 78, .x 81] = [(Fe.sem .mul [ρ.e p, ρ.e q] ns []).1.at 0, (Fe.sem .mul [ρ.e p, ρ.e q] ns []).1.at 1, (Fe.sem .mul [ρ.e p, ρ.e q] ns []).1.at 2, (Fe.sem .mul [ρ.e p, ρ.e q] ns []).1.at 3, (Fe.sem .mul [ρ.e p, ρ.e q] ns []).1.at 4] := by
  simp only [mulFTr, Defs, Ent.def, Fi.sem, List.map_cons, List.map_nil, Sx.val, E5.at, wr, nbits, ub, ubN, Int.reduceToNat, Nat.min_def, Nat.reduceLeDiff, ↓reduceIte, Int.reducePow, and_true] at hd
  simp only [Fe.sem, List.map_cons, List.map_nil, Sx.val]
  generalize ρ.e p = A at *
  generalize ρ.e q = C at *
  obtain ⟨⟨a0, a1, a2, a3, a4⟩, ha0, ha1, ha2, ha3, ha4, ka0, ka1, ka2, ka3, ka4⟩ := A
  obtain ⟨⟨b0, b1, b2, b3, b4⟩, hb0, hb1, hb2, hb3, hb4, kb0, kb1, kb2, kb3, kb4⟩ := C
  simp only [BD] at ha0 ha1 ha2 ha3 ha4 ka0 ka1 ka2 ka3 ka4 hb0 hb1 hb2 hb3 hb4 kb0 kb1 kb2 kb3 kb4
  replace ka0 : a0 < 4503599627370496 := by omega
  replace ka1 : a1 < 4503599627370496 := by omega
  replace ka2 : a2 < 4503599627370496 := by omega
  replace ka3 : a3 < 4503599627370496 := by omega
  replace ka4 : a4 < 4503599627370496 := by omega
  replace kb0 : b0 < 4503599627370496 := by omega
  replace kb1 : b1 < 4503599627370496 := by omega
  replace kb2 : b2 < 4503599627370496 := by omega
  replace kb3 : b3 < 4503599627370496 := by omega
  replace kb4 : b4 < 4503599627370496 := by omega
  have y00 := mbd a0 b0 ha0 hb0 ka0 kb0
  have y01 := mbd a0 b1 ha0 hb1 ka0 kb1
  have y02 := mbd a0 b2 ha0 hb2 ka0 kb2
  have y03 := mbd a0 b3 ha0 hb3 ka0 kb3
  have y04 := mbd a0 b4 ha0 hb4 ka0 kb4
  have y10 := mbd a1 b0 ha1 hb0 ka1 kb0
  have y11 := mbd a1 b1 ha1 hb1 ka1 kb1
  have y12 := mbd a1 b2 ha1 hb2 ka1 kb2
  have y13 := mbd a1 b3 ha1 hb3 ka1 kb3
  have y14 := mbd a1 b4 ha1 hb4 ka1 kb4
  have y20 := mbd a2 b0 ha2 hb0 ka2 kb0
  have y21 := mbd a2 b1 ha2 hb1 ka2 kb1
  have y22 := mbd a2 b2 ha2 hb2 ka2 kb2
  have y23 := mbd a2 b3 ha2 hb3 ka2 kb3
  have y24 := mbd a2 b4 ha2 hb4 ka2 kb4
  have y30 := mbd a3 b0 ha3 hb0 ka3 kb0
  have y31 := mbd a3 b1 ha3 hb1 ka3 kb1
  have y32 := mbd a3 b2 ha3 hb2 ka3 kb2
  have y33 := mbd a3 b3 ha3 hb3 ka3 kb3
  have y34 := mbd a3 b4 ha3 hb4 ka3 kb4
  have y40 := mbd a4 b0 ha4 hb0 ka4 kb0
  have y41 := mbd a4 b1 ha4 hb1 ka4 kb1
  have y42 := mbd a4 b2 ha4 hb2 ka4 kb2
  have y43 := mbd a4 b3 ha4 hb3 ka4 kb3
  have y44 := mbd a4 b4 ha4 hb4 ka4 kb4
  have s00 : 0 ≤ a0 * b0 ∧ a0 * b0 < 1561745539481178622643938349023232 := by omega
  have s01 : 0 ≤ a0 * b0 + 19 * (a1 * b4) ∧ a0 * b0 + 19 * (a1 * b4) < 1561745539481178622643938349023232 := by omega
  have s02 : 0 ≤ a0 * b0 + 19 * (a1 * b4) + 19 * (a2 * b3) ∧ a0 * b0 + 19 * (a1 * b4) + 19 * (a2 * b3) < 1561745539481178622643938349023232 := by omega
  have s03 : 0 ≤ a0 * b0 + 19 * (a1 * b4) + 19 * (a2 * b3) + 19 * (a3 * b2) ∧ a0 * b0 + 19 * (a1 * b4) + 19 * (a2 * b3) + 19 * (a3 * b2) < 1561745539481178622643938349023232 := by omega
  have s04 : 0 ≤ a0 * b0 + 19 * (a1 * b4) + 19 * (a2 * b3) + 19 * (a3 * b2) + 19 * (a4 * b1) ∧ a0 * b0 + 19 * (a1 * b4) + 19 * (a2 * b3) + 19 * (a3 * b2) + 19 * (a4 * b1) < 1561745539481178622643938349023232 := by omega
  have s10 : 0 ≤ a0 * b1 ∧ a0 * b1 < 1561745539481178622643938349023232 := by omega
  have s11 : 0 ≤ a0 * b1 + a1 * b0 ∧ a0 * b1 + a1 * b0 < 1561745539481178622643938349023232 := by omega
  have s12 : 0 ≤ a0 * b1 + a1 * b0 + 19 * (a2 * b4) ∧ a0 * b1 + a1 * b0 + 19 * (a2 * b4) < 1561745539481178622643938349023232 := by omega
  have s13 : 0 ≤ a0 * b1 + a1 * b0 + 19 * (a2 * b4) + 19 * (a3 * b3) ∧ a0 * b1 + a1 * b0 + 19 * (a2 * b4) + 19 * (a3 * b3) < 1561745539481178622643938349023232 := by omega
  have s14 : 0 ≤ a0 * b1 + a1 * b0 + 19 * (a2 * b4) + 19 * (a3 * b3) + 19 * (a4 * b2) ∧ a0 * b1 + a1 * b0 + 19 * (a2 * b4) + 19 * (a3 * b3) + 19 * (a4 * b2) < 1561745539481178622643938349023232 := by omega
  have s20 : 0 ≤ a0 * b2 ∧ a0 * b2 < 1561745539481178622643938349023232 := by omega
  have s21 : 0 ≤ a0 * b2 + a1 * b1 ∧ a0 * b2 + a1 * b1 < 1561745539481178622643938349023232 := by omega
  have s22 : 0 ≤ a0 * b2 + a1 * b1 + a2 * b0 ∧ a0 * b2 + a1 * b1 + a2 * b0 < 1561745539481178622643938349023232 := by omega
  have s23 : 0 ≤ a0 * b2 + a1 * b1 + a2 * b0 + 19 * (a3 * b4) ∧ a0 * b2 + a1 * b1 + a2 * b0 + 19 * (a3 * b4) < 1561745539481178622643938349023232 := by omega
  have s24 : 0 ≤ a0 * b2 + a1 * b1 + a2 * b0 + 19 * (a3 * b4) + 19 * (a4 * b3) ∧ a0 * b2 + a1 * b1 + a2 * b0 + 19 * (a3 * b4) + 19 * (a4 * b3) < 1561745539481178622643938349023232 := by omega
  have s30 : 0 ≤ a0 * b3 ∧ a0 * b3 < 1561745539481178622643938349023232 := by omega
  have s31 : 0 ≤ a0 * b3 + a1 * b2 ∧ a0 * b3 + a1 * b2 < 1561745539481178622643938349023232 := by omega
  have s32 : 0 ≤ a0 * b3 + a1 * b2 + a2 * b1 ∧ a0 * b3 + a1 * b2 + a2 * b1 < 1561745539481178622643938349023232 := by omega
  have s33 : 0 ≤ a0 * b3 + a1 * b2 + a2 * b1 + a3 * b0 ∧ a0 * b3 + a1 * b2 + a2 * b1 + a3 * b0 < 1561745539481178622643938349023232 := by omega
  have s34 : 0 ≤ a0 * b3 + a1 * b2 + a2 * b1 + a3 * b0 + 19 * (a4 * b4) ∧ a0 * b3 + a1 * b2 + a2 * b1 + a3 * b0 + 19 * (a4 * b4) < 1561745539481178622643938349023232 := by omega
  have s40 : 0 ≤ a0 * b4 ∧ a0 * b4 < 101412048018258352119736256430080 := by omega
  have s41 : 0 ≤ a0 * b4 + a1 * b3 ∧ a0 * b4 + a1 * b3 < 101412048018258352119736256430080 := by omega
  have s42 : 0 ≤ a0 * b4 + a1 * b3 + a2 * b2 ∧ a0 * b4 + a1 * b3 + a2 * b2 < 101412048018258352119736256430080 := by omega
  have s43 : 0 ≤ a0 * b4 + a1 * b3 + a2 * b2 + a3 * b1 ∧ a0 * b4 + a1 * b3 + a2 * b2 + a3 * b1 < 101412048018258352119736256430080 := by omega
  have s44 : 0 ≤ a0 * b4 + a1 * b3 + a2 * b2 + a3 * b1 + a4 * b0 ∧ a0 * b4 + a1 * b3 + a2 * b2 + a3 * b1 + a4 * b0 < 101412048018258352119736256430080 := by omega
  clear y00 y01 y02 y03 y04 y10 y11 y12 y13 y14 y20 y21 y22 y23 y24 y30 y31 y32 y33 y34 y40 y41 y42 y43 y44
  dsimp only at hd
  obtain ⟨d81, d80, d79, d78, d77, d76, d75, d74, d73, d72, d71, d70, d69, d68, d67, d66, d65, d64, d63, d62, d61, d60, d59, d58, d57, d56, d55, d54, d53, d52, d51, d50, d49, d48, d47, d46, d45, d44, d43, d42, d41, d40, d39, d38, d37, d36, d35, d34, d33, d32, d31, d30, d29, d28, d27, d26, d25, d24, d23, d22, d21, d20, d19, d18, d17, d16, d15, d14, d13, d12, d11, d10, d9, d8, d7, d6, d5, d4, d3, d2, d1, d0⟩ := hd
  have q0 : ρ.i 0 = (a0 * b0) % 18446744073709551616 ∧ ρ.i 1 = (a0 * b0) / 18446744073709551616 := ⟨d0, d1⟩
  rw [m19S ha1 ka1] at d2 d3
  have q2 := amS q0.1 q0.2 d2 d3 s01.1 (Int.lt_trans s01.2 (by decide))
  rw [m19S ha2 ka2] at d4 d5
  have q4 := amS q2.1 q2.2 d4 d5 s02.1 (Int.lt_trans s02.2 (by decide))
  rw [m19S ha3 ka3] at d6 d7
  have q6 := amS q4.1 q4.2 d6 d7 s03.1 (Int.lt_trans s03.2 (by decide))
  rw [m19S ha4 ka4] at d8 d9
  have q8 := amS q6.1 q6.2 d8 d9 s04.1 (Int.lt_trans s04.2 (by decide))
  have q10 : ρ.i 10 = (a0 * b1) % 18446744073709551616 ∧ ρ.i 11 = (a0 * b1) / 18446744073709551616 := ⟨d10, d11⟩
  have q12 := amS q10.1 q10.2 d12 d13 s11.1 (Int.lt_trans s11.2 (by decide))
  rw [m19S ha2 ka2] at d14 d15
  have q14 := amS q12.1 q12.2 d14 d15 s12.1 (Int.lt_trans s12.2 (by decide))
  rw [m19S ha3 ka3] at d16 d17
  have q16 := amS q14.1 q14.2 d16 d17 s13.1 (Int.lt_trans s13.2 (by decide))
  rw [m19S ha4 ka4] at d18 d19
  have q18 := amS q16.1 q16.2 d18 d19 s14.1 (Int.lt_trans s14.2 (by decide))
  have q20 : ρ.i 20 = (a0 * b2) % 18446744073709551616 ∧ ρ.i 21 = (a0 * b2) / 18446744073709551616 := ⟨d20, d21⟩
  have q22 := amS q20.1 q20.2 d22 d23 s21.1 (Int.lt_trans s21.2 (by decide))
  have q24 := amS q22.1 q22.2 d24 d25 s22.1 (Int.lt_trans s22.2 (by decide))
  rw [m19S ha3 ka3] at d26 d27
  have q26 := amS q24.1 q24.2 d26 d27 s23.1 (Int.lt_trans s23.2 (by decide))
  rw [m19S ha4 ka4] at d28 d29
  have q28 := amS q26.1 q26.2 d28 d29 s24.1 (Int.lt_trans s24.2 (by decide))
  have q30 : ρ.i 30 = (a0 * b3) % 18446744073709551616 ∧ ρ.i 31 = (a0 * b3) / 18446744073709551616 := ⟨d30, d31⟩
  have q32 := amS q30.1 q30.2 d32 d33 s31.1 (Int.lt_trans s31.2 (by decide))
  have q34 := amS q32.1 q32.2 d34 d35 s32.1 (Int.lt_trans s32.2 (by decide))
  have q36 := amS q34.1 q34.2 d36 d37 s33.1 (Int.lt_trans s33.2 (by decide))
  rw [m19S ha4 ka4] at d38 d39
  have q38 := amS q36.1 q36.2 d38 d39 s34.1 (Int.lt_trans s34.2 (by decide))
  have q40 : ρ.i 40 = (a0 * b4) % 18446744073709551616 ∧ ρ.i 41 = (a0 * b4) / 18446744073709551616 := ⟨d40, d41⟩
  have q42 := amS q40.1 q40.2 d42 d43 s41.1 (Int.lt_trans s41.2 (by decide))
  have q44 := amS q42.1 q42.2 d44 d45 s42.1 (Int.lt_trans s42.2 (by decide))
  have q46 := amS q44.1 q44.2 d46 d47 s43.1 (Int.lt_trans s43.2 (by decide))
  have q48 := amS q46.1 q46.2 d48 d49 s44.1 (Int.lt_trans s44.2 (by decide))
  have N0 := s04
  have N1 := s14
  have N2 := s24
  have N3 := s34
  have N4 := s44
  simp only [mulE, sqE, mulL, sqL, redL, E5.at]
  clear s00 s01 s02 s03 s04 s10 s11 s12 s13 s14 s20 s21 s22 s23 s24 s30 s31 s32 s33 s34 s40 s41 s42 s43 s44
  generalize a0 * b0 + 19 * (a1 * b4) + 19 * (a2 * b3) + 19 * (a3 * b2) + 19 * (a4 * b1) = n0 at *
  generalize a0 * b1 + a1 * b0 + 19 * (a2 * b4) + 19 * (a3 * b3) + 19 * (a4 * b2) = n1 at *
  generalize a0 * b2 + a1 * b1 + a2 * b0 + 19 * (a3 * b4) + 19 * (a4 * b3) = n2 at *
  generalize a0 * b3 + a1 * b2 + a2 * b1 + a3 * b0 + 19 * (a4 * b4) = n3 at *
  generalize a0 * b4 + a1 * b3 + a2 * b2 + a3 * b1 + a4 * b0 = n4 at *
  clear q0 q2 q4 q6 q10 q12 q14 q16 q20 q22 q24 q26 q30 q32 q34 q36 q40 q42 q44 q46
  clear d0 d1 d2 d3 d4 d5 d6 d7 d8 d9 d10 d11 d12 d13 d14 d15 d16 d17 d18 d19 d20 d21 d22 d23 d24 d25 d26 d27 d28 d29 d30 d31 d32 d33 d34 d35 d36 d37 d38 d39 d40 d41 d42 d43 d44 d45 d46 d47 d48 d49
  have c0 : ρ.i 50 = n0 / 2251799813685248 := by rw [d50, q8.1, q8.2]; omega
  have c1 : ρ.i 51 = n1 / 2251799813685248 := by rw [d51, q18.1, q18.2]; omega
  have c2 : ρ.i 52 = n2 / 2251799813685248 := by rw [d52, q28.1, q28.2]; omega
  have c3 : ρ.i 53 = n3 / 2251799813685248 := by rw [d53, q38.1, q38.2]; omega
  have c4 : ρ.i 54 = n4 / 2251799813685248 := by rw [d54, q48.1, q48.2]; omega
  have t0 : ρ.i 57 = n0 % 2251799813685248 + n4 / 2251799813685248 * 19 := by rw [d57, d55, d56, and51 _ (by rw [q8.1]; omega), q8.1, c4]; omega
  have t1 : ρ.i 59 = n1 % 2251799813685248 + n0 / 2251799813685248 := by rw [d59, d58, and51 _ (by rw [q18.1]; omega), q18.1, c0]; omega
  have t2 : ρ.i 61 = n2 % 2251799813685248 + n1 / 2251799813685248 := by rw [d61, d60, and51 _ (by rw [q28.1]; omega), q28.1, c1]; omega
  have t3 : ρ.i 63 = n3 % 2251799813685248 + n2 / 2251799813685248 := by rw [d63, d62, and51 _ (by rw [q38.1]; omega), q38.1, c2]; omega
  have t4 : ρ.i 65 = n4 % 2251799813685248 + n3 / 2251799813685248 := by rw [d65, d64, and51 _ (by rw [q48.1]; omega), q48.1, c3]; omega
  clear d50 d51 d52 d53 d54 d55 d56 d57 d58 d59 d60 d61 d62 d63 d64 d65 c0 c1 c2 c3 c4 q8 q18 q28 q38 q48
  have z0 : ρ.i 69 = (n0 % 2251799813685248 + n4 / 2251799813685248 * 19) % 2251799813685248 + (n4 % 2251799813685248 + n3 / 2251799813685248) / 2251799813685248 * 19 := by rw [d69, d66, d68, d67, and51 _ (by rw [t0]; omega), t0, t4]; omega
  have z1 : ρ.i 72 = (n1 % 2251799813685248 + n0 / 2251799813685248) % 2251799813685248 + (n0 % 2251799813685248 + n4 / 2251799813685248 * 19) / 2251799813685248 := by rw [d72, d70, d71, and51 _ (by rw [t1]; omega), t1, t0]; omega
  have z2 : ρ.i 75 = (n2 % 2251799813685248 + n1 / 2251799813685248) % 2251799813685248 + (n1 % 2251799813685248 + n0 / 2251799813685248) / 2251799813685248 := by rw [d75, d73, d74, and51 _ (by rw [t2]; omega), t2, t1]; omega
  have z3 : ρ.i 78 = (n3 % 2251799813685248 + n2 / 2251799813685248) % 2251799813685248 + (n2 % 2251799813685248 + n1 / 2251799813685248) / 2251799813685248 := by rw [d78, d76, d77, and51 _ (by rw [t3]; omega), t3, t2]; omega
  have z4 : ρ.i 81 = (n4 % 2251799813685248 + n3 / 2251799813685248) % 2251799813685248 + (n3 % 2251799813685248 + n2 / 2251799813685248) / 2251799813685248 := by rw [d81, d79, d80, and51 _ (by rw [t4]; omega), t4, t3]; omega
  rw [z0, z1, z2, z3, z4]
theorem mulF_012_c : PatC Tryd.prog 14 [0, 1, 2] 3 [] (fun el ns => Fe.sem .mul [el 1, el 2] ns []) true (fun _ => True) := by
  refine pat_of_run (ret := true) (ys := [.x 69, .x 72, .x 75, .x 78, .x 81]) (body_ok tabW_ok _ _) mulF_012_run (by decide) rfl (by rfl) ?_ ?_
  · intro ρ ns hf hp hn hd
    refine ⟨by simp only [mulF_012_ms, mulFTr, Asms, Ent.asn, and_true], ?_⟩
    exact mulF_math ρ ns 1 2 hf hp hn hd
  · intro el el' ns he
    simp only [he 1 (by omega), he 2 (by omega)]
theorem mulF_001_c : PatC Tryd.prog 14 [0, 0, 1] 2 [] (fun el ns => Fe.sem .mul [el 0, el 1] ns []) true (fun _ => True) := by
  refine pat_of_run (ret := true) (ys := [.x 69, .x 72, .x 75, .x 78, .x 81]) (body_ok tabW_ok _ _) mulF_001_run (by decide) rfl (by rfl) ?_ ?_
  · intro ρ ns hf hp hn hd
    refine ⟨by simp only [mulF_001_ms, mulFTr, Asms, Ent.asn, and_true], ?_⟩
    exact mulF_math ρ ns 0 1 hf hp hn hd
  · intro el el' ns he
    simp only [he 0 (by omega), he 1 (by omega)]
theorem mulF_010_c : PatC Tryd.prog 14 [0, 1, 0] 2 [] (fun el ns => Fe.sem .mul [el 1, el 0] ns []) true (fun _ => True) := by
  refine pat_of_run (ret := true) (ys := [.x 69, .x 72, .x 75, .x 78, .x 81]) (body_ok tabW_ok _ _) mulF_010_run (by decide) rfl (by rfl) ?_ ?_
  · intro ρ ns hf hp hn hd
    refine ⟨by simp only [mulF_010_ms, mulFTr, Asms, Ent.asn, and_true], ?_⟩
    exact mulF_math ρ ns 1 0 hf hp hn hd
  · intro el el' ns he
    simp only [he 0 (by omega), he 1 (by omega)]
theorem mulF_011_c : PatC Tryd.prog 14 [0, 1, 1] 2 [] (fun el ns => Fe.sem .mul [el 1, el 1] ns []) true (fun _ => True) := by
  refine pat_of_run (ret := true) (ys := [.x 69, .x 72, .x 75, .x 78, .x 81]) (body_ok tabW_ok _ _) mulF_011_run (by decide) rfl (by rfl) ?_ ?_
  · intro ρ ns hf hp hn hd
    refine ⟨by simp only [mulF_011_ms, mulFTr, Asms, Ent.asn, and_true], ?_⟩
    exact mulF_math ρ ns 1 1 hf hp hn hd
  · intro el el' ns he
    simp only [he 1 (by omega)]
theorem mulF_000_c : PatC Tryd.prog 14 [0, 0, 0] 1 [] (fun el ns => Fe.sem .mul [el 0, el 0] ns []) true (fun _ => True) := by
  refine pat_of_run (ret := true) (ys := [.x 69, .x 72, .x 75, .x 78, .x 81]) (body_ok tabW_ok _ _) mulF_000_run (by decide) rfl (by rfl) ?_ ?_
  · intro ρ ns hf hp hn hd
    refine ⟨by simp only [mulF_000_ms, mulFTr, Asms, Ent.asn, and_true], ?_⟩
    exact mulF_math ρ ns 0 0 hf hp hn hd
  · intro el el' ns he
    simp only [he 0 (by omega)]
theorem mulF_el : ElC Tryd.prog 14 2 [] (fun es ns => Fe.sem .mul es ns []) true (fun _ => True) := elC2_of mulF_012_c mulF_001_c mulF_010_c mulF_011_c mulF_000_c
def sqFTr (p : Nat) : List Ent := [.di 67 (.add (.u64)) [.x 65, .x 66], .di 66 (.shr (.u64)) [.x 49, .c 51], .di 65 (.and (.u64)) [.x 51, .c 2251799813685247], .di 64 (.add (.u64)) [.x 62, .x 63], .di 63 (.shr (.u64)) [.x 47, .c 51], .di 62 (.and (.u64)) [.x 49, .c 2251799813685247], .di 61 (.add (.u64)) [.x 59, .x 60], .di 60 (.shr (.u64)) [.x 45, .c 51], .di 59 (.and (.u64)) [.x 47, .c 2251799813685247], .di 58 (.add (.u64)) [.x 56, .x 57], .di 57 (.shr (.u64)) [.x 43, .c 51], .di 56 (.and (.u64)) [.x 45, .c 2251799813685247], .di 55 (.add (.u64)) [.x 52, .x 54], .di 54 (.m19) [.x 53], .di 53 (.shr (.u64)) [.x 51, .c 51], .di 52 (.and (.u64)) [.x 43, .c 2251799813685247], .di 51 (.add (.u64)) [.x 50, .x 39], .di 50 (.and (.u64)) [.x 34, .c 2251799813685247], .di 49 (.add (.u64)) [.x 48, .x 38], .di 48 (.and (.u64)) [.x 26, .c 2251799813685247], .di 47 (.add (.u64)) [.x 46, .x 37], .di 46 (.and (.u64)) [.x 18, .c 2251799813685247], .di 45 (.add (.u64)) [.x 44, .x 36], .di 44 (.and (.u64)) [.x 11, .c 2251799813685247], .di 43 (.add (.u64)) [.x 41, .x 42], .di 42 (.m19) [.x 40], .di 41 (.and (.u64)) [.x 4, .c 2251799813685247], .di 40 (.s51) [.x 34, .x 35], .di 39 (.s51) [.x 26, .x 27], .di 38 (.s51) [.x 18, .x 19], .di 37 (.s51) [.x 11, .x 12], .di 36 (.s51) [.x 4, .x 5], .di 35 (.amHi) [.x 32, .x 33, .l p 2, .l p 2], .di 34 (.amLo) [.x 32, .x 33, .l p 2, .l p 2], .di 33 (.amHi) [.x 29, .x 30, .x 31, .l p 3], .di 32 (.amLo) [.x 29, .x 30, .x 31, .l p 3], .di 31 (.mul (.u64)) [.l p 1, .c 2], .di 30 (.mulHi) [.x 28, .l p 4], .di 29 (.mulLo) [.x 28, .l p 4], .di 28 (.mul (.u64)) [.l p 0, .c 2], .di 27 (.am19Hi) [.x 24, .x 25, .l p 4, .l p 4], .di 26 (.am19Lo) [.x 24, .x 25, .l p 4, .l p 4], .di 25 (.amHi) [.x 21, .x 22, .x 23, .l p 2], .di 24 (.amLo) [.x 21, .x 22, .x 23, .l p 2], .di 23 (.mul (.u64)) [.l p 1, .c 2], .di 22 (.mulHi) [.x 20, .l p 3], .di 21 (.mulLo) [.x 20, .l p 3], .di 20 (.mul (.u64)) [.l p 0, .c 2], .di 19 (.am38Hi) [.x 16, .x 17, .l p 3, .l p 4], .di 18 (.am38Lo) [.x 16, .x 17, .l p 3, .l p 4], .di 17 (.amHi) [.x 14, .x 15, .l p 1, .l p 1], .di 16 (.amLo) [.x 14, .x 15, .l p 1, .l p 1], .di 15 (.mulHi) [.x 13, .l p 2], .di 14 (.mulLo) [.x 13, .l p 2], .di 13 (.mul (.u64)) [.l p 0, .c 2], .di 12 (.am19Hi) [.x 9, .x 10, .l p 3, .l p 3], .di 11 (.am19Lo) [.x 9, .x 10, .l p 3, .l p 3], .di 10 (.am38Hi) [.x 7, .x 8, .l p 2, .l p 4], .di 9 (.am38Lo) [.x 7, .x 8, .l p 2, .l p 4], .di 8 (.mulHi) [.x 6, .l p 1], .di 7 (.mulLo) [.x 6, .l p 1], .di 6 (.mul (.u64)) [.l p 0, .c 2], .di 5 (.am38Hi) [.x 2, .x 3, .l p 2, .l p 3], .di 4 (.am38Lo) [.x 2, .x 3, .l p 2, .l p 3], .di 3 (.am38Hi) [.x 0, .x 1, .l p 1, .l p 4], .di 2 (.am38Lo) [.x 0, .x 1, .l p 1, .l p 4], .di 1 (.mulHi) [.l p 0, .l p 0], .di 0 (.mulLo) [.l p 0, .l p 0]]
def sqF_01_ms : Ms := ⟨[⟨[.int .u64 (.x 55), .int .u64 (.x 58), .int .u64 (.x 61), .int .u64 (.x 64), .int .u64 (.x 67)], true⟩, ⟨[.int .u64 (.l 1 0), .int .u64 (.l 1 1), .int .u64 (.l 1 2), .int .u64 (.l 1 3), .int .u64 (.l 1 4)], false⟩, ⟨[.int .u64 (.x 4), .int .u64 (.x 5)], true⟩, ⟨[.int .u64 (.x 11), .int .u64 (.x 12)], true⟩, ⟨[.int .u64 (.x 18), .int .u64 (.x 19)], true⟩, ⟨[.int .u64 (.x 26), .int .u64 (.x 27)], true⟩, ⟨[.int .u64 (.x 34), .int .u64 (.x 35)], true⟩], sqFTr 1, 68, 0, 2, 0, [], []⟩
theorem sqF_01_run : runOk (body tabW 3 15) (msE [0, 1] 2 0) (argsE [0, 1] []) (.ptr 0 0) sqF_01_ms := ⟨by kernel_rfl, by kernel_rfl, by kernel_rfl, by kernel_rfl⟩
def sqF_00_ms : Ms := ⟨[⟨[.int .u64 (.x 55), .int .u64 (.x 58), .int .u64 (.x 61), .int .u64 (.x 64), .int .u64 (.x 67)], true⟩, ⟨[.int .u64 (.x 4), .int .u64 (.x 5)], true⟩, ⟨[.int .u64 (.x 11), .int .u64 (.x 12)], true⟩, ⟨[.int .u64 (.x 18), .int .u64 (.x 19)], true⟩, ⟨[.int .u64 (.x 26), .int .u64 (.x 27)], true⟩, ⟨[.int .u64 (.x 34), .int .u64 (.x 35)], true⟩], sqFTr 0, 68, 0, 1, 0, [], []⟩
theorem sqF_00_run : runOk (body tabW 3 15) (msE [0, 0] 1 0) (argsE [0, 0] []) (.ptr 0 0) sqF_00_ms := ⟨by kernel_rfl, by kernel_rfl, by kernel_rfl, by kernel_rfl⟩
set_option maxHeartbeats 4000000 in
theorem sqF_math (ρ : Env) (ns : List Int) (p : Nat) (_ : fits [] ns) (_ : True) (_ : ∀ (j : Nat) m, ns[j]? = some m → ρ.i j = m) (hd : Defs ρ (sqFTr p)) :
    List.map (Sx.val ρ) [.x 55, .x 58, .x 61, .x 64, .x 67] = [(Fe.sem .sq [ρ.e p] ns []).1.at 0, (Fe.sem .sq [ρ.e p] ns []).1.at 1, (Fe.sem .sq [ρ.e p] ns []).1.at 2, (Fe.sem .sq [ρ.e p] ns []).1.at 3, (Fe.sem .sq [ρ.e p] ns []).1.at 4] := by
  simp only [sqFTr, Defs, Ent.def, Fi.sem, List.map_cons, List.map_nil, Sx.val, E5.at, wr, nbits, ub, ubN, Int.reduceToNat, Nat.min_def, Nat.reduceLeDiff, ↓reduceIte, Int.reducePow, and_true] at hd
  simp only [Fe.sem, List.map_cons, List.map_nil, Sx.val]
  generalize ρ.e p = A at *
  obtain ⟨⟨a0, a1, a2, a3, a4⟩, ha0, ha1, ha2, ha3, ha4, ka0, ka1, ka2, ka3, ka4⟩ := A
  simp only [BD] at ha0 ha1 ha2 ha3 ha4 ka0 ka1 ka2 ka3 ka4
  replace ka0 : a0 < 4503599627370496 := by omega
  replace ka1 : a1 < 4503599627370496 := by omega
  replace ka2 : a2 < 4503599627370496 := by omega
  replace ka3 : a3 < 4503599627370496 := by omega
  replace ka4 : a4 < 4503599627370496 := by omega
  have y00 := mbd a0 a0 ha0 ha0 ka0 ka0
  have y01 := mbd a0 a1 ha0 ha1 ka0 ka1
  have y02 := mbd a0 a2 ha0 ha2 ka0 ka2
  have y03 := mbd a0 a3 ha0 ha3 ka0 ka3
  have y04 := mbd a0 a4 ha0 ha4 ka0 ka4
  have y11 := mbd a1 a1 ha1 ha1 ka1 ka1
  have y12 := mbd a1 a2 ha1 ha2 ka1 ka2
  have y13 := mbd a1 a3 ha1 ha3 ka1 ka3
  have y14 := mbd a1 a4 ha1 ha4 ka1 ka4
  have y22 := mbd a2 a2 ha2 ha2 ka2 ka2
  have y23 := mbd a2 a3 ha2 ha3 ka2 ka3
  have y24 := mbd a2 a4 ha2 ha4 ka2 ka4
  have y33 := mbd a3 a3 ha3 ha3 ka3 ka3
  have y34 := mbd a3 a4 ha3 ha4 ka3 ka4
  have y44 := mbd a4 a4 ha4 ha4 ka4 ka4
  have s00 : 0 ≤ a0 * a0 ∧ a0 * a0 < 1561745539481178622643938349023232 := by omega
  have s01 : 0 ≤ a0 * a0 + 38 * (a1 * a4) ∧ a0 * a0 + 38 * (a1 * a4) < 1561745539481178622643938349023232 := by omega
  have s02 : 0 ≤ a0 * a0 + 38 * (a1 * a4) + 38 * (a2 * a3) ∧ a0 * a0 + 38 * (a1 * a4) + 38 * (a2 * a3) < 1561745539481178622643938349023232 := by omega
  have s10 : 0 ≤ 2 * (a0 * a1) ∧ 2 * (a0 * a1) < 1561745539481178622643938349023232 := by omega
  have s11 : 0 ≤ 2 * (a0 * a1) + 38 * (a2 * a4) ∧ 2 * (a0 * a1) + 38 * (a2 * a4) < 1561745539481178622643938349023232 := by omega
  have s12 : 0 ≤ 2 * (a0 * a1) + 38 * (a2 * a4) + 19 * (a3 * a3) ∧ 2 * (a0 * a1) + 38 * (a2 * a4) + 19 * (a3 * a3) < 1561745539481178622643938349023232 := by omega
  have s20 : 0 ≤ 2 * (a0 * a2) ∧ 2 * (a0 * a2) < 1561745539481178622643938349023232 := by omega
  have s21 : 0 ≤ 2 * (a0 * a2) + a1 * a1 ∧ 2 * (a0 * a2) + a1 * a1 < 1561745539481178622643938349023232 := by omega
  have s22 : 0 ≤ 2 * (a0 * a2) + a1 * a1 + 38 * (a3 * a4) ∧ 2 * (a0 * a2) + a1 * a1 + 38 * (a3 * a4) < 1561745539481178622643938349023232 := by omega
  have s30 : 0 ≤ 2 * (a0 * a3) ∧ 2 * (a0 * a3) < 1561745539481178622643938349023232 := by omega
  have s31 : 0 ≤ 2 * (a0 * a3) + 2 * (a1 * a2) ∧ 2 * (a0 * a3) + 2 * (a1 * a2) < 1561745539481178622643938349023232 := by omega
  have s32 : 0 ≤ 2 * (a0 * a3) + 2 * (a1 * a2) + 19 * (a4 * a4) ∧ 2 * (a0 * a3) + 2 * (a1 * a2) + 19 * (a4 * a4) < 1561745539481178622643938349023232 := by omega
  have s40 : 0 ≤ 2 * (a0 * a4) ∧ 2 * (a0 * a4) < 101412048018258352119736256430080 := by omega
  have s41 : 0 ≤ 2 * (a0 * a4) + 2 * (a1 * a3) ∧ 2 * (a0 * a4) + 2 * (a1 * a3) < 101412048018258352119736256430080 := by omega
  have s42 : 0 ≤ 2 * (a0 * a4) + 2 * (a1 * a3) + a2 * a2 ∧ 2 * (a0 * a4) + 2 * (a1 * a3) + a2 * a2 < 101412048018258352119736256430080 := by omega
  clear y00 y01 y02 y03 y04 y11 y12 y13 y14 y22 y23 y24 y33 y34 y44
  dsimp only at hd
  obtain ⟨d67, d66, d65, d64, d63, d62, d61, d60, d59, d58, d57, d56, d55, d54, d53, d52, d51, d50, d49, d48, d47, d46, d45, d44, d43, d42, d41, d40, d39, d38, d37, d36, d35, d34, d33, d32, d31, d30, d29, d28, d27, d26, d25, d24, d23, d22, d21, d20, d19, d18, d17, d16, d15, d14, d13, d12, d11, d10, d9, d8, d7, d6, d5, d4, d3, d2, d1, d0⟩ := hd
  have q0 : ρ.i 0 = (a0 * a0) % 18446744073709551616 ∧ ρ.i 1 = (a0 * a0) / 18446744073709551616 := ⟨d0, d1⟩
  rw [m38S ha1 ka1 ha4 ka4] at d2 d3
  have q2 := amS q0.1 q0.2 d2 d3 s01.1 (Int.lt_trans s01.2 (by decide))
  rw [m38S ha2 ka2 ha3 ka3] at d4 d5
  have q4 := amS q2.1 q2.2 d4 d5 s02.1 (Int.lt_trans s02.2 (by decide))
  have p6 : ρ.i 6 * a1 = 2 * (a0 * a1) := by rw [d6]; exact m2S ha0 ka0
  rw [p6] at d7 d8
  have q7 : ρ.i 7 = (2 * (a0 * a1)) % 18446744073709551616 ∧ ρ.i 8 = (2 * (a0 * a1)) / 18446744073709551616 := ⟨d7, d8⟩
  rw [m38S ha2 ka2 ha4 ka4] at d9 d10
  have q9 := amS q7.1 q7.2 d9 d10 s11.1 (Int.lt_trans s11.2 (by decide))
  rw [m19S ha3 ka3] at d11 d12
  have q11 := amS q9.1 q9.2 d11 d12 s12.1 (Int.lt_trans s12.2 (by decide))
  have p13 : ρ.i 13 * a2 = 2 * (a0 * a2) := by rw [d13]; exact m2S ha0 ka0
  rw [p13] at d14 d15
  have q14 : ρ.i 14 = (2 * (a0 * a2)) % 18446744073709551616 ∧ ρ.i 15 = (2 * (a0 * a2)) / 18446744073709551616 := ⟨d14, d15⟩
  have q16 := amS q14.1 q14.2 d16 d17 s21.1 (Int.lt_trans s21.2 (by decide))
  rw [m38S ha3 ka3 ha4 ka4] at d18 d19
  have q18 := amS q16.1 q16.2 d18 d19 s22.1 (Int.lt_trans s22.2 (by decide))
  have p20 : ρ.i 20 * a3 = 2 * (a0 * a3) := by rw [d20]; exact m2S ha0 ka0
  rw [p20] at d21 d22
  have q21 : ρ.i 21 = (2 * (a0 * a3)) % 18446744073709551616 ∧ ρ.i 22 = (2 * (a0 * a3)) / 18446744073709551616 := ⟨d21, d22⟩
  have p23 : ρ.i 23 * a2 = 2 * (a1 * a2) := by rw [d23]; exact m2S ha1 ka1
  rw [p23] at d24 d25
  have q24 := amS q21.1 q21.2 d24 d25 s31.1 (Int.lt_trans s31.2 (by decide))
  rw [m19S ha4 ka4] at d26 d27
  have q26 := amS q24.1 q24.2 d26 d27 s32.1 (Int.lt_trans s32.2 (by decide))
  have p28 : ρ.i 28 * a4 = 2 * (a0 * a4) := by rw [d28]; exact m2S ha0 ka0
  rw [p28] at d29 d30
  have q29 : ρ.i 29 = (2 * (a0 * a4)) % 18446744073709551616 ∧ ρ.i 30 = (2 * (a0 * a4)) / 18446744073709551616 := ⟨d29, d30⟩
  have p31 : ρ.i 31 * a3 = 2 * (a1 * a3) := by rw [d31]; exact m2S ha1 ka1
  rw [p31] at d32 d33
  have q32 := amS q29.1 q29.2 d32 d33 s41.1 (Int.lt_trans s41.2 (by decide))
  have q34 := amS q32.1 q32.2 d34 d35 s42.1 (Int.lt_trans s42.2 (by decide))
  have N0 := s02
  have N1 := s12
  have N2 := s22
  have N3 := s32
  have N4 := s42
  simp only [mulE, sqE, mulL, sqL, redL, E5.at]
  clear s00 s01 s02 s10 s11 s12 s20 s21 s22 s30 s31 s32 s40 s41 s42
  generalize a0 * a0 + 38 * (a1 * a4) + 38 * (a2 * a3) = n0 at *
  generalize 2 * (a0 * a1) + 38 * (a2 * a4) + 19 * (a3 * a3) = n1 at *
  generalize 2 * (a0 * a2) + a1 * a1 + 38 * (a3 * a4) = n2 at *
  generalize 2 * (a0 * a3) + 2 * (a1 * a2) + 19 * (a4 * a4) = n3 at *
  generalize 2 * (a0 * a4) + 2 * (a1 * a3) + a2 * a2 = n4 at *
  clear q0 q2 q7 q9 q14 q16 q21 q24 q29 q32
  clear p6 p13 p20 p23 p28 p31
  clear d0 d1 d2 d3 d4 d5 d6 d7 d8 d9 d10 d11 d12 d13 d14 d15 d16 d17 d18 d19 d20 d21 d22 d23 d24 d25 d26 d27 d28 d29 d30 d31 d32 d33 d34 d35
  have c0 : ρ.i 36 = n0 / 2251799813685248 := by rw [d36, q4.1, q4.2]; omega
  have c1 : ρ.i 37 = n1 / 2251799813685248 := by rw [d37, q11.1, q11.2]; omega
  have c2 : ρ.i 38 = n2 / 2251799813685248 := by rw [d38, q18.1, q18.2]; omega
  have c3 : ρ.i 39 = n3 / 2251799813685248 := by rw [d39, q26.1, q26.2]; omega
  have c4 : ρ.i 40 = n4 / 2251799813685248 := by rw [d40, q34.1, q34.2]; omega
  have t0 : ρ.i 43 = n0 % 2251799813685248 + n4 / 2251799813685248 * 19 := by rw [d43, d41, d42, and51 _ (by rw [q4.1]; omega), q4.1, c4]; omega
  have t1 : ρ.i 45 = n1 % 2251799813685248 + n0 / 2251799813685248 := by rw [d45, d44, and51 _ (by rw [q11.1]; omega), q11.1, c0]; omega
  have t2 : ρ.i 47 = n2 % 2251799813685248 + n1 / 2251799813685248 := by rw [d47, d46, and51 _ (by rw [q18.1]; omega), q18.1, c1]; omega
  have t3 : ρ.i 49 = n3 % 2251799813685248 + n2 / 2251799813685248 := by rw [d49, d48, and51 _ (by rw [q26.1]; omega), q26.1, c2]; omega
  have t4 : ρ.i 51 = n4 % 2251799813685248 + n3 / 2251799813685248 := by rw [d51, d50, and51 _ (by rw [q34.1]; omega), q34.1, c3]; omega
  clear d36 d37 d38 d39 d40 d41 d42 d43 d44 d45 d46 d47 d48 d49 d50 d51 c0 c1 c2 c3 c4 q4 q11 q18 q26 q34
  have z0 : ρ.i 55 = (n0 % 2251799813685248 + n4 / 2251799813685248 * 19) % 2251799813685248 + (n4 % 2251799813685248 + n3 / 2251799813685248) / 2251799813685248 * 19 := by rw [d55, d52, d54, d53, and51 _ (by rw [t0]; omega), t0, t4]; omega
  have z1 : ρ.i 58 = (n1 % 2251799813685248 + n0 / 2251799813685248) % 2251799813685248 + (n0 % 2251799813685248 + n4 / 2251799813685248 * 19) / 2251799813685248 := by rw [d58, d56, d57, and51 _ (by rw [t1]; omega), t1, t0]; omega
  have z2 : ρ.i 61 = (n2 % 2251799813685248 + n1 / 2251799813685248) % 2251799813685248 + (n1 % 2251799813685248 + n0 / 2251799813685248) / 2251799813685248 := by rw [d61, d59, d60, and51 _ (by rw [t2]; omega), t2, t1]; omega
  have z3 : ρ.i 64 = (n3 % 2251799813685248 + n2 / 2251799813685248) % 2251799813685248 + (n2 % 2251799813685248 + n1 / 2251799813685248) / 2251799813685248 := by rw [d64, d62, d63, and51 _ (by rw [t3]; omega), t3, t2]; omega
  have z4 : ρ.i 67 = (n4 % 2251799813685248 + n3 / 2251799813685248) % 2251799813685248 + (n3 % 2251799813685248 + n2 / 2251799813685248) / 2251799813685248 := by rw [d67, d65, d66, and51 _ (by rw [t4]; omega), t4, t3]; omega
  rw [z0, z1, z2, z3, z4]
theorem sqF_01_c : PatC Tryd.prog 15 [0, 1] 2 [] (fun el ns => Fe.sem .sq [el 1] ns []) true (fun _ => True) := by
  refine pat_of_run (ret := true) (ys := [.x 55, .x 58, .x 61, .x 64, .x 67]) (body_ok tabW_ok _ _) sqF_01_run (by decide) rfl (by rfl) ?_ ?_
  · intro ρ ns hf hp hn hd
    refine ⟨by simp only [sqF_01_ms, sqFTr, Asms, Ent.asn, and_true], ?_⟩
    exact sqF_math ρ ns 1 hf hp hn hd
  · intro el el' ns he
    simp only [he 1 (by omega)]
theorem sqF_00_c : PatC Tryd.prog 15 [0, 0] 1 [] (fun el ns => Fe.sem .sq [el 0] ns []) true (fun _ => True) := by
  refine pat_of_run (ret := true) (ys := [.x 55, .x 58, .x 61, .x 64, .x 67]) (body_ok tabW_ok _ _) sqF_00_run (by decide) rfl (by rfl) ?_ ?_
  · intro ρ ns hf hp hn hd
    refine ⟨by simp only [sqF_00_ms, sqFTr, Asms, Ent.asn, and_true], ?_⟩
    exact sqF_math ρ ns 0 hf hp hn hd
  · intro el el' ns he
    simp only [he 0 (by omega)]
theorem sqF_el : ElC Tryd.prog 15 1 [] (fun es ns => Fe.sem .sq es ns []) true (fun _ => True) := elC1_of sqF_01_c sqF_00_c
def addFTr (p q : Nat) : List Ent := [.di 20 (.add (.u64)) [.x 18, .x 19], .di 19 (.shr (.u64)) [.x 0, .c 51], .di 18 (.and (.u64)) [.x 1, .c 2251799813685247], .di 17 (.add (.u64)) [.x 15, .x 16], .di 16 (.shr (.u64)) [.x 1, .c 51], .di 15 (.and (.u64)) [.x 2, .c 2251799813685247], .di 14 (.add (.u64)) [.x 12, .x 13], .di 13 (.shr (.u64)) [.x 2, .c 51], .di 12 (.and (.u64)) [.x 3, .c 2251799813685247], .di 11 (.add (.u64)) [.x 9, .x 10], .di 10 (.shr (.u64)) [.x 3, .c 51], .di 9 (.and (.u64)) [.x 4, .c 2251799813685247], .di 8 (.add (.u64)) [.x 5, .x 7], .di 7 (.m19) [.x 6], .di 6 (.shr (.u64)) [.x 4, .c 51], .di 5 (.and (.u64)) [.x 0, .c 2251799813685247], .di 4 (.add (.u64)) [.l p 4, .l q 4], .di 3 (.add (.u64)) [.l p 3, .l q 3], .di 2 (.add (.u64)) [.l p 2, .l q 2], .di 1 (.add (.u64)) [.l p 1, .l q 1], .di 0 (.add (.u64)) [.l p 0, .l q 0]]
def addF_012_ms : Ms := ⟨[⟨[.int .u64 (.x 8), .int .u64 (.x 20), .int .u64 (.x 17), .int .u64 (.x 14), .int .u64 (.x 11)], true⟩, ⟨[.int .u64 (.l 1 0), .int .u64 (.l 1 1), .int .u64 (.l 1 2), .int .u64 (.l 1 3), .int .u64 (.l 1 4)], false⟩, ⟨[.int .u64 (.l 2 0), .int .u64 (.l 2 1), .int .u64 (.l 2 2), .int .u64 (.l 2 3), .int .u64 (.l 2 4)], false⟩], addFTr 1 2, 21, 0, 3, 0, [], []⟩
theorem addF_012_run : runOk (body tabW 2 12) (msE [0, 1, 2] 3 0) (argsE [0, 1, 2] []) (.ptr 0 0) addF_012_ms := ⟨by kernel_rfl, by kernel_rfl, by kernel_rfl, by kernel_rfl⟩
def addF_001_ms : Ms := ⟨[⟨[.int .u64 (.x 8), .int .u64 (.x 20), .int .u64 (.x 17), .int .u64 (.x 14), .int .u64 (.x 11)], true⟩, ⟨[.int .u64 (.l 1 0), .int .u64 (.l 1 1), .int .u64 (.l 1 2), .int .u64 (.l 1 3), .int .u64 (.l 1 4)], false⟩], addFTr 0 1, 21, 0, 2, 0, [], []⟩
theorem addF_001_run : runOk (body tabW 2 12) (msE [0, 0, 1] 2 0) (argsE [0, 0, 1] []) (.ptr 0 0) addF_001_ms := ⟨by kernel_rfl, by kernel_rfl, by kernel_rfl, by kernel_rfl⟩
def addF_010_ms : Ms := ⟨[⟨[.int .u64 (.x 8), .int .u64 (.x 20), .int .u64 (.x 17), .int .u64 (.x 14), .int .u64 (.x 11)], true⟩, ⟨[.int .u64 (.l 1 0), .int .u64 (.l 1 1), .int .u64 (.l 1 2), .int .u64 (.l 1 3), .int .u64 (.l 1 4)], false⟩], addFTr 1 0, 21, 0, 2, 0, [], []⟩
theorem addF_010_run : runOk (body tabW 2 12) (msE [0, 1, 0] 2 0) (argsE [0, 1, 0] []) (.ptr 0 0) addF_010_ms := ⟨by kernel_rfl, by kernel_rfl, by kernel_rfl, by kernel_rfl⟩
def addF_011_ms : Ms := ⟨[⟨[.int .u64 (.x 8), .int .u64 (.x 20), .int .u64 (.x 17), .int .u64 (.x 14), .int .u64 (.x 11)], true⟩, ⟨[.int .u64 (.l 1 0), .int .u64 (.l 1 1), .int .u64 (.l 1 2), .int .u64 (.l 1 3), .int .u64 (.l 1 4)], false⟩], addFTr 1 1, 21, 0, 2, 0, [], []⟩
theorem addF_011_run : runOk (body tabW 2 12) (msE [0, 1, 1] 2 0) (argsE [0, 1, 1] []) (.ptr 0 0) addF_011_ms := ⟨by kernel_rfl, by kernel_rfl, by kernel_rfl, by kernel_rfl⟩
def addF_000_ms : Ms := ⟨[⟨[.int .u64 (.x 8), .int .u64 (.x 20), .int .u64 (.x 17), .int .u64 (.x 14), .int .u64 (.x 11)], true⟩], addFTr 0 0, 21, 0, 1, 0, [], []⟩
theorem addF_000_run : runOk (body tabW 2 12) (msE [0, 0, 0] 1 0) (argsE [0, 0, 0] []) (.ptr 0 0) addF_000_ms := ⟨by kernel_rfl, by kernel_rfl, by kernel_rfl, by kernel_rfl⟩
set_option maxHeartbeats 4000000 in
theorem addF_math (ρ : Env) (ns : List Int) (p q : Nat) (_ : fits [] ns) (_ : True) (_ : ∀ (j : Nat) m, ns[j]? = some m → ρ.i j = m) (hd : Defs ρ (addFTr p q)) :
    List.map (Sx.val ρ) [.x 8, .x 20, .x 17, .x 14, .x 11] = [(Fe.sem .add [ρ.e p, ρ.e q] ns []).1.at 0, (Fe.sem .add [ρ.e p, ρ.e q] ns []).1.at 1, (Fe.sem .add [ρ.e p, ρ.e q] ns []).1.at 2, (Fe.sem .add [ρ.e p, ρ.e q] ns []).1.at 3, (Fe.sem .add [ρ.e p, ρ.e q] ns []).1.at 4] := by
  simp only [addFTr, Defs, Ent.def, Fi.sem, List.map_cons, List.map_nil, Sx.val, E5.at, wr, nbits, ub, ubN, Int.reduceToNat, Nat.min_def, Nat.reduceLeDiff, ↓reduceIte, Int.reducePow, and_true] at hd
  simp only [Fe.sem, List.map_cons, List.map_nil, Sx.val]
  generalize ρ.e p = A at *
  generalize ρ.e q = C at *
  obtain ⟨⟨a0, a1, a2, a3, a4⟩, ha0, ha1, ha2, ha3, ha4, ka0, ka1, ka2, ka3, ka4⟩ := A
  obtain ⟨⟨b0, b1, b2, b3, b4⟩, hb0, hb1, hb2, hb3, hb4, kb0, kb1, kb2, kb3, kb4⟩ := C
  simp only [BD] at ha0 ha1 ha2 ha3 ha4 ka0 ka1 ka2 ka3 ka4 hb0 hb1 hb2 hb3 hb4 kb0 kb1 kb2 kb3 kb4
  dsimp only at hd
  obtain ⟨d20, d19, d18, d17, d16, d15, d14, d13, d12, d11, d10, d9, d8, d7, d6, d5, d4, d3, d2, d1, d0⟩ := hd
  have v0 : ρ.i 0 = a0 + b0 := by rw [d0]; omega
  have v1 : ρ.i 1 = a1 + b1 := by rw [d1]; omega
  have v2 : ρ.i 2 = a2 + b2 := by rw [d2]; omega
  have v3 : ρ.i 3 = a3 + b3 := by rw [d3]; omega
  have v4 : ρ.i 4 = a4 + b4 := by rw [d4]; omega
  simp only [addE, subE, cpL, addL, subL, E5.at]
  have z0 : ρ.i 8 = (a0 + b0) % 2251799813685248 + (a4 + b4) / 2251799813685248 * 19 := by rw [d8, d5, d7, d6, and51 _ (by rw [v0]; omega), v0, v4]; omega
  have z4 : ρ.i 11 = (a4 + b4) % 2251799813685248 + (a3 + b3) / 2251799813685248 := by rw [d11, d9, d10, and51 _ (by rw [v4]; omega), v4, v3]; omega
  have z3 : ρ.i 14 = (a3 + b3) % 2251799813685248 + (a2 + b2) / 2251799813685248 := by rw [d14, d12, d13, and51 _ (by rw [v3]; omega), v3, v2]; omega
  have z2 : ρ.i 17 = (a2 + b2) % 2251799813685248 + (a1 + b1) / 2251799813685248 := by rw [d17, d15, d16, and51 _ (by rw [v2]; omega), v2, v1]; omega
  have z1 : ρ.i 20 = (a1 + b1) % 2251799813685248 + (a0 + b0) / 2251799813685248 := by rw [d20, d18, d19, and51 _ (by rw [v1]; omega), v1, v0]; omega
  rw [z0, z1, z2, z3, z4]
theorem addF_012_c : PatC Tryd.prog 12 [0, 1, 2] 3 [] (fun el ns => Fe.sem .add [el 1, el 2] ns []) true (fun _ => True) := by
  refine pat_of_run (ret := true) (ys := [.x 8, .x 20, .x 17, .x 14, .x 11]) (body_ok tabW_ok _ _) addF_012_run (by decide) rfl (by rfl) ?_ ?_
  · intro ρ ns hf hp hn hd
    refine ⟨by simp only [addF_012_ms, addFTr, Asms, Ent.asn, and_true], ?_⟩
    exact addF_math ρ ns 1 2 hf hp hn hd
  · intro el el' ns he
    simp only [he 1 (by omega), he 2 (by omega)]
theorem addF_001_c : PatC Tryd.prog 12 [0, 0, 1] 2 [] (fun el ns => Fe.sem .add [el 0, el 1] ns []) true (fun _ => True) := by
  refine pat_of_run (ret := true) (ys := [.x 8, .x 20, .x 17, .x 14, .x 11]) (body_ok tabW_ok _ _) addF_001_run (by decide) rfl (by rfl) ?_ ?_
  · intro ρ ns hf hp hn hd
    refine ⟨by simp only [addF_001_ms, addFTr, Asms, Ent.asn, and_true], ?_⟩
    exact addF_math ρ ns 0 1 hf hp hn hd
  · intro el el' ns he
    simp only [he 0 (by omega), he 1 (by omega)]
theorem addF_010_c : PatC Tryd.prog 12 [0, 1, 0] 2 [] (fun el ns => Fe.sem .add [el 1, el 0] ns []) true (fun _ => True) := by
  refine pat_of_run (ret := true) (ys := [.x 8, .x 20, .x 17, .x 14, .x 11]) (body_ok tabW_ok _ _) addF_010_run (by decide) rfl (by rfl) ?_ ?_
  · intro ρ ns hf hp hn hd
    refine ⟨by simp only [addF_010_ms, addFTr, Asms, Ent.asn, and_true], ?_⟩
    exact addF_math ρ ns 1 0 hf hp hn hd
  · intro el el' ns he
    simp only [he 0 (by omega), he 1 (by omega)]
theorem addF_011_c : PatC Tryd.prog 12 [0, 1, 1] 2 [] (fun el ns => Fe.sem .add [el 1, el 1] ns []) true (fun _ => True) := by
  refine pat_of_run (ret := true) (ys := [.x 8, .x 20, .x 17, .x 14, .x 11]) (body_ok tabW_ok _ _) addF_011_run (by decide) rfl (by rfl) ?_ ?_
  · intro ρ ns hf hp hn hd
    refine ⟨by simp only [addF_011_ms, addFTr, Asms, Ent.asn, and_true], ?_⟩
    exact addF_math ρ ns 1 1 hf hp hn hd
  · intro el el' ns he
    simp only [he 1 (by omega)]
theorem addF_000_c : PatC Tryd.prog 12 [0, 0, 0] 1 [] (fun el ns => Fe.sem .add [el 0, el 0] ns []) true (fun _ => True) := by
  refine pat_of_run (ret := true) (ys := [.x 8, .x 20, .x 17, .x 14, .x 11]) (body_ok tabW_ok _ _) addF_000_run (by decide) rfl (by rfl) ?_ ?_
  · intro ρ ns hf hp hn hd
    refine ⟨by simp only [addF_000_ms, addFTr, Asms, Ent.asn, and_true], ?_⟩
    exact addF_math ρ ns 0 0 hf hp hn hd
  · intro el el' ns he
    simp only [he 0 (by omega)]
theorem addF_el : ElC Tryd.prog 12 2 [] (fun es ns => Fe.sem .add es ns []) true (fun _ => True) := elC2_of addF_012_c addF_001_c addF_010_c addF_011_c addF_000_c
def selFTr (p q : Nat) : List Ent := [.di 23 (.or (.u64)) [.x 20, .x 22], .di 22 (.and (.u64)) [.x 21, .l q 4], .di 21 (.not (.u64)) [.x 3], .di 20 (.and (.u64)) [.x 3, .l p 4], .di 19 (.or (.u64)) [.x 16, .x 18], .di 18 (.and (.u64)) [.x 17, .l q 3], .di 17 (.not (.u64)) [.x 3], .di 16 (.and (.u64)) [.x 3, .l p 3], .di 15 (.or (.u64)) [.x 12, .x 14], .di 14 (.and (.u64)) [.x 13, .l q 2], .di 13 (.not (.u64)) [.x 3], .di 12 (.and (.u64)) [.x 3, .l p 2], .di 11 (.or (.u64)) [.x 8, .x 10], .di 10 (.and (.u64)) [.x 9, .l q 1], .di 9 (.not (.u64)) [.x 3], .di 8 (.and (.u64)) [.x 3, .l p 1], .di 7 (.or (.u64)) [.x 4, .x 6], .di 6 (.and (.u64)) [.x 5, .l q 0], .di 5 (.not (.u64)) [.x 3], .di 4 (.and (.u64)) [.x 3, .l p 0], .di 3 (.not (.u64)) [.x 2], .di 2 (.sub (.u64)) [.x 1, .c 1], .di 1 (.conv (.u64)) [.x 0]]
def selF_012_ms : Ms := ⟨[⟨[.int .u64 (.x 7), .int .u64 (.x 11), .int .u64 (.x 15), .int .u64 (.x 19), .int .u64 (.x 23)], true⟩, ⟨[.int .u64 (.l 1 0), .int .u64 (.l 1 1), .int .u64 (.l 1 2), .int .u64 (.l 1 3), .int .u64 (.l 1 4)], false⟩, ⟨[.int .u64 (.l 2 0), .int .u64 (.l 2 1), .int .u64 (.l 2 2), .int .u64 (.l 2 3), .int .u64 (.l 2 4)], false⟩], selFTr 1 2, 24, 0, 3, 0, [], []⟩
theorem selF_012_run : runOk (body tabW 2 22) (msE [0, 1, 2] 3 1) (argsE [0, 1, 2] [.i64]) (.ptr 0 0) selF_012_ms := ⟨by kernel_rfl, by kernel_rfl, by kernel_rfl, by kernel_rfl⟩
def selF_001_ms : Ms := ⟨[⟨[.int .u64 (.x 7), .int .u64 (.x 11), .int .u64 (.x 15), .int .u64 (.x 19), .int .u64 (.x 23)], true⟩, ⟨[.int .u64 (.l 1 0), .int .u64 (.l 1 1), .int .u64 (.l 1 2), .int .u64 (.l 1 3), .int .u64 (.l 1 4)], false⟩], selFTr 0 1, 24, 0, 2, 0, [], []⟩
theorem selF_001_run : runOk (body tabW 2 22) (msE [0, 0, 1] 2 1) (argsE [0, 0, 1] [.i64]) (.ptr 0 0) selF_001_ms := ⟨by kernel_rfl, by kernel_rfl, by kernel_rfl, by kernel_rfl⟩
def selF_010_ms : Ms := ⟨[⟨[.int .u64 (.x 7), .int .u64 (.x 11), .int .u64 (.x 15), .int .u64 (.x 19), .int .u64 (.x 23)], true⟩, ⟨[.int .u64 (.l 1 0), .int .u64 (.l 1 1), .int .u64 (.l 1 2), .int .u64 (.l 1 3), .int .u64 (.l 1 4)], false⟩], selFTr 1 0, 24, 0, 2, 0, [], []⟩
theorem selF_010_run : runOk (body tabW 2 22) (msE [0, 1, 0] 2 1) (argsE [0, 1, 0] [.i64]) (.ptr 0 0) selF_010_ms := ⟨by kernel_rfl, by kernel_rfl, by kernel_rfl, by kernel_rfl⟩
def selF_011_ms : Ms := ⟨[⟨[.int .u64 (.x 7), .int .u64 (.x 11), .int .u64 (.x 15), .int .u64 (.x 19), .int .u64 (.x 23)], true⟩, ⟨[.int .u64 (.l 1 0), .int .u64 (.l 1 1), .int .u64 (.l 1 2), .int .u64 (.l 1 3), .int .u64 (.l 1 4)], false⟩], selFTr 1 1, 24, 0, 2, 0, [], []⟩
theorem selF_011_run : runOk (body tabW 2 22) (msE [0, 1, 1] 2 1) (argsE [0, 1, 1] [.i64]) (.ptr 0 0) selF_011_ms := ⟨by kernel_rfl, by kernel_rfl, by kernel_rfl, by kernel_rfl⟩
def selF_000_ms : Ms := ⟨[⟨[.int .u64 (.x 7), .int .u64 (.x 11), .int .u64 (.x 15), .int .u64 (.x 19), .int .u64 (.x 23)], true⟩], selFTr 0 0, 24, 0, 1, 0, [], []⟩
theorem selF_000_run : runOk (body tabW 2 22) (msE [0, 0, 0] 1 1) (argsE [0, 0, 0] [.i64]) (.ptr 0 0) selF_000_ms := ⟨by kernel_rfl, by kernel_rfl, by kernel_rfl, by kernel_rfl⟩
def Pre01 : List Int → Prop := fun ns => ∃ c, ns = [c] ∧ (c = 0 ∨ c = 1)
theorem not0 (x : Int) (h : x = 0) : (((18446744073709551615 : Nat) ^^^ (x % 18446744073709551616).toNat : Nat) : Int) % 18446744073709551616 = 18446744073709551615 := by subst h; decide
theorem notM (x : Int) (h : x = 18446744073709551615) : (((18446744073709551615 : Nat) ^^^ (x % 18446744073709551616).toNat : Nat) : Int) % 18446744073709551616 = 0 := by subst h; decide
theorem andM (x a : Int) (hx : x = 18446744073709551615) (h0 : 0 ≤ a) (h1 : a < 18446744073709551616) : (((x % 18446744073709551616).toNat &&& (a % 18446744073709551616).toNat : Nat) : Int) % 18446744073709551616 = a := by
  subst hx
  have e : (18446744073709551615 % 18446744073709551616 : Int).toNat = 2 ^ 64 - 1 := by decide
  rw [e, Nat.and_comm, Nat.and_two_pow_sub_one_eq_mod]
  omega
theorem and0 (x a : Int) (hx : x = 0) : (((x % 18446744073709551616).toNat &&& (a % 18446744073709551616).toNat : Nat) : Int) % 18446744073709551616 = 0 := by
  subst hx
  have e : (0 % 18446744073709551616 : Int).toNat = 0 := by decide
  rw [e, Nat.zero_and]; decide
theorem orZ (x y a : Int) (hx : x = a) (hy : y = 0) (h0 : 0 ≤ a) (h1 : a < 18446744073709551616) : (((x % 18446744073709551616).toNat ||| (y % 18446744073709551616).toNat : Nat) : Int) % 18446744073709551616 = a := by
  subst hx hy
  have e : (0 % 18446744073709551616 : Int).toNat = 0 := by decide
  rw [e, Nat.or_zero]; omega
theorem orZ' (x y a : Int) (hx : x = 0) (hy : y = a) (h0 : 0 ≤ a) (h1 : a < 18446744073709551616) : (((x % 18446744073709551616).toNat ||| (y % 18446744073709551616).toNat : Nat) : Int) % 18446744073709551616 = a := by
  subst hx hy
  have e : (0 % 18446744073709551616 : Int).toNat = 0 := by decide
  rw [e, Nat.zero_or]; omega
set_option maxHeartbeats 4000000 in
theorem selF_math (ρ : Env) (ns : List Int) (p q : Nat) (_ : fits [.i64] ns) (hp : Pre01 ns) (hn : ∀ (j : Nat) m, ns[j]? = some m → ρ.i j = m) (hd : Defs ρ (selFTr p q)) :
    List.map (Sx.val ρ) [.x 7, .x 11, .x 15, .x 19, .x 23] = [(Fe.sem .sel [ρ.e p, ρ.e q] ns []).1.at 0, (Fe.sem .sel [ρ.e p, ρ.e q] ns []).1.at 1, (Fe.sem .sel [ρ.e p, ρ.e q] ns []).1.at 2, (Fe.sem .sel [ρ.e p, ρ.e q] ns []).1.at 3, (Fe.sem .sel [ρ.e p, ρ.e q] ns []).1.at 4] := by
  obtain ⟨c, rfl, hc⟩ := hp
  have hc0 := hn 0 c rfl
  simp only [selFTr, Defs, Ent.def, Fi.sem, List.map_cons, List.map_nil, Sx.val, E5.at, wr, nbits, ub, ubN, Int.reduceToNat, Nat.min_def, Nat.reduceLeDiff, ↓reduceIte, Int.reducePow, and_true] at hd
  simp only [Fe.sem, List.map_cons, List.map_nil, Sx.val, selE]
  have ba0 := E5.at_in (ρ.e p) 0
  have bb0 := E5.at_in (ρ.e q) 0
  have ba1 := E5.at_in (ρ.e p) 1
  have bb1 := E5.at_in (ρ.e q) 1
  have ba2 := E5.at_in (ρ.e p) 2
  have bb2 := E5.at_in (ρ.e q) 2
  have ba3 := E5.at_in (ρ.e p) 3
  have bb3 := E5.at_in (ρ.e q) 3
  have ba4 := E5.at_in (ρ.e p) 4
  have bb4 := E5.at_in (ρ.e q) 4
  simp only [E5.at] at ba0 bb0 ba1 bb1 ba2 bb2 ba3 bb3 ba4 bb4 ⊢
  obtain ⟨d23, d22, d21, d20, d19, d18, d17, d16, d15, d14, d13, d12, d11, d10, d9, d8, d7, d6, d5, d4, d3, d2, d1⟩ := hd
  rw [hc0] at d1
  rcases hc with rfl | rfl
  · have x2 : ρ.i 2 = 18446744073709551615 := by rw [d2, d1]; decide
    have x3 : ρ.i 3 = 0 := by rw [d3, notM _ x2]
    have w0 : ρ.i 5 = 18446744073709551615 := by rw [d5, not0 _ x3]
    have u0 : ρ.i 4 = 0 := by rw [d4]; exact and0 _ _ x3
    have t0 : ρ.i 6 = (ρ.e q).val.a0 := by rw [d6]; exact andM _ _ w0 bb0.1 (by omega)
    have z0 : ρ.i 7 = (ρ.e q).val.a0 := by rw [d7]; exact orZ' _ _ _ u0 t0 bb0.1 (by omega)
    have w1 : ρ.i 9 = 18446744073709551615 := by rw [d9, not0 _ x3]
    have u1 : ρ.i 8 = 0 := by rw [d8]; exact and0 _ _ x3
    have t1 : ρ.i 10 = (ρ.e q).val.a1 := by rw [d10]; exact andM _ _ w1 bb1.1 (by omega)
    have z1 : ρ.i 11 = (ρ.e q).val.a1 := by rw [d11]; exact orZ' _ _ _ u1 t1 bb1.1 (by omega)
    have w2 : ρ.i 13 = 18446744073709551615 := by rw [d13, not0 _ x3]
    have u2 : ρ.i 12 = 0 := by rw [d12]; exact and0 _ _ x3
    have t2 : ρ.i 14 = (ρ.e q).val.a2 := by rw [d14]; exact andM _ _ w2 bb2.1 (by omega)
    have z2 : ρ.i 15 = (ρ.e q).val.a2 := by rw [d15]; exact orZ' _ _ _ u2 t2 bb2.1 (by omega)
    have w3 : ρ.i 17 = 18446744073709551615 := by rw [d17, not0 _ x3]
    have u3 : ρ.i 16 = 0 := by rw [d16]; exact and0 _ _ x3
    have t3 : ρ.i 18 = (ρ.e q).val.a3 := by rw [d18]; exact andM _ _ w3 bb3.1 (by omega)
    have z3 : ρ.i 19 = (ρ.e q).val.a3 := by rw [d19]; exact orZ' _ _ _ u3 t3 bb3.1 (by omega)
    have w4 : ρ.i 21 = 18446744073709551615 := by rw [d21, not0 _ x3]
    have u4 : ρ.i 20 = 0 := by rw [d20]; exact and0 _ _ x3
    have t4 : ρ.i 22 = (ρ.e q).val.a4 := by rw [d22]; exact andM _ _ w4 bb4.1 (by omega)
    have z4 : ρ.i 23 = (ρ.e q).val.a4 := by rw [d23]; exact orZ' _ _ _ u4 t4 bb4.1 (by omega)
    rw [z0, z1, z2, z3, z4]; rfl
  · have x2 : ρ.i 2 = 0 := by rw [d2, d1]; decide
    have x3 : ρ.i 3 = 18446744073709551615 := by rw [d3, not0 _ x2]
    have w0 : ρ.i 5 = 0 := by rw [d5, notM _ x3]
    have u0 : ρ.i 4 = (ρ.e p).val.a0 := by rw [d4]; exact andM _ _ x3 ba0.1 (by omega)
    have t0 : ρ.i 6 = 0 := by rw [d6]; exact and0 _ _ w0
    have z0 : ρ.i 7 = (ρ.e p).val.a0 := by rw [d7]; exact orZ _ _ _ u0 t0 ba0.1 (by omega)
    have w1 : ρ.i 9 = 0 := by rw [d9, notM _ x3]
    have u1 : ρ.i 8 = (ρ.e p).val.a1 := by rw [d8]; exact andM _ _ x3 ba1.1 (by omega)
    have t1 : ρ.i 10 = 0 := by rw [d10]; exact and0 _ _ w1
    have z1 : ρ.i 11 = (ρ.e p).val.a1 := by rw [d11]; exact orZ _ _ _ u1 t1 ba1.1 (by omega)
    have w2 : ρ.i 13 = 0 := by rw [d13, notM _ x3]
    have u2 : ρ.i 12 = (ρ.e p).val.a2 := by rw [d12]; exact andM _ _ x3 ba2.1 (by omega)
    have t2 : ρ.i 14 = 0 := by rw [d14]; exact and0 _ _ w2
    have z2 : ρ.i 15 = (ρ.e p).val.a2 := by rw [d15]; exact orZ _ _ _ u2 t2 ba2.1 (by omega)
    have w3 : ρ.i 17 = 0 := by rw [d17, notM _ x3]
    have u3 : ρ.i 16 = (ρ.e p).val.a3 := by rw [d16]; exact andM _ _ x3 ba3.1 (by omega)
    have t3 : ρ.i 18 = 0 := by rw [d18]; exact and0 _ _ w3
    have z3 : ρ.i 19 = (ρ.e p).val.a3 := by rw [d19]; exact orZ _ _ _ u3 t3 ba3.1 (by omega)
    have w4 : ρ.i 21 = 0 := by rw [d21, notM _ x3]
    have u4 : ρ.i 20 = (ρ.e p).val.a4 := by rw [d20]; exact andM _ _ x3 ba4.1 (by omega)
    have t4 : ρ.i 22 = 0 := by rw [d22]; exact and0 _ _ w4
    have z4 : ρ.i 23 = (ρ.e p).val.a4 := by rw [d23]; exact orZ _ _ _ u4 t4 ba4.1 (by omega)
    rw [z0, z1, z2, z3, z4]; rfl
theorem selF_012_c : PatC Tryd.prog 22 [0, 1, 2] 3 [.i64] (fun el ns => Fe.sem .sel [el 1, el 2] ns []) true Pre01 := by
  refine pat_of_run (ret := true) (ys := [.x 7, .x 11, .x 15, .x 19, .x 23]) (body_ok tabW_ok _ _) selF_012_run (by decide) rfl (by rfl) ?_ ?_
  · intro ρ ns hf hp hn hd
    refine ⟨by simp only [selF_012_ms, selFTr, Asms, Ent.asn, and_true], ?_⟩
    exact selF_math ρ ns 1 2 hf hp hn hd
  · intro el el' ns he
    simp only [he 1 (by omega), he 2 (by omega)]
theorem selF_001_c : PatC Tryd.prog 22 [0, 0, 1] 2 [.i64] (fun el ns => Fe.sem .sel [el 0, el 1] ns []) true Pre01 := by
  refine pat_of_run (ret := true) (ys := [.x 7, .x 11, .x 15, .x 19, .x 23]) (body_ok tabW_ok _ _) selF_001_run (by decide) rfl (by rfl) ?_ ?_
  · intro ρ ns hf hp hn hd
    refine ⟨by simp only [selF_001_ms, selFTr, Asms, Ent.asn, and_true], ?_⟩
    exact selF_math ρ ns 0 1 hf hp hn hd
  · intro el el' ns he
    simp only [he 0 (by omega), he 1 (by omega)]
theorem selF_010_c : PatC Tryd.prog 22 [0, 1, 0] 2 [.i64] (fun el ns => Fe.sem .sel [el 1, el 0] ns []) true Pre01 := by
  refine pat_of_run (ret := true) (ys := [.x 7, .x 11, .x 15, .x 19, .x 23]) (body_ok tabW_ok _ _) selF_010_run (by decide) rfl (by rfl) ?_ ?_
  · intro ρ ns hf hp hn hd
    refine ⟨by simp only [selF_010_ms, selFTr, Asms, Ent.asn, and_true], ?_⟩
    exact selF_math ρ ns 1 0 hf hp hn hd
  · intro el el' ns he
    simp only [he 0 (by omega), he 1 (by omega)]
theorem selF_011_c : PatC Tryd.prog 22 [0, 1, 1] 2 [.i64] (fun el ns => Fe.sem .sel [el 1, el 1] ns []) true Pre01 := by
  refine pat_of_run (ret := true) (ys := [.x 7, .x 11, .x 15, .x 19, .x 23]) (body_ok tabW_ok _ _) selF_011_run (by decide) rfl (by rfl) ?_ ?_
  · intro ρ ns hf hp hn hd
    refine ⟨by simp only [selF_011_ms, selFTr, Asms, Ent.asn, and_true], ?_⟩
    exact selF_math ρ ns 1 1 hf hp hn hd
  · intro el el' ns he
    simp only [he 1 (by omega)]
theorem selF_000_c : PatC Tryd.prog 22 [0, 0, 0] 1 [.i64] (fun el ns => Fe.sem .sel [el 0, el 0] ns []) true Pre01 := by
  refine pat_of_run (ret := true) (ys := [.x 7, .x 11, .x 15, .x 19, .x 23]) (body_ok tabW_ok _ _) selF_000_run (by decide) rfl (by rfl) ?_ ?_
  · intro ρ ns hf hp hn hd
    refine ⟨by simp only [selF_000_ms, selFTr, Asms, Ent.asn, and_true], ?_⟩
    exact selF_math ρ ns 0 0 hf hp hn hd
  · intro el el' ns he
    simp only [he 0 (by omega)]
theorem selF_el : ElC Tryd.prog 22 2 [.i64] (fun es ns => Fe.sem .sel es ns []) true Pre01 := elC2_of selF_012_c selF_001_c selF_010_c selF_011_c selF_000_c
end Go.Proofs.YtpaidbefbkokfaaDoor
