/- Mult32 over elements in memory, as a rule. No condition. -/
import Derived.Test.YtpaidbefbkokfaaDoorElm
namespace Go.Proofs.YtpaidbefbkokfaaDoor
open Go Go.RowKit Go.Lib
set_option linter.unusedVariables false
set_option linter.unusedSimpArgs false
set_option maxRecDepth 100000

theorem m32_limb {a n c h l x s t o : Int} (a0 : 0 ≤ a) (ha : a < 2252074691592192) (n0 : 0 ≤ n) (hn : n < 4294967296) (dc : c = n % 18446744073709551616) (dh : h = a * c / 18446744073709551616) (dl : l = a * c % 18446744073709551616)
    (dx : x = (((l % 18446744073709551616).toNat &&& (2251799813685247 % 18446744073709551616 : Int).toNat : Nat) : Int) % 18446744073709551616) (ds : s = h * 8192 % 18446744073709551616) (dt : t = l / 2251799813685248)
    (do' : o = (((s % 18446744073709551616).toNat ||| (t % 18446744073709551616).toNat : Nat) : Int) % 18446744073709551616) : x = a * n % 2251799813685248 ∧ o = a * n / 2251799813685248 := by
  have hc : c = n := by rw [dc]; omega
  subst hc
  clear dc
  have hp := m32_bd a0 ha n0 hn
  generalize a * c = p at *
  have hl : 0 ≤ l := by rw [dl]; omega
  refine ⟨by rw [dx, and51 _ hl, dl]; omega, ?_⟩
  obtain ⟨H, rfl⟩ := Int.eq_ofNat_of_zero_le (show 0 ≤ h by rw [dh]; omega)
  have e1 : (s % 18446744073709551616).toNat = H * 8192 % 18446744073709551616 := by rw [ds]; omega
  obtain ⟨L, rfl⟩ := Int.eq_ofNat_of_zero_le hl
  have e2 : (t % 18446744073709551616).toNat = L / 2251799813685248 := by rw [dt]; omega
  rw [e1, e2, or_shift H _ (by omega) (by omega)] at do'
  rw [do']; omega
def m32FTr (p : Nat) : List Ent := [.di 41 (.add (.u64)) [.x 32, .x 28], .di 40 (.add (.u64)) [.x 25, .x 21], .di 39 (.add (.u64)) [.x 18, .x 14], .di 38 (.add (.u64)) [.x 11, .x 7], .di 37 (.add (.u64)) [.x 4, .x 36], .di 36 (.mul (.u64)) [.c 19, .x 35], .di 35 (.or (.u64)) [.x 33, .x 34], .di 34 (.shr (.u64)) [.x 31, .c 51], .di 33 (.shl (.u64)) [.x 30, .c 13], .di 32 (.and (.u64)) [.x 31, .c 2251799813685247], .di 31 (.mulLo) [.l p 4, .x 29], .di 30 (.mulHi) [.l p 4, .x 29], .di 29 (.conv (.u64)) [.x 0], .di 28 (.or (.u64)) [.x 26, .x 27], .di 27 (.shr (.u64)) [.x 24, .c 51], .di 26 (.shl (.u64)) [.x 23, .c 13], .di 25 (.and (.u64)) [.x 24, .c 2251799813685247], .di 24 (.mulLo) [.l p 3, .x 22], .di 23 (.mulHi) [.l p 3, .x 22], .di 22 (.conv (.u64)) [.x 0], .di 21 (.or (.u64)) [.x 19, .x 20], .di 20 (.shr (.u64)) [.x 17, .c 51], .di 19 (.shl (.u64)) [.x 16, .c 13], .di 18 (.and (.u64)) [.x 17, .c 2251799813685247], .di 17 (.mulLo) [.l p 2, .x 15], .di 16 (.mulHi) [.l p 2, .x 15], .di 15 (.conv (.u64)) [.x 0], .di 14 (.or (.u64)) [.x 12, .x 13], .di 13 (.shr (.u64)) [.x 10, .c 51], .di 12 (.shl (.u64)) [.x 9, .c 13], .di 11 (.and (.u64)) [.x 10, .c 2251799813685247], .di 10 (.mulLo) [.l p 1, .x 8], .di 9 (.mulHi) [.l p 1, .x 8], .di 8 (.conv (.u64)) [.x 0], .di 7 (.or (.u64)) [.x 5, .x 6], .di 6 (.shr (.u64)) [.x 3, .c 51], .di 5 (.shl (.u64)) [.x 2, .c 13], .di 4 (.and (.u64)) [.x 3, .c 2251799813685247], .di 3 (.mulLo) [.l p 0, .x 1], .di 2 (.mulHi) [.l p 0, .x 1], .di 1 (.conv (.u64)) [.x 0]]
def m32F_01_ms : Ms := ⟨[⟨[.int .u64 (.x 37), .int .u64 (.x 38), .int .u64 (.x 39), .int .u64 (.x 40), .int .u64 (.x 41)], true⟩, ⟨[.int .u64 (.l 1 0), .int .u64 (.l 1 1), .int .u64 (.l 1 2), .int .u64 (.l 1 3), .int .u64 (.l 1 4)], false⟩], m32FTr 1, 42, 0, 2, 0, [], []⟩
theorem m32F_01_run : runOk (body tabW 2 17) (msE [0, 1] 2 1) (argsE [0, 1] [.u32]) (.ptr 0 0) m32F_01_ms := ⟨by kernel_rfl, by kernel_rfl, by kernel_rfl, by kernel_rfl⟩
def m32F_00_ms : Ms := ⟨[⟨[.int .u64 (.x 37), .int .u64 (.x 38), .int .u64 (.x 39), .int .u64 (.x 40), .int .u64 (.x 41)], true⟩], m32FTr 0, 42, 0, 1, 0, [], []⟩
theorem m32F_00_run : runOk (body tabW 2 17) (msE [0, 0] 1 1) (argsE [0, 0] [.u32]) (.ptr 0 0) m32F_00_ms := ⟨by kernel_rfl, by kernel_rfl, by kernel_rfl, by kernel_rfl⟩
set_option maxHeartbeats 4000000 in
theorem m32F_math (ρ : Env) (ns : List Int) (p : Nat) (hf : fits [.u32] ns) (_ : True) (hn : ∀ (j : Nat) m, ns[j]? = some m → ρ.i j = m) (hd : Defs ρ (m32FTr p)) :
    List.map (Sx.val ρ) [.x 37, .x 38, .x 39, .x 40, .x 41] = [(Fe.sem .m32 [ρ.e p] ns []).1.at 0, (Fe.sem .m32 [ρ.e p] ns []).1.at 1, (Fe.sem .m32 [ρ.e p] ns []).1.at 2, (Fe.sem .m32 [ρ.e p] ns []).1.at 3, (Fe.sem .m32 [ρ.e p] ns []).1.at 4] := by
  simp only [fits, inR, lo, hi] at hf
  obtain ⟨n, _, rfl, ⟨n0, hn4⟩, rfl⟩ := hf
  have en := hn 0 n rfl
  simp only [m32FTr, Defs, Ent.def, Fi.sem, List.map_cons, List.map_nil, Sx.val, E5.at, wr, nbits, ub, ubN, Int.reduceToNat, Nat.min_def, Nat.reduceLeDiff, ↓reduceIte, Int.reducePow, and_true, en] at hd
  simp only [Fe.sem, m32E, dif_pos (And.intro n0 hn4), List.map_cons, List.map_nil, Sx.val]
  clear en hn
  generalize ρ.e p = A at *
  obtain ⟨⟨a0, a1, a2, a3, a4⟩, ha0, ha1, ha2, ha3, ha4, ka0, ka1, ka2, ka3, ka4⟩ := A
  simp only [BD] at ha0 ha1 ha2 ha3 ha4 ka0 ka1 ka2 ka3 ka4
  dsimp only at hd
  obtain ⟨d41, d40, d39, d38, d37, d36, d35, d34, d33, d32, d31, d30, d29, d28, d27, d26, d25, d24, d23, d22, d21, d20, d19, d18, d17, d16, d15, d14, d13, d12, d11, d10, d9, d8, d7, d6, d5, d4, d3, d2, d1⟩ := hd
  have q0 := m32_limb ha0 ka0 n0 hn4 d1 d2 d3 d4 d5 d6 d7
  have q1 := m32_limb ha1 ka1 n0 hn4 d8 d9 d10 d11 d12 d13 d14
  have q2 := m32_limb ha2 ka2 n0 hn4 d15 d16 d17 d18 d19 d20 d21
  have q3 := m32_limb ha3 ka3 n0 hn4 d22 d23 d24 d25 d26 d27 d28
  have q4 := m32_limb ha4 ka4 n0 hn4 d29 d30 d31 d32 d33 d34 d35
  have y0 := m32_bd ha0 ka0 n0 hn4
  have y1 := m32_bd ha1 ka1 n0 hn4
  have y2 := m32_bd ha2 ka2 n0 hn4
  have y3 := m32_bd ha3 ka3 n0 hn4
  have y4 := m32_bd ha4 ka4 n0 hn4
  clear d1 d2 d3 d4 d5 d6 d7 d8 d9 d10 d11 d12 d13 d14 d15 d16 d17 d18 d19 d20 d21 d22 d23 d24 d25 d26 d27 d28 d29 d30 d31 d32 d33 d34 d35
  simp only [m32L, E5.at]
  generalize a0 * n = p0 at *
  generalize a1 * n = p1 at *
  generalize a2 * n = p2 at *
  generalize a3 * n = p3 at *
  generalize a4 * n = p4 at *
  have z0 : ρ.i 37 = p0 % 2251799813685248 + 19 * (p4 / 2251799813685248) := by rw [d37, d36, q0.1, q4.2]; omega
  have z1 : ρ.i 38 = p1 % 2251799813685248 + p0 / 2251799813685248 := by rw [d38, q1.1, q0.2]; omega
  have z2 : ρ.i 39 = p2 % 2251799813685248 + p1 / 2251799813685248 := by rw [d39, q2.1, q1.2]; omega
  have z3 : ρ.i 40 = p3 % 2251799813685248 + p2 / 2251799813685248 := by rw [d40, q3.1, q2.2]; omega
  have z4 : ρ.i 41 = p4 % 2251799813685248 + p3 / 2251799813685248 := by rw [d41, q4.1, q3.2]; omega
  rw [z0, z1, z2, z3, z4]
theorem m32F_01_c : PatC Tryd.prog 17 [0, 1] 2 [.u32] (fun el ns => Fe.sem .m32 [el 1] ns []) true (fun _ => True) := by
  refine pat_of_run (ret := true) (ys := [.x 37, .x 38, .x 39, .x 40, .x 41]) (body_ok tabW_ok _ _) m32F_01_run (by decide) rfl (by rfl) ?_ ?_
  · intro ρ ns hf hp hn hd
    refine ⟨by simp only [m32F_01_ms, m32FTr, Asms, Ent.asn, and_true], ?_⟩
    exact m32F_math ρ ns 1 hf hp hn hd
  · intro el el' ns he
    simp only [he 1 (by omega)]
theorem m32F_00_c : PatC Tryd.prog 17 [0, 0] 1 [.u32] (fun el ns => Fe.sem .m32 [el 0] ns []) true (fun _ => True) := by
  refine pat_of_run (ret := true) (ys := [.x 37, .x 38, .x 39, .x 40, .x 41]) (body_ok tabW_ok _ _) m32F_00_run (by decide) rfl (by rfl) ?_ ?_
  · intro ρ ns hf hp hn hd
    refine ⟨by simp only [m32F_00_ms, m32FTr, Asms, Ent.asn, and_true], ?_⟩
    exact m32F_math ρ ns 0 hf hp hn hd
  · intro el el' ns he
    simp only [he 0 (by omega)]
theorem m32_el : ElC Tryd.prog 17 1 [.u32] (fun es ns => Fe.sem .m32 es ns []) true (fun _ => True) := elC1_of m32F_01_c m32F_00_c
end Go.Proofs.YtpaidbefbkokfaaDoor
