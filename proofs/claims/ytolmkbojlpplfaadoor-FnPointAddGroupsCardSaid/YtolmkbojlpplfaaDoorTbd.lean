/- Subtract over elements in memory, as a rule. No condition. -/
import Derived.Test.YtolmkbojlpplfaaDoorElm
import Derived.Test.YtolmkbojlpplfaaDoorSpc
import Derived.Test.YtolmkbojlpplfaaDoorTbt
import Derived.Test.YtolmkbojlpplfaaDoorTbe
namespace Go.Proofs.YtolmkbojlpplfaaDoor
open Go Go.RowKit Go.Lib
set_option linter.unusedVariables false
set_option linter.unusedSimpArgs false
set_option maxRecDepth 100000

def subFTr (p q : Nat) : List Ent := [.di 25 (.add (.u64)) [.x 23, .x 24], .di 24 (.shr (.u64)) [.x 1, .c 51], .di 23 (.and (.u64)) [.x 3, .c 2251799813685247], .di 22 (.add (.u64)) [.x 20, .x 21], .di 21 (.shr (.u64)) [.x 3, .c 51], .di 20 (.and (.u64)) [.x 5, .c 2251799813685247], .di 19 (.add (.u64)) [.x 17, .x 18], .di 18 (.shr (.u64)) [.x 5, .c 51], .di 17 (.and (.u64)) [.x 7, .c 2251799813685247], .di 16 (.add (.u64)) [.x 14, .x 15], .di 15 (.shr (.u64)) [.x 7, .c 51], .di 14 (.and (.u64)) [.x 9, .c 2251799813685247], .di 13 (.add (.u64)) [.x 10, .x 12], .di 12 (.m19) [.x 11], .di 11 (.shr (.u64)) [.x 9, .c 51], .di 10 (.and (.u64)) [.x 1, .c 2251799813685247], .di 9 (.sub (.u64)) [.x 8, .l q 4], .di 8 (.add (.u64)) [.l p 4, .c 4503599627370494], .di 7 (.sub (.u64)) [.x 6, .l q 3], .di 6 (.add (.u64)) [.l p 3, .c 4503599627370494], .di 5 (.sub (.u64)) [.x 4, .l q 2], .di 4 (.add (.u64)) [.l p 2, .c 4503599627370494], .di 3 (.sub (.u64)) [.x 2, .l q 1], .di 2 (.add (.u64)) [.l p 1, .c 4503599627370494], .di 1 (.sub (.u64)) [.x 0, .l q 0], .di 0 (.add (.u64)) [.l p 0, .c 4503599627370458]]
def subF_012_ms : Ms := ⟨[⟨[.int .u64 (.x 13), .int .u64 (.x 25), .int .u64 (.x 22), .int .u64 (.x 19), .int .u64 (.x 16)], true⟩, ⟨[.int .u64 (.l 1 0), .int .u64 (.l 1 1), .int .u64 (.l 1 2), .int .u64 (.l 1 3), .int .u64 (.l 1 4)], false⟩, ⟨[.int .u64 (.l 2 0), .int .u64 (.l 2 1), .int .u64 (.l 2 2), .int .u64 (.l 2 3), .int .u64 (.l 2 4)], false⟩], subFTr 1 2, 26, 0, 3, 0, [], []⟩
theorem subF_012_run : runOk (body tabW 2 58) (msE [0, 1, 2] 3 0) (argsE [0, 1, 2] []) (.ptr 0 0) subF_012_ms := ⟨by kernel_rfl, by kernel_rfl, by kernel_rfl, by kernel_rfl⟩
def subF_001_ms : Ms := ⟨[⟨[.int .u64 (.x 13), .int .u64 (.x 25), .int .u64 (.x 22), .int .u64 (.x 19), .int .u64 (.x 16)], true⟩, ⟨[.int .u64 (.l 1 0), .int .u64 (.l 1 1), .int .u64 (.l 1 2), .int .u64 (.l 1 3), .int .u64 (.l 1 4)], false⟩], subFTr 0 1, 26, 0, 2, 0, [], []⟩
theorem subF_001_run : runOk (body tabW 2 58) (msE [0, 0, 1] 2 0) (argsE [0, 0, 1] []) (.ptr 0 0) subF_001_ms := ⟨by kernel_rfl, by kernel_rfl, by kernel_rfl, by kernel_rfl⟩
def subF_010_ms : Ms := ⟨[⟨[.int .u64 (.x 13), .int .u64 (.x 25), .int .u64 (.x 22), .int .u64 (.x 19), .int .u64 (.x 16)], true⟩, ⟨[.int .u64 (.l 1 0), .int .u64 (.l 1 1), .int .u64 (.l 1 2), .int .u64 (.l 1 3), .int .u64 (.l 1 4)], false⟩], subFTr 1 0, 26, 0, 2, 0, [], []⟩
theorem subF_010_run : runOk (body tabW 2 58) (msE [0, 1, 0] 2 0) (argsE [0, 1, 0] []) (.ptr 0 0) subF_010_ms := ⟨by kernel_rfl, by kernel_rfl, by kernel_rfl, by kernel_rfl⟩
def subF_011_ms : Ms := ⟨[⟨[.int .u64 (.x 13), .int .u64 (.x 25), .int .u64 (.x 22), .int .u64 (.x 19), .int .u64 (.x 16)], true⟩, ⟨[.int .u64 (.l 1 0), .int .u64 (.l 1 1), .int .u64 (.l 1 2), .int .u64 (.l 1 3), .int .u64 (.l 1 4)], false⟩], subFTr 1 1, 26, 0, 2, 0, [], []⟩
theorem subF_011_run : runOk (body tabW 2 58) (msE [0, 1, 1] 2 0) (argsE [0, 1, 1] []) (.ptr 0 0) subF_011_ms := ⟨by kernel_rfl, by kernel_rfl, by kernel_rfl, by kernel_rfl⟩
def subF_000_ms : Ms := ⟨[⟨[.int .u64 (.x 13), .int .u64 (.x 25), .int .u64 (.x 22), .int .u64 (.x 19), .int .u64 (.x 16)], true⟩], subFTr 0 0, 26, 0, 1, 0, [], []⟩
theorem subF_000_run : runOk (body tabW 2 58) (msE [0, 0, 0] 1 0) (argsE [0, 0, 0] []) (.ptr 0 0) subF_000_ms := ⟨by kernel_rfl, by kernel_rfl, by kernel_rfl, by kernel_rfl⟩
set_option maxHeartbeats 4000000 in
theorem subF_math (ρ : Env) (ns : List Int) (p q : Nat) (_ : fits [] ns) (_ : True) (_ : ∀ (j : Nat) m, ns[j]? = some m → ρ.i j = m) (hd : Defs ρ (subFTr p q)) :
    List.map (Sx.val ρ) [.x 13, .x 25, .x 22, .x 19, .x 16] = [(Fe.sem .sub [ρ.e p, ρ.e q] ns []).1.at 0, (Fe.sem .sub [ρ.e p, ρ.e q] ns []).1.at 1, (Fe.sem .sub [ρ.e p, ρ.e q] ns []).1.at 2, (Fe.sem .sub [ρ.e p, ρ.e q] ns []).1.at 3, (Fe.sem .sub [ρ.e p, ρ.e q] ns []).1.at 4] := by
  simp only [subFTr, Defs, Ent.def, Fi.sem, List.map_cons, List.map_nil, Sx.val, E5.at, wr, nbits, ub, ubN, Int.reduceToNat, Nat.min_def, Nat.reduceLeDiff, ↓reduceIte, Int.reducePow, and_true] at hd
  simp only [Fe.sem, List.map_cons, List.map_nil, Sx.val]
  generalize ρ.e p = A at *
  generalize ρ.e q = C at *
  obtain ⟨⟨a0, a1, a2, a3, a4⟩, ha0, ha1, ha2, ha3, ha4, ka0, ka1, ka2, ka3, ka4⟩ := A
  obtain ⟨⟨b0, b1, b2, b3, b4⟩, hb0, hb1, hb2, hb3, hb4, kb0, kb1, kb2, kb3, kb4⟩ := C
  simp only [BD] at ha0 ha1 ha2 ha3 ha4 ka0 ka1 ka2 ka3 ka4 hb0 hb1 hb2 hb3 hb4 kb0 kb1 kb2 kb3 kb4
  dsimp only at hd
  obtain ⟨d25, d24, d23, d22, d21, d20, d19, d18, d17, d16, d15, d14, d13, d12, d11, d10, d9, d8, d7, d6, d5, d4, d3, d2, d1, d0⟩ := hd
  have v0 : ρ.i 1 = a0 + 4503599627370458 - b0 := by rw [d1, d0]; omega
  have v1 : ρ.i 3 = a1 + 4503599627370494 - b1 := by rw [d3, d2]; omega
  have v2 : ρ.i 5 = a2 + 4503599627370494 - b2 := by rw [d5, d4]; omega
  have v3 : ρ.i 7 = a3 + 4503599627370494 - b3 := by rw [d7, d6]; omega
  have v4 : ρ.i 9 = a4 + 4503599627370494 - b4 := by rw [d9, d8]; omega
  simp only [addE, subE, cpL, addL, subL, E5.at]
  have z0 : ρ.i 13 = (a0 + 4503599627370458 - b0) % 2251799813685248 + (a4 + 4503599627370494 - b4) / 2251799813685248 * 19 := by rw [d13, d10, d12, d11, and51 _ (by rw [v0]; omega), v0, v4]; omega
  have z4 : ρ.i 16 = (a4 + 4503599627370494 - b4) % 2251799813685248 + (a3 + 4503599627370494 - b3) / 2251799813685248 := by rw [d16, d14, d15, and51 _ (by rw [v4]; omega), v4, v3]; omega
  have z3 : ρ.i 19 = (a3 + 4503599627370494 - b3) % 2251799813685248 + (a2 + 4503599627370494 - b2) / 2251799813685248 := by rw [d19, d17, d18, and51 _ (by rw [v3]; omega), v3, v2]; omega
  have z2 : ρ.i 22 = (a2 + 4503599627370494 - b2) % 2251799813685248 + (a1 + 4503599627370494 - b1) / 2251799813685248 := by rw [d22, d20, d21, and51 _ (by rw [v2]; omega), v2, v1]; omega
  have z1 : ρ.i 25 = (a1 + 4503599627370494 - b1) % 2251799813685248 + (a0 + 4503599627370458 - b0) / 2251799813685248 := by rw [d25, d23, d24, and51 _ (by rw [v1]; omega), v1, v0]; omega
  rw [z0, z1, z2, z3, z4]
theorem subF_012_c : PatC Tryd.prog 58 [0, 1, 2] 3 [] (fun el ns => Fe.sem .sub [el 1, el 2] ns []) true (fun _ => True) := by
  refine pat_of_run (ret := true) (ys := [.x 13, .x 25, .x 22, .x 19, .x 16]) (body_ok tabW_ok _ _) subF_012_run (by decide) rfl (by rfl) ?_ ?_
  · intro ρ ns hf hp hn hd
    refine ⟨by simp only [subF_012_ms, subFTr, Asms, Ent.asn, and_true], ?_⟩
    exact subF_math ρ ns 1 2 hf hp hn hd
  · intro el el' ns he
    simp only [he 1 (by omega), he 2 (by omega)]
theorem subF_001_c : PatC Tryd.prog 58 [0, 0, 1] 2 [] (fun el ns => Fe.sem .sub [el 0, el 1] ns []) true (fun _ => True) := by
  refine pat_of_run (ret := true) (ys := [.x 13, .x 25, .x 22, .x 19, .x 16]) (body_ok tabW_ok _ _) subF_001_run (by decide) rfl (by rfl) ?_ ?_
  · intro ρ ns hf hp hn hd
    refine ⟨by simp only [subF_001_ms, subFTr, Asms, Ent.asn, and_true], ?_⟩
    exact subF_math ρ ns 0 1 hf hp hn hd
  · intro el el' ns he
    simp only [he 0 (by omega), he 1 (by omega)]
theorem subF_010_c : PatC Tryd.prog 58 [0, 1, 0] 2 [] (fun el ns => Fe.sem .sub [el 1, el 0] ns []) true (fun _ => True) := by
  refine pat_of_run (ret := true) (ys := [.x 13, .x 25, .x 22, .x 19, .x 16]) (body_ok tabW_ok _ _) subF_010_run (by decide) rfl (by rfl) ?_ ?_
  · intro ρ ns hf hp hn hd
    refine ⟨by simp only [subF_010_ms, subFTr, Asms, Ent.asn, and_true], ?_⟩
    exact subF_math ρ ns 1 0 hf hp hn hd
  · intro el el' ns he
    simp only [he 0 (by omega), he 1 (by omega)]
theorem subF_011_c : PatC Tryd.prog 58 [0, 1, 1] 2 [] (fun el ns => Fe.sem .sub [el 1, el 1] ns []) true (fun _ => True) := by
  refine pat_of_run (ret := true) (ys := [.x 13, .x 25, .x 22, .x 19, .x 16]) (body_ok tabW_ok _ _) subF_011_run (by decide) rfl (by rfl) ?_ ?_
  · intro ρ ns hf hp hn hd
    refine ⟨by simp only [subF_011_ms, subFTr, Asms, Ent.asn, and_true], ?_⟩
    exact subF_math ρ ns 1 1 hf hp hn hd
  · intro el el' ns he
    simp only [he 1 (by omega)]
theorem subF_000_c : PatC Tryd.prog 58 [0, 0, 0] 1 [] (fun el ns => Fe.sem .sub [el 0, el 0] ns []) true (fun _ => True) := by
  refine pat_of_run (ret := true) (ys := [.x 13, .x 25, .x 22, .x 19, .x 16]) (body_ok tabW_ok _ _) subF_000_run (by decide) rfl (by rfl) ?_ ?_
  · intro ρ ns hf hp hn hd
    refine ⟨by simp only [subF_000_ms, subFTr, Asms, Ent.asn, and_true], ?_⟩
    exact subF_math ρ ns 0 0 hf hp hn hd
  · intro el el' ns he
    simp only [he 0 (by omega)]
theorem subF_el : ElC Tryd.prog 58 2 [] (fun es ns => Fe.sem .sub es ns []) true (fun _ => True) := elC2_of subF_012_c subF_001_c subF_010_c subF_011_c subF_000_c
end Go.Proofs.YtolmkbojlpplfaaDoor

/- minus of the reference: its contract. No condition. -/
namespace Go.Proofs.YtolmkbojlpplfaaDoor
open Go Go.RowKit
set_option linter.unusedVariables false
set_option linter.unusedSimpArgs false
set_option maxRecDepth 100000

def minT_ms : Ms := ⟨[⟨[.int .u64 (.w 0 0), .int .u64 (.w 0 1), .int .u64 (.w 0 2), .int .u64 (.w 0 3)], true⟩, ⟨[.int .u64 (.w 1 0), .int .u64 (.w 1 1), .int .u64 (.w 1 2), .int .u64 (.w 1 3)], true⟩, ⟨[.int .u64 (.w 2 0), .int .u64 (.w 2 1), .int .u64 (.w 2 2), .int .u64 (.w 2 3)], true⟩, ⟨[.int .u64 (.x 8), .int .u64 (.x 10), .int .u64 (.x 12), .int .u64 (.x 14)], true⟩, ⟨[.int .u64 (.w 0 0), .int .u64 (.w 0 1), .int .u64 (.w 0 2), .int .u64 (.w 0 3)], true⟩, ⟨[.int .u64 (.w 1 0), .int .u64 (.w 1 1), .int .u64 (.w 1 2), .int .u64 (.w 1 3)], true⟩, ⟨[.int .u64 (.x 0), .int .u64 (.x 2), .int .u64 (.x 4), .int .u64 (.x 6)], true⟩, ⟨[.int .u64 (.x 0), .int .u64 (.x 2), .int .u64 (.x 4), .int .u64 (.x 6)], true⟩, ⟨[.int .u64 (.x 0), .int .u64 (.x 2), .int .u64 (.x 4), .int .u64 (.x 6)], true⟩, ⟨[.int .u64 (.x 0), .int .u64 (.x 2), .int .u64 (.x 4), .int .u64 (.x 6)], true⟩, ⟨[.int .u64 (.w 2 0), .int .u64 (.w 2 1), .int .u64 (.w 2 2), .int .u64 (.w 2 3)], true⟩, ⟨[.int .u64 (.x 8), .int .u64 (.x 10), .int .u64 (.x 12), .int .u64 (.x 14)], true⟩, ⟨[.int .u64 (.x 8), .int .u64 (.x 10), .int .u64 (.x 12), .int .u64 (.x 14)], true⟩], [.di 15 (.addC) [.x 6, .w 2 3, .x 13], .di 14 (.addS) [.x 6, .w 2 3, .x 13], .di 13 (.addC) [.x 4, .w 2 2, .x 11], .di 12 (.addS) [.x 4, .w 2 2, .x 11], .di 11 (.addC) [.x 2, .w 2 1, .x 9], .di 10 (.addS) [.x 2, .w 2 1, .x 9], .di 9 (.addC) [.x 0, .w 2 0, .c 0], .di 8 (.addS) [.x 0, .w 2 0, .c 0], .asm (.x 0) true, .db 0 (.eql) [.x 7, .c 1] [] [], .di 7 (.subB) [.w 0 3, .w 1 3, .x 5], .di 6 (.subD) [.w 0 3, .w 1 3, .x 5], .di 5 (.subB) [.w 0 2, .w 1 2, .x 3], .di 4 (.subD) [.w 0 2, .w 1 2, .x 3], .di 3 (.subB) [.w 0 1, .w 1 1, .x 1], .di 2 (.subD) [.w 0 1, .w 1 1, .x 1], .di 1 (.subB) [.w 0 0, .w 1 0, .c 0], .di 0 (.subD) [.w 0 0, .w 1 0, .c 0]], 16, 1, 0, 3, [], []⟩
theorem minT_run : runOk (body tabB 2 46) (msP 3 0 [true]) (argsN [.num, .num, .num] 0 0) (.agg [.int .u64 (.x 8), .int .u64 (.x 10), .int .u64 (.x 12), .int .u64 (.x 14)]) minT_ms := ⟨by kernel_rfl, by kernel_rfl, by kernel_rfl, by kernel_rfl⟩
def minF_ms : Ms := ⟨[⟨[.int .u64 (.w 0 0), .int .u64 (.w 0 1), .int .u64 (.w 0 2), .int .u64 (.w 0 3)], true⟩, ⟨[.int .u64 (.w 1 0), .int .u64 (.w 1 1), .int .u64 (.w 1 2), .int .u64 (.w 1 3)], true⟩, ⟨[.int .u64 (.w 2 0), .int .u64 (.w 2 1), .int .u64 (.w 2 2), .int .u64 (.w 2 3)], true⟩, ⟨[.int .u64 (.x 0), .int .u64 (.x 2), .int .u64 (.x 4), .int .u64 (.x 6)], true⟩, ⟨[.int .u64 (.w 0 0), .int .u64 (.w 0 1), .int .u64 (.w 0 2), .int .u64 (.w 0 3)], true⟩, ⟨[.int .u64 (.w 1 0), .int .u64 (.w 1 1), .int .u64 (.w 1 2), .int .u64 (.w 1 3)], true⟩, ⟨[.int .u64 (.x 0), .int .u64 (.x 2), .int .u64 (.x 4), .int .u64 (.x 6)], true⟩, ⟨[.int .u64 (.x 0), .int .u64 (.x 2), .int .u64 (.x 4), .int .u64 (.x 6)], true⟩, ⟨[.int .u64 (.x 0), .int .u64 (.x 2), .int .u64 (.x 4), .int .u64 (.x 6)], true⟩], [.asm (.x 0) false, .db 0 (.eql) [.x 7, .c 1] [] [], .di 7 (.subB) [.w 0 3, .w 1 3, .x 5], .di 6 (.subD) [.w 0 3, .w 1 3, .x 5], .di 5 (.subB) [.w 0 2, .w 1 2, .x 3], .di 4 (.subD) [.w 0 2, .w 1 2, .x 3], .di 3 (.subB) [.w 0 1, .w 1 1, .x 1], .di 2 (.subD) [.w 0 1, .w 1 1, .x 1], .di 1 (.subB) [.w 0 0, .w 1 0, .c 0], .di 0 (.subD) [.w 0 0, .w 1 0, .c 0]], 8, 1, 0, 3, [], []⟩
theorem minF_run : runOk (body tabB 2 46) (msP 3 0 [false]) (argsN [.num, .num, .num] 0 0) (.agg [.int .u64 (.x 0), .int .u64 (.x 2), .int .u64 (.x 4), .int .u64 (.x 6)]) minF_ms := ⟨by kernel_rfl, by kernel_rfl, by kernel_rfl, by kernel_rfl⟩

theorem min_core {ρ : Env} (hd : Defs ρ minF_ms.tr) : ∃ q3 : Int,
    val4 (ρ.i 0) (ρ.i 2) (ρ.i 4) (ρ.i 6) = ((ρ.n 0 % W4 : Nat) : Int) - ((ρ.n 1 % W4 : Nat) : Int) + 115792089237316195423570985008687907853269984665640564039457584007913129639936 * q3 ∧ (q3 = 0 ∨ q3 = 1) ∧ ρ.b 0 = (q3 == 1) ∧
    ((0 ≤ ρ.i 0 ∧ ρ.i 0 < 18446744073709551616) ∧ (0 ≤ ρ.i 2 ∧ ρ.i 2 < 18446744073709551616) ∧ (0 ≤ ρ.i 4 ∧ ρ.i 4 < 18446744073709551616) ∧ (0 ≤ ρ.i 6 ∧ ρ.i 6 < 18446744073709551616)) := by
  simp only [minF_ms, Defs, Ent.def, Fi.sem, Fb.sem, List.map_cons, List.map_nil, Sx.val, and_true, true_and] at hd
  obtain ⟨db, d7, d6, d5, d4, d3, d2, d1, d0⟩ := hd
  obtain ⟨D, hq, r0, r1, r2, r3⟩ := sub4 (wrd_bd _) (wrd_bd _) d0 d1 d2 d3 d4 d5 d6 d7
  refine ⟨ρ.i 7, ?_, hq, db, r0, r1, r2, r3⟩
  rw [D, wsum, wsum]; simp only [val4]
theorem min_more {ρ : Env} (hd : Defs ρ minT_ms.tr) : Defs ρ minF_ms.tr ∧ ∀ x : Int, x = val4 (ρ.i 0) (ρ.i 2) (ρ.i 4) (ρ.i 6) → (0 ≤ ρ.i 0 ∧ ρ.i 0 < 18446744073709551616 ∧ 0 ≤ ρ.i 2 ∧ ρ.i 2 < 18446744073709551616 ∧ 0 ≤ ρ.i 4 ∧ ρ.i 4 < 18446744073709551616 ∧ 0 ≤ ρ.i 6 ∧ ρ.i 6 < 18446744073709551616) → ∃ c3 : Int,
    val4 (ρ.i 8) (ρ.i 10) (ρ.i 12) (ρ.i 14) + 115792089237316195423570985008687907853269984665640564039457584007913129639936 * c3 = x + ((ρ.n 2 % W4 : Nat) : Int) ∧ (c3 = 0 ∨ c3 = 1) ∧
    ((0 ≤ ρ.i 8 ∧ ρ.i 8 < 18446744073709551616) ∧ (0 ≤ ρ.i 10 ∧ ρ.i 10 < 18446744073709551616) ∧ (0 ≤ ρ.i 12 ∧ ρ.i 12 < 18446744073709551616) ∧ (0 ≤ ρ.i 14 ∧ ρ.i 14 < 18446744073709551616)) := by
  refine ⟨⟨trivial, hd.2.2.2.2.2.2.2.2.2⟩, ?_⟩
  intro x hx hb
  simp only [minT_ms, Defs, Ent.def, Fi.sem, Fb.sem, List.map_cons, List.map_nil, Sx.val, and_true, true_and] at hd
  obtain ⟨d15, d14, d13, d12, d11, d10, d9, d8, db, d7, d6, d5, d4, d3, d2, d1, d0⟩ := hd
  obtain ⟨A, hc, a0, a1, a2, a3⟩ := add4 hb (wrd_bd _) d8 d9 d10 d11 d12 d13 d14 d15
  refine ⟨ρ.i 15, ?_, hc, a0, a1, a2, a3⟩
  rw [A, wsum, hx]; simp only [val4]
theorem minus_c : NumC Tryd.prog 46 [.num, .num, .num] [.num .minus] .one (fun _ _ => True) := by
  intro w ns xs vs hf _
  refine ⟨fun r hr => by simp at hr; subst hr; trivial, ?_⟩
  obtain ⟨a, b, m, rfl, rfl⟩ := fits3 hf
  have hW : W4 = 115792089237316195423570985008687907853269984665640564039457584007913129639936 := rfl
  have ha := mod_lt4 a
  have hb := mod_lt4 b
  have hm := mod_lt4 m
  rw [hW] at ha hb hm
  have goal : (shape .one ([NR.num .minus].map (NR.val [a, b, m] []))) = numV (minusN (a % W4) (b % W4) (m % W4)) := rfl
  rw [goal]
  by_cases hlt : a % W4 < b % W4
  · refine num_of_run (body_ok tabB_ok _ _) minT_run hf (fun ρ ha' hd => ?_) w
    obtain ⟨hd0, hmore⟩ := min_more hd
    obtain ⟨q3, h3, h4, h5, h6⟩ := min_core hd0
    obtain ⟨c3, h8, h9, h7⟩ := hmore _ rfl ⟨h6.1.1, h6.1.2, h6.2.1.1, h6.2.1.2, h6.2.2.1.1, h6.2.2.1.2, h6.2.2.2.1, h6.2.2.2.2⟩
    have n0 : ρ.n 0 = a := ha'.n 0 (by decide)
    have n1 : ρ.n 1 = b := ha'.n 1 (by decide)
    have n2 : ρ.n 2 = m := ha'.n 2 (by decide)
    rw [n0, n1] at h3
    rw [n2] at h8
    have v1 := val4_bd h6.1 h6.2.1 h6.2.2.1 h6.2.2.2
    have v2 := val4_bd h7.1 h7.2.1 h7.2.2.1 h7.2.2.2
    have hq : q3 = 1 := by omega
    refine ⟨by simp only [minT_ms, Asms, Ent.asn, Sb.val, and_true, true_and]; rw [h5, hq]; rfl, fun α v hv => ?_⟩
    rw [agg_val (xs := [.x 8, .x 10, .x 12, .x 14]) hv, numV_of4 h7.1 h7.2.1 h7.2.2.1 h7.2.2.2]
    · rfl
    · unfold minusN; rw [if_pos hlt]; simp only [Nat.reducePow]; omega
  · refine num_of_run (body_ok tabB_ok _ _) minF_run hf (fun ρ ha' hd => ?_) w
    obtain ⟨q3, h3, h4, h5, h6⟩ := min_core hd
    have n0 : ρ.n 0 = a := ha'.n 0 (by decide)
    have n1 : ρ.n 1 = b := ha'.n 1 (by decide)
    rw [n0, n1] at h3
    have v1 := val4_bd h6.1 h6.2.1 h6.2.2.1 h6.2.2.2
    have hq : q3 = 0 := by omega
    refine ⟨by simp only [minF_ms, Asms, Ent.asn, Sb.val, and_true, true_and]; rw [h5, hq]; rfl, fun α v hv => ?_⟩
    rw [agg_val (xs := [.x 0, .x 2, .x 4, .x 6]) hv, numV_of4 h6.1 h6.2.1 h6.2.2.1 h6.2.2.2]
    · rfl
    · unfold minusN; rw [if_neg hlt]; omega
end Go.Proofs.YtolmkbojlpplfaaDoor

/- power of the reference: its contract. No condition. -/
namespace Go.Proofs.YtolmkbojlpplfaaDoor
open Go Go.RowKit
set_option linter.unusedVariables false
set_option linter.unusedSimpArgs false
set_option maxRecDepth 100000
theorem rfl_idpow : (0 : Nat) = idL Tryd.prog 79 := by kernel_rfl

def pwH : Tm := tmS 8 [(3, .ptr 0 0), (4, .ptr 1 0), (5, .ptr 2 0), (6, .ptr 3 0), (7, .ptr 5 0), (8, .int .i64 (.x 0))]
def pwM (o : List Bool) : Ms := ⟨[⟨wrdsS 0 0 4, true⟩, ⟨wrdsS 1 0 4, true⟩, ⟨wrdsS 2 0 4, true⟩, ⟨anys 4, true⟩, ⟨anys 4, true⟩, ⟨wrdsS 3 0 4, true⟩], [], 1, 0, 0, 4, o, []⟩
theorem bitsF_lt {a n m : Nat} : ∀ (k out : Nat), out < W4 → bitsF a n m k out < W4
  | 0, out, h => h
  | k + 1, out, h => by
    simp only [bitsF]
    refine bitsF_lt k _ ?_
    split <;> exact plusN_lt
theorem timesN_lt {a b m : Nat} : timesN a b m < W4 := bitsF_lt 256 0 (by decide)
def pw0_tr : List Ent := []
def pw0_ob : List Ob := [.i (.x 0) (.c 255), .i (.w 0 0) (.w 0 0), .i (.w 0 1) (.w 0 1), .i (.w 0 2) (.w 0 2), .i (.w 0 3) (.w 0 3), .i (.w 1 0) (.w 1 0), .i (.w 1 1) (.w 1 1), .i (.w 1 2) (.w 1 2), .i (.w 1 3) (.w 1 3), .i (.w 2 0) (.w 2 0), .i (.w 2 1) (.w 2 1), .i (.w 2 2) (.w 2 2), .i (.w 2 3) (.w 2 3), .i (.w 3 0) (.c 1), .i (.w 3 1) (.c 0), .i (.w 3 2) (.c 0), .i (.w 3 3) (.c 0)]
theorem pw0_run : runTo Tryd.prog (RR tabT 1) 26 (prL Tryd.prog 79) (argsTm (Tm.full 12) 0 (argsN [.num, .num, .num] 0 0)) (msP 3 0 []) (pwH) (pwM []) = some (.normal, pw0_tr, pw0_ob) := by kernel_rfl
def pwX_tr : List Ent := [.asm (.x 0) false, .db 0 (.geq) [.x 0, .c 0] [] []]
def pwX_ob : List Ob := [.i (.x 0) (.x 0), .i (.w 0 0) (.w 0 0), .i (.w 0 1) (.w 0 1), .i (.w 0 2) (.w 0 2), .i (.w 0 3) (.w 0 3), .i (.w 1 0) (.w 1 0), .i (.w 1 1) (.w 1 1), .i (.w 1 2) (.w 1 2), .i (.w 1 3) (.w 1 3), .i (.w 2 0) (.w 2 0), .i (.w 2 1) (.w 2 1), .i (.w 2 2) (.w 2 2), .i (.w 2 3) (.w 2 3), .i (.w 3 0) (.w 3 0), .i (.w 3 1) (.w 3 1), .i (.w 3 2) (.w 3 2), .i (.w 3 3) (.w 3 3)]
theorem pwX_run : runTo Tryd.prog (RR tabT 1) 26 (flat (lpL Tryd.prog 79)) (pwH) (pwM [false]) (pwH) (pwM []) = some (.exit 0, pwX_tr, pwX_ob) := by kernel_rfl
def pwT_tr : List Ent := [.di 5 (.sub (.i64)) [.x 0, .c 1], .dn 5 (.times) [] [] [4, 0, 2], .asm (.x 4) true, .db 4 (.eql) [.x 4, .c 1] [] [], .di 4 (.and (.u64)) [.x 3, .c 1], .di 3 (.shr (.u64)) [.wi 1 1, .x 2], .asm (.x 3) true, .db 3 (.leq) [.c 0, .x 2] [] [], .di 2 (.rem (.i64)) [.x 0, .c 64], .asm (.x 2) true, .db 2 (.lss) [.x 1, .c 4] [] [], .asm (.x 1) true, .db 1 (.leq) [.c 0, .x 1] [] [], .di 1 (.quo (.i64)) [.x 0, .c 64], .dn 4 (.times) [] [] [3, 3, 2], .asm (.x 0) true, .db 0 (.geq) [.x 0, .c 0] [] []]
def pwT_ob : List Ob := [.i (.x 0) (.x 5), .i (.w 0 0) (.w 0 0), .i (.w 0 1) (.w 0 1), .i (.w 0 2) (.w 0 2), .i (.w 0 3) (.w 0 3), .i (.w 1 0) (.w 1 0), .i (.w 1 1) (.w 1 1), .i (.w 1 2) (.w 1 2), .i (.w 1 3) (.w 1 3), .i (.w 2 0) (.w 2 0), .i (.w 2 1) (.w 2 1), .i (.w 2 2) (.w 2 2), .i (.w 2 3) (.w 2 3), .i (.w 3 0) (.w 5 0), .i (.w 3 1) (.w 5 1), .i (.w 3 2) (.w 5 2), .i (.w 3 3) (.w 5 3)]
theorem pwT_run : runTo Tryd.prog (RR tabT 1) 26 (flat (lpL Tryd.prog 79)) (pwH) (pwM [true, true]) (pwH) (pwM []) = some (.normal, pwT_tr, pwT_ob) := by kernel_rfl
def pwF_tr : List Ent := [.di 5 (.sub (.i64)) [.x 0, .c 1], .asm (.x 4) false, .db 4 (.eql) [.x 4, .c 1] [] [], .di 4 (.and (.u64)) [.x 3, .c 1], .di 3 (.shr (.u64)) [.wi 1 1, .x 2], .asm (.x 3) true, .db 3 (.leq) [.c 0, .x 2] [] [], .di 2 (.rem (.i64)) [.x 0, .c 64], .asm (.x 2) true, .db 2 (.lss) [.x 1, .c 4] [] [], .asm (.x 1) true, .db 1 (.leq) [.c 0, .x 1] [] [], .di 1 (.quo (.i64)) [.x 0, .c 64], .dn 4 (.times) [] [] [3, 3, 2], .asm (.x 0) true, .db 0 (.geq) [.x 0, .c 0] [] []]
def pwF_ob : List Ob := [.i (.x 0) (.x 5), .i (.w 0 0) (.w 0 0), .i (.w 0 1) (.w 0 1), .i (.w 0 2) (.w 0 2), .i (.w 0 3) (.w 0 3), .i (.w 1 0) (.w 1 0), .i (.w 1 1) (.w 1 1), .i (.w 1 2) (.w 1 2), .i (.w 1 3) (.w 1 3), .i (.w 2 0) (.w 2 0), .i (.w 2 1) (.w 2 1), .i (.w 2 2) (.w 2 2), .i (.w 2 3) (.w 2 3), .i (.w 3 0) (.w 4 0), .i (.w 3 1) (.w 4 1), .i (.w 3 2) (.w 4 2), .i (.w 3 3) (.w 4 3)]
theorem pwF_run : runTo Tryd.prog (RR tabT 1) 26 (flat (lpL Tryd.prog 79)) (pwH) (pwM [true, false]) (pwH) (pwM []) = some (.normal, pwF_tr, pwF_ob) := by kernel_rfl
def pwR_tr : List Ent := []
def pwR_mem : List Chunk := [⟨[.int .u64 (.w 0 0), .int .u64 (.w 0 1), .int .u64 (.w 0 2), .int .u64 (.w 0 3)], true⟩, ⟨[.int .u64 (.w 1 0), .int .u64 (.w 1 1), .int .u64 (.w 1 2), .int .u64 (.w 1 3)], true⟩, ⟨[.int .u64 (.w 2 0), .int .u64 (.w 2 1), .int .u64 (.w 2 2), .int .u64 (.w 2 3)], true⟩, ⟨[.int .u64 (.w 3 0), .int .u64 (.w 3 1), .int .u64 (.w 3 2), .int .u64 (.w 3 3)], true⟩, ⟨[.any, .any, .any, .any], true⟩, ⟨[.int .u64 (.w 3 0), .int .u64 (.w 3 1), .int .u64 (.w 3 2), .int .u64 (.w 3 3)], true⟩]
theorem pwR_run : runRet Tryd.prog (RR tabT 1) 26 79 (poL Tryd.prog 79) (pwH) (pwM []) = some ([.agg [.int .u64 (.w 3 0), .int .u64 (.w 3 1), .int .u64 (.w 3 2), .int .u64 (.w 3 3)]], pwR_tr, pwR_mem) := by kernel_rfl
/-- What holds at the head: the arguments, and what is still to be reckoned. -/
def pwI (a b m : Nat) (k : Nat) (ρ : Env) : Prop := k ≤ 256 ∧ ρ.n 0 = a ∧ ρ.n 1 = b ∧ ρ.n 2 = m ∧ ρ.i 0 = (k : Int) - 1 ∧ ρ.n 3 < W4 ∧ powF a b m k (ρ.n 3) = powerN a b m
theorem power_c : NumC Tryd.prog 79 [.num, .num, .num] [.num .power] .one (fun _ _ => True) := by
  intro w ns xs vs hf _
  refine ⟨fun r hr => by simp at hr; subst hr; trivial, ?_⟩
  obtain ⟨a, b, m, rfl, rfl⟩ := fits3 hf
  have goal : (shape .one ([NR.num .power].map (NR.val [a, b, m] []))) = numV (powerN (a % W4) (b % W4) (m % W4)) := rfl
  rw [goal]
  rw [nfits3_mod] at hf
  have hA := mod_lt4 a
  have hB := mod_lt4 b
  have hM := mod_lt4 m
  generalize a % W4 = a at *
  generalize b % W4 = b at *
  generalize m % W4 = m at *
  refine fn_invokes (S := fun _ _ => False) (w0 := w) (ρ := envN [a, b, m] []) (α := fun _ => none) (ms := msP 3 0 []) (by kernel_rfl) MRep.none (fun g c hgc => by simp [msP] at hgc) (numArgs hf) (of_decide_eq_true (by kernel_rfl)) fun ac hr => ?_
  refine fn_loop (by kernel_rfl) ?_
  refine to_head mix_ok (RR_ok tabT_ok _) pw0_run (K := pwI a b m 256) hr (fun ρ ha hd => ⟨by simp only [pw0_tr, Asms], ?_⟩) fun ρH α1 a1 w1 hK _ hr1 => ?_
  · have n0 : ρ.n 0 = a := ha.n 0 (by decide)
    have n1 : ρ.n 1 = b := ha.n 1 (by decide)
    have n2 : ρ.n 2 = m := ha.n 2 (by decide)
    refine ⟨⟨fun _ => 255, ρ.b, ρ.e, fun j => if j = 3 then 1 else ρ.n j, ρ.v⟩, rfl, ?_, ?_⟩
    · simp [pw0_ob, Obs, Ob.ok, Sx.val, word]
    · exact ⟨Nat.le_refl _, n0, n1, n2, rfl, (by decide : (1 : Nat) < W4), rfl⟩
  simp only [SE.toExit, Exit.then, wps]
  refine loop_at (pwI a b m) α1 ?_ 256 ρH α1 a1 w1 hK (Ext.refl _ _) hr1
  intro k ρ α ac1 w1 hI hE hr
  obtain ⟨hk, n0, n1, n2, i0, h3, hb⟩ := hI
  cases k with
  | zero =>
    refine to_head mix_ok (RR_ok tabT_ok _) pwX_run (ms := pwM [false]) (K := fun ρH => ρH.n 3 = powerN a b m) (hr.orc rfl rfl) (fun ρ' ha hd => ?_) fun ρH α' a' w' hK _ hr' => ?_
    · have j0 : ρ'.i 0 = ρ.i 0 := ha.i 0 (by decide)
      have m3 : ρ'.n 3 = ρ.n 3 := ha.n 3 (by decide)
      simp only [pwX_tr, Defs, Ent.def, Fb.sem, List.map_cons, List.map_nil, Sx.val, and_true, true_and] at hd
      refine ⟨by simp only [pwX_tr, Asms, Ent.asn, Sb.val, and_true]; rw [hd]; exact decide_eq_false (by omega), ρ', rfl, by simp only [pwX_ob, Obs, Ob.ok, and_true], ?_⟩
      rw [m3]; exact hb
    · simp only [SE.toExit]
      rw [if_pos rfl_idpow]
      refine to_ret mix_ok (RR_ok tabT_ok _) pwR_run hr' fun ρ' ha hd => ⟨by simp only [pwR_tr, Asms], fun α'' w'' v he hv hm => ?_⟩
      have m3 : ρ'.n 3 = ρH.n 3 := ha.n 3 (by decide)
      exact ⟨by rw [numS_val (n := 3) hv, m3, hK], hm.fr⟩
  | succ k =>
    have hk' : k < 256 := by omega
    have ik : ρ.i 0 = (k : Int) := by omega
    have e256 : ∀ x : Nat, x < W4 → x % W4 = x := fun x hx => Nat.mod_eq_of_lt hx
    cases hbit : b.testBit k with
    | true =>
      refine to_head mix_ok (RR_ok tabT_ok _) pwT_run (ms := pwM [true, true]) (K := pwI a b m k) (hr.orc rfl rfl) (fun ρ' ha hd => ?_) fun ρH α' a' w' hK hE' hr' => ⟨k, ρH, α', Nat.lt_succ_self k, hK, fun c hc => (hE' c hc hc).trans (hE c hc), hr'⟩
      have j0 : ρ'.i 0 = ρ.i 0 := ha.i 0 (by decide)
      have m0 : ρ'.n 0 = ρ.n 0 := ha.n 0 (by decide)
      have m1 : ρ'.n 1 = ρ.n 1 := ha.n 1 (by decide)
      have m2 : ρ'.n 2 = ρ.n 2 := ha.n 2 (by decide)
      have m3 : ρ'.n 3 = ρ.n 3 := ha.n 3 (by decide)
      simp only [pwT_tr, Defs, Ent.def, Fb.sem, Fi.sem, Fn.sem, List.map_cons, List.map_nil, Sx.val, and_true, true_and, nbits, j0, ik, m0, m1, m2, m3, n0, n1, n2, e256 a hA, e256 m hM, e256 (ρ.n 3) h3] at hd
      obtain ⟨d5, p5, b4, d4, d3, b3, d2, b2, b1, d1, p4, b0⟩ := hd
      obtain ⟨t1, t2, t3, t4⟩ := bit_test (n := b) (by omega) (by omega) d1 d2 d3 d4
      rw [e256 (ρ'.n 4) (by rw [p4]; exact timesN_lt), p4] at p5
      refine ⟨?_, ⟨fun _ => ρ'.i 5, ρ'.b, ρ'.e, fun j => if j = 3 then ρ'.n 5 else ρ'.n j, ρ'.v⟩, rfl, ?_, ?_⟩
      · simp only [pwT_tr, Asms, Ent.asn, Sb.val, and_true, true_and]
        refine ⟨?_, ?_, ?_, ?_, ?_⟩
        · rw [b4, t1, Int.toNat_natCast]; exact hbit
        · rw [b3]; exact decide_eq_true t4
        · rw [b2]; exact decide_eq_true t3
        · rw [b1]; exact decide_eq_true t2
        · rw [b0]; exact decide_eq_true (by omega)
      · simp [pwT_ob, Obs, Ob.ok, Sx.val]
      · refine ⟨by omega, by rw [← n0, ← m0]; rfl, by rw [← n1, ← m1]; rfl, by rw [← n2, ← m2]; rfl, ?_, ?_, ?_⟩
        · show ρ'.i 5 = _
          rw [d5]; simp only [wr]; omega
        · show ρ'.n 5 < W4
          rw [p5]; exact timesN_lt
        · show powF a b m k (ρ'.n 5) = _
          rw [← hb, p5]
          simp only [powF, hbit, if_true]
    | false =>
      refine to_head mix_ok (RR_ok tabT_ok _) pwF_run (ms := pwM [true, false]) (K := pwI a b m k) (hr.orc rfl rfl) (fun ρ' ha hd => ?_) fun ρH α' a' w' hK hE' hr' => ⟨k, ρH, α', Nat.lt_succ_self k, hK, fun c hc => (hE' c hc hc).trans (hE c hc), hr'⟩
      have j0 : ρ'.i 0 = ρ.i 0 := ha.i 0 (by decide)
      have m0 : ρ'.n 0 = ρ.n 0 := ha.n 0 (by decide)
      have m1 : ρ'.n 1 = ρ.n 1 := ha.n 1 (by decide)
      have m2 : ρ'.n 2 = ρ.n 2 := ha.n 2 (by decide)
      have m3 : ρ'.n 3 = ρ.n 3 := ha.n 3 (by decide)
      simp only [pwF_tr, Defs, Ent.def, Fb.sem, Fi.sem, Fn.sem, List.map_cons, List.map_nil, Sx.val, and_true, true_and, nbits, j0, ik, m0, m1, m2, m3, n0, n1, n2, e256 a hA, e256 m hM, e256 (ρ.n 3) h3] at hd
      obtain ⟨d5, b4, d4, d3, b3, d2, b2, b1, d1, p4, b0⟩ := hd
      obtain ⟨t1, t2, t3, t4⟩ := bit_test (n := b) (by omega) (by omega) d1 d2 d3 d4
      refine ⟨?_, ⟨fun _ => ρ'.i 5, ρ'.b, ρ'.e, fun j => if j = 3 then ρ'.n 4 else ρ'.n j, ρ'.v⟩, rfl, ?_, ?_⟩
      · simp only [pwF_tr, Asms, Ent.asn, Sb.val, and_true, true_and]
        refine ⟨?_, ?_, ?_, ?_, ?_⟩
        · rw [b4, t1, Int.toNat_natCast]; exact hbit
        · rw [b3]; exact decide_eq_true t4
        · rw [b2]; exact decide_eq_true t3
        · rw [b1]; exact decide_eq_true t2
        · rw [b0]; exact decide_eq_true (by omega)
      · simp [pwF_ob, Obs, Ob.ok, Sx.val]
      · refine ⟨by omega, by rw [← n0, ← m0]; rfl, by rw [← n1, ← m1]; rfl, by rw [← n2, ← m2]; rfl, ?_, ?_, ?_⟩
        · show ρ'.i 5 = _
          rw [d5]; simp only [wr]; omega
        · show ρ'.n 4 < W4
          rw [p4]; exact timesN_lt
        · show powF a b m k (ρ'.n 4) = _
          rw [← hb, p4]
          simp only [powF, hbit]
          rfl
end Go.Proofs.YtolmkbojlpplfaaDoor

/- The table of rules, with Subtract, minus and power. No condition. -/
namespace Go.Proofs.YtolmkbojlpplfaaDoor
open Go Go.RowKit
def tabD : List (Nat × Rule) :=
  (58, elRule 2 [] .sub true noChk) ::
  (46, numRule [.num, .num, .num] [.num .minus] .one noChkN) ::
  (79, numRule [.num, .num, .num] [.num .power] .one noChkN) :: tabE
theorem tabD_ok : TabOk tabD := by
  unfold tabD
  refine .cons (elRule_ok subF_el fun _ _ _ _ _ => trivial) ?_
  refine .cons (numRule_ok minus_c fun _ _ _ _ _ _ => trivial) ?_
  refine .cons (numRule_ok power_c fun _ _ _ _ _ _ => trivial) ?_
  exact tabE_ok
end Go.Proofs.YtolmkbojlpplfaaDoor
