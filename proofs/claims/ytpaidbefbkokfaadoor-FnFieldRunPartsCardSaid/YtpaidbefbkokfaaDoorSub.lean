/- Subtract over elements in memory, as a rule. No condition. -/
import Derived.Test.YtpaidbefbkokfaaDoorElm
namespace Go.Proofs.YtpaidbefbkokfaaDoor
open Go Go.RowKit Go.Lib
set_option linter.unusedVariables false
set_option linter.unusedSimpArgs false
set_option maxRecDepth 100000

def subFTr (p q : Nat) : List Ent := [.di 25 (.add (.u64)) [.x 23, .x 24], .di 24 (.shr (.u64)) [.x 1, .c 51], .di 23 (.and (.u64)) [.x 3, .c 2251799813685247], .di 22 (.add (.u64)) [.x 20, .x 21], .di 21 (.shr (.u64)) [.x 3, .c 51], .di 20 (.and (.u64)) [.x 5, .c 2251799813685247], .di 19 (.add (.u64)) [.x 17, .x 18], .di 18 (.shr (.u64)) [.x 5, .c 51], .di 17 (.and (.u64)) [.x 7, .c 2251799813685247], .di 16 (.add (.u64)) [.x 14, .x 15], .di 15 (.shr (.u64)) [.x 7, .c 51], .di 14 (.and (.u64)) [.x 9, .c 2251799813685247], .di 13 (.add (.u64)) [.x 10, .x 12], .di 12 (.m19) [.x 11], .di 11 (.shr (.u64)) [.x 9, .c 51], .di 10 (.and (.u64)) [.x 1, .c 2251799813685247], .di 9 (.sub (.u64)) [.x 8, .l q 4], .di 8 (.add (.u64)) [.l p 4, .c 4503599627370494], .di 7 (.sub (.u64)) [.x 6, .l q 3], .di 6 (.add (.u64)) [.l p 3, .c 4503599627370494], .di 5 (.sub (.u64)) [.x 4, .l q 2], .di 4 (.add (.u64)) [.l p 2, .c 4503599627370494], .di 3 (.sub (.u64)) [.x 2, .l q 1], .di 2 (.add (.u64)) [.l p 1, .c 4503599627370494], .di 1 (.sub (.u64)) [.x 0, .l q 0], .di 0 (.add (.u64)) [.l p 0, .c 4503599627370458]]
def subF_012_ms : Ms := ⟨[⟨[.int .u64 (.x 13), .int .u64 (.x 25), .int .u64 (.x 22), .int .u64 (.x 19), .int .u64 (.x 16)], true⟩, ⟨[.int .u64 (.l 1 0), .int .u64 (.l 1 1), .int .u64 (.l 1 2), .int .u64 (.l 1 3), .int .u64 (.l 1 4)], false⟩, ⟨[.int .u64 (.l 2 0), .int .u64 (.l 2 1), .int .u64 (.l 2 2), .int .u64 (.l 2 3), .int .u64 (.l 2 4)], false⟩], subFTr 1 2, 26, 0, 3, 0, [], []⟩
theorem subF_012_run : runOk (body tabW 2 13) (msE [0, 1, 2] 3 0) (argsE [0, 1, 2] []) (.ptr 0 0) subF_012_ms := ⟨by kernel_rfl, by kernel_rfl, by kernel_rfl, by kernel_rfl⟩
def subF_001_ms : Ms := ⟨[⟨[.int .u64 (.x 13), .int .u64 (.x 25), .int .u64 (.x 22), .int .u64 (.x 19), .int .u64 (.x 16)], true⟩, ⟨[.int .u64 (.l 1 0), .int .u64 (.l 1 1), .int .u64 (.l 1 2), .int .u64 (.l 1 3), .int .u64 (.l 1 4)], false⟩], subFTr 0 1, 26, 0, 2, 0, [], []⟩
theorem subF_001_run : runOk (body tabW 2 13) (msE [0, 0, 1] 2 0) (argsE [0, 0, 1] []) (.ptr 0 0) subF_001_ms := ⟨by kernel_rfl, by kernel_rfl, by kernel_rfl, by kernel_rfl⟩
def subF_010_ms : Ms := ⟨[⟨[.int .u64 (.x 13), .int .u64 (.x 25), .int .u64 (.x 22), .int .u64 (.x 19), .int .u64 (.x 16)], true⟩, ⟨[.int .u64 (.l 1 0), .int .u64 (.l 1 1), .int .u64 (.l 1 2), .int .u64 (.l 1 3), .int .u64 (.l 1 4)], false⟩], subFTr 1 0, 26, 0, 2, 0, [], []⟩
theorem subF_010_run : runOk (body tabW 2 13) (msE [0, 1, 0] 2 0) (argsE [0, 1, 0] []) (.ptr 0 0) subF_010_ms := ⟨by kernel_rfl, by kernel_rfl, by kernel_rfl, by kernel_rfl⟩
def subF_011_ms : Ms := ⟨[⟨[.int .u64 (.x 13), .int .u64 (.x 25), .int .u64 (.x 22), .int .u64 (.x 19), .int .u64 (.x 16)], true⟩, ⟨[.int .u64 (.l 1 0), .int .u64 (.l 1 1), .int .u64 (.l 1 2), .int .u64 (.l 1 3), .int .u64 (.l 1 4)], false⟩], subFTr 1 1, 26, 0, 2, 0, [], []⟩
theorem subF_011_run : runOk (body tabW 2 13) (msE [0, 1, 1] 2 0) (argsE [0, 1, 1] []) (.ptr 0 0) subF_011_ms := ⟨by kernel_rfl, by kernel_rfl, by kernel_rfl, by kernel_rfl⟩
def subF_000_ms : Ms := ⟨[⟨[.int .u64 (.x 13), .int .u64 (.x 25), .int .u64 (.x 22), .int .u64 (.x 19), .int .u64 (.x 16)], true⟩], subFTr 0 0, 26, 0, 1, 0, [], []⟩
theorem subF_000_run : runOk (body tabW 2 13) (msE [0, 0, 0] 1 0) (argsE [0, 0, 0] []) (.ptr 0 0) subF_000_ms := ⟨by kernel_rfl, by kernel_rfl, by kernel_rfl, by kernel_rfl⟩
set_option maxHeartbeats 4000000 in
theorem subF_math (ρ : Env) (ns : List Int) (p q : Nat) (_ : fits [] ns) (_ : True) (_ : ∀ (j : Nat) m, ns[j]? = some m → ρ.i j = m) (hd : Defs ρ (subFTr p q)) :
    List.map (Sx.val ρ) [.x 13, .x 25, .x 22, .x 19, .x 16] = [(Fe.sem .sub [ρ.e p, ρ.e q] ns []).1.at 0, (Fe.sem .sub [ρ.e p, ρ.e q] ns []).1.at 1, (Fe.sem .sub [ρ.e p, ρ.e q] ns []).1.at 2, (Fe.sem .sub [ρ.e p, ρ.e q] ns []).1.at 3, (Fe.sem .sub [ρ.e p, ρ.e q] ns []).1.at 4] := by
  simp only [subFTr, Defs, Ent.def, Fi.sem, List.map_cons, List.map_nil, Sx.val, E5.at, wr, nbits, ub, ubN, Int.reduceToNat, Nat.min_def, Nat.reduceLeDiff, ↓reduceIte, Int.reducePow, and_true] at hd
  simp only [Fe.sem, List.map_cons, List.map_nil, Sx.val]
  generalize ρ.e p = A at *
  generalize ρ.e q = C at *
  obtain ⟨⟨a0, a1, a2, a3, a4⟩, ha0, ha1, ha2, ha3, ha4, ka0, ka1, ka2, ka3, ka4⟩ := A
  obtain ⟨⟨b0, b1, b2, b3, b4⟩, hb0, hb1, hb2, hb3, hb4, kb0, kb1, kb2, kb3, kb4⟩ := C
  simp only [BD] at ha0 ha1 ha2 ha3 ha4 ka0 ka1 ka2 ka3 ka4 hb0 hb1 hb2 hb3 hb4 kb0 kb1 kb2 kb3 kb4
  dsimp only at hd
  obtain ⟨d25, d24, d23, d22, d21, d20, d19, d18, d17, d16, d15, d14, d13, d12, d11, d10, d9, d8, d7, d6, d5, d4, d3, d2, d1, d0⟩ := hd
  have v0 : ρ.i 1 = a0 + 4503599627370458 - b0 := by rw [d1, d0]; omega
  have v1 : ρ.i 3 = a1 + 4503599627370494 - b1 := by rw [d3, d2]; omega
  have v2 : ρ.i 5 = a2 + 4503599627370494 - b2 := by rw [d5, d4]; omega
  have v3 : ρ.i 7 = a3 + 4503599627370494 - b3 := by rw [d7, d6]; omega
  have v4 : ρ.i 9 = a4 + 4503599627370494 - b4 := by rw [d9, d8]; omega
  simp only [addE, subE, cpL, addL, subL, E5.at]
  have z0 : ρ.i 13 = (a0 + 4503599627370458 - b0) % 2251799813685248 + (a4 + 4503599627370494 - b4) / 2251799813685248 * 19 := by rw [d13, d10, d12, d11, and51 _ (by rw [v0]; omega), v0, v4]; omega
  have z4 : ρ.i 16 = (a4 + 4503599627370494 - b4) % 2251799813685248 + (a3 + 4503599627370494 - b3) / 2251799813685248 := by rw [d16, d14, d15, and51 _ (by rw [v4]; omega), v4, v3]; omega
  have z3 : ρ.i 19 = (a3 + 4503599627370494 - b3) % 2251799813685248 + (a2 + 4503599627370494 - b2) / 2251799813685248 := by rw [d19, d17, d18, and51 _ (by rw [v3]; omega), v3, v2]; omega
  have z2 : ρ.i 22 = (a2 + 4503599627370494 - b2) % 2251799813685248 + (a1 + 4503599627370494 - b1) / 2251799813685248 := by rw [d22, d20, d21, and51 _ (by rw [v2]; omega), v2, v1]; omega
  have z1 : ρ.i 25 = (a1 + 4503599627370494 - b1) % 2251799813685248 + (a0 + 4503599627370458 - b0) / 2251799813685248 := by rw [d25, d23, d24, and51 _ (by rw [v1]; omega), v1, v0]; omega
  rw [z0, z1, z2, z3, z4]
theorem subF_012_c : PatC Tryd.prog 13 [0, 1, 2] 3 [] (fun el ns => Fe.sem .sub [el 1, el 2] ns []) true (fun _ => True) := by
  refine pat_of_run (ret := true) (ys := [.x 13, .x 25, .x 22, .x 19, .x 16]) (body_ok tabW_ok _ _) subF_012_run (by decide) rfl (by rfl) ?_ ?_
  · intro ρ ns hf hp hn hd
    refine ⟨by simp only [subF_012_ms, subFTr, Asms, Ent.asn, and_true], ?_⟩
    exact subF_math ρ ns 1 2 hf hp hn hd
  · intro el el' ns he
    simp only [he 1 (by omega), he 2 (by omega)]
theorem subF_001_c : PatC Tryd.prog 13 [0, 0, 1] 2 [] (fun el ns => Fe.sem .sub [el 0, el 1] ns []) true (fun _ => True) := by
  refine pat_of_run (ret := true) (ys := [.x 13, .x 25, .x 22, .x 19, .x 16]) (body_ok tabW_ok _ _) subF_001_run (by decide) rfl (by rfl) ?_ ?_
  · intro ρ ns hf hp hn hd
    refine ⟨by simp only [subF_001_ms, subFTr, Asms, Ent.asn, and_true], ?_⟩
    exact subF_math ρ ns 0 1 hf hp hn hd
  · intro el el' ns he
    simp only [he 0 (by omega), he 1 (by omega)]
theorem subF_010_c : PatC Tryd.prog 13 [0, 1, 0] 2 [] (fun el ns => Fe.sem .sub [el 1, el 0] ns []) true (fun _ => True) := by
  refine pat_of_run (ret := true) (ys := [.x 13, .x 25, .x 22, .x 19, .x 16]) (body_ok tabW_ok _ _) subF_010_run (by decide) rfl (by rfl) ?_ ?_
  · intro ρ ns hf hp hn hd
    refine ⟨by simp only [subF_010_ms, subFTr, Asms, Ent.asn, and_true], ?_⟩
    exact subF_math ρ ns 1 0 hf hp hn hd
  · intro el el' ns he
    simp only [he 0 (by omega), he 1 (by omega)]
theorem subF_011_c : PatC Tryd.prog 13 [0, 1, 1] 2 [] (fun el ns => Fe.sem .sub [el 1, el 1] ns []) true (fun _ => True) := by
  refine pat_of_run (ret := true) (ys := [.x 13, .x 25, .x 22, .x 19, .x 16]) (body_ok tabW_ok _ _) subF_011_run (by decide) rfl (by rfl) ?_ ?_
  · intro ρ ns hf hp hn hd
    refine ⟨by simp only [subF_011_ms, subFTr, Asms, Ent.asn, and_true], ?_⟩
    exact subF_math ρ ns 1 1 hf hp hn hd
  · intro el el' ns he
    simp only [he 1 (by omega)]
theorem subF_000_c : PatC Tryd.prog 13 [0, 0, 0] 1 [] (fun el ns => Fe.sem .sub [el 0, el 0] ns []) true (fun _ => True) := by
  refine pat_of_run (ret := true) (ys := [.x 13, .x 25, .x 22, .x 19, .x 16]) (body_ok tabW_ok _ _) subF_000_run (by decide) rfl (by rfl) ?_ ?_
  · intro ρ ns hf hp hn hd
    refine ⟨by simp only [subF_000_ms, subFTr, Asms, Ent.asn, and_true], ?_⟩
    exact subF_math ρ ns 0 0 hf hp hn hd
  · intro el el' ns he
    simp only [he 0 (by omega)]
theorem subF_el : ElC Tryd.prog 13 2 [] (fun es ns => Fe.sem .sub es ns []) true (fun _ => True) := elC2_of subF_012_c subF_001_c subF_010_c subF_011_c subF_000_c
end Go.Proofs.YtpaidbefbkokfaaDoor
