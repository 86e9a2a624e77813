/- minus of the reference: its contract. No condition. -/
import Derived.Test.YtklgdgeeillpaaaDoorSpc
namespace Go.Proofs.YtklgdgeeillpaaaDoor
open Go Go.RowKit
set_option linter.unusedVariables false
set_option linter.unusedSimpArgs false
set_option maxRecDepth 100000

def minT_ms : Ms := ⟨[⟨[.int .u64 (.w 0 0), .int .u64 (.w 0 1), .int .u64 (.w 0 2), .int .u64 (.w 0 3)], true⟩, ⟨[.int .u64 (.w 1 0), .int .u64 (.w 1 1), .int .u64 (.w 1 2), .int .u64 (.w 1 3)], true⟩, ⟨[.int .u64 (.w 2 0), .int .u64 (.w 2 1), .int .u64 (.w 2 2), .int .u64 (.w 2 3)], true⟩, ⟨[.int .u64 (.x 8), .int .u64 (.x 10), .int .u64 (.x 12), .int .u64 (.x 14)], true⟩, ⟨[.int .u64 (.w 0 0), .int .u64 (.w 0 1), .int .u64 (.w 0 2), .int .u64 (.w 0 3)], true⟩, ⟨[.int .u64 (.w 1 0), .int .u64 (.w 1 1), .int .u64 (.w 1 2), .int .u64 (.w 1 3)], true⟩, ⟨[.int .u64 (.x 0), .int .u64 (.x 2), .int .u64 (.x 4), .int .u64 (.x 6)], true⟩, ⟨[.int .u64 (.x 0), .int .u64 (.x 2), .int .u64 (.x 4), .int .u64 (.x 6)], true⟩, ⟨[.int .u64 (.x 0), .int .u64 (.x 2), .int .u64 (.x 4), .int .u64 (.x 6)], true⟩, ⟨[.int .u64 (.x 0), .int .u64 (.x 2), .int .u64 (.x 4), .int .u64 (.x 6)], true⟩, ⟨[.int .u64 (.w 2 0), .int .u64 (.w 2 1), .int .u64 (.w 2 2), .int .u64 (.w 2 3)], true⟩, ⟨[.int .u64 (.x 8), .int .u64 (.x 10), .int .u64 (.x 12), .int .u64 (.x 14)], true⟩, ⟨[.int .u64 (.x 8), .int .u64 (.x 10), .int .u64 (.x 12), .int .u64 (.x 14)], true⟩], [.di 15 (.addC) [.x 6, .w 2 3, .x 13], .di 14 (.addS) [.x 6, .w 2 3, .x 13], .di 13 (.addC) [.x 4, .w 2 2, .x 11], .di 12 (.addS) [.x 4, .w 2 2, .x 11], .di 11 (.addC) [.x 2, .w 2 1, .x 9], .di 10 (.addS) [.x 2, .w 2 1, .x 9], .di 9 (.addC) [.x 0, .w 2 0, .c 0], .di 8 (.addS) [.x 0, .w 2 0, .c 0], .asm (.x 0) true, .db 0 (.eql) [.x 7, .c 1] [] [], .di 7 (.subB) [.w 0 3, .w 1 3, .x 5], .di 6 (.subD) [.w 0 3, .w 1 3, .x 5], .di 5 (.subB) [.w 0 2, .w 1 2, .x 3], .di 4 (.subD) [.w 0 2, .w 1 2, .x 3], .di 3 (.subB) [.w 0 1, .w 1 1, .x 1], .di 2 (.subD) [.w 0 1, .w 1 1, .x 1], .di 1 (.subB) [.w 0 0, .w 1 0, .c 0], .di 0 (.subD) [.w 0 0, .w 1 0, .c 0]], 16, 1, 0, 3, [], []⟩
theorem minT_run : runOk (body tabB 2 72) (msP 3 0 [true]) (argsN [.num, .num, .num] 0 0) (.agg [.int .u64 (.x 8), .int .u64 (.x 10), .int .u64 (.x 12), .int .u64 (.x 14)]) minT_ms := ⟨by kernel_rfl, by kernel_rfl, by kernel_rfl, by kernel_rfl⟩
def minF_ms : Ms := ⟨[⟨[.int .u64 (.w 0 0), .int .u64 (.w 0 1), .int .u64 (.w 0 2), .int .u64 (.w 0 3)], true⟩, ⟨[.int .u64 (.w 1 0), .int .u64 (.w 1 1), .int .u64 (.w 1 2), .int .u64 (.w 1 3)], true⟩, ⟨[.int .u64 (.w 2 0), .int .u64 (.w 2 1), .int .u64 (.w 2 2), .int .u64 (.w 2 3)], true⟩, ⟨[.int .u64 (.x 0), .int .u64 (.x 2), .int .u64 (.x 4), .int .u64 (.x 6)], true⟩, ⟨[.int .u64 (.w 0 0), .int .u64 (.w 0 1), .int .u64 (.w 0 2), .int .u64 (.w 0 3)], true⟩, ⟨[.int .u64 (.w 1 0), .int .u64 (.w 1 1), .int .u64 (.w 1 2), .int .u64 (.w 1 3)], true⟩, ⟨[.int .u64 (.x 0), .int .u64 (.x 2), .int .u64 (.x 4), .int .u64 (.x 6)], true⟩, ⟨[.int .u64 (.x 0), .int .u64 (.x 2), .int .u64 (.x 4), .int .u64 (.x 6)], true⟩, ⟨[.int .u64 (.x 0), .int .u64 (.x 2), .int .u64 (.x 4), .int .u64 (.x 6)], true⟩], [.asm (.x 0) false, .db 0 (.eql) [.x 7, .c 1] [] [], .di 7 (.subB) [.w 0 3, .w 1 3, .x 5], .di 6 (.subD) [.w 0 3, .w 1 3, .x 5], .di 5 (.subB) [.w 0 2, .w 1 2, .x 3], .di 4 (.subD) [.w 0 2, .w 1 2, .x 3], .di 3 (.subB) [.w 0 1, .w 1 1, .x 1], .di 2 (.subD) [.w 0 1, .w 1 1, .x 1], .di 1 (.subB) [.w 0 0, .w 1 0, .c 0], .di 0 (.subD) [.w 0 0, .w 1 0, .c 0]], 8, 1, 0, 3, [], []⟩
theorem minF_run : runOk (body tabB 2 72) (msP 3 0 [false]) (argsN [.num, .num, .num] 0 0) (.agg [.int .u64 (.x 0), .int .u64 (.x 2), .int .u64 (.x 4), .int .u64 (.x 6)]) minF_ms := ⟨by kernel_rfl, by kernel_rfl, by kernel_rfl, by kernel_rfl⟩

theorem min_core {ρ : Env} (hd : Defs ρ minF_ms.tr) : ∃ q3 : Int,
    val4 (ρ.i 0) (ρ.i 2) (ρ.i 4) (ρ.i 6) = ((ρ.n 0 % W4 : Nat) : Int) - ((ρ.n 1 % W4 : Nat) : Int) + 115792089237316195423570985008687907853269984665640564039457584007913129639936 * q3 ∧ (q3 = 0 ∨ q3 = 1) ∧ ρ.b 0 = (q3 == 1) ∧
    ((0 ≤ ρ.i 0 ∧ ρ.i 0 < 18446744073709551616) ∧ (0 ≤ ρ.i 2 ∧ ρ.i 2 < 18446744073709551616) ∧ (0 ≤ ρ.i 4 ∧ ρ.i 4 < 18446744073709551616) ∧ (0 ≤ ρ.i 6 ∧ ρ.i 6 < 18446744073709551616)) := by
  simp only [minF_ms, Defs, Ent.def, Fi.sem, Fb.sem, List.map_cons, List.map_nil, Sx.val, and_true, true_and] at hd
  obtain ⟨db, d7, d6, d5, d4, d3, d2, d1, d0⟩ := hd
  obtain ⟨D, hq, r0, r1, r2, r3⟩ := sub4 (wrd_bd _) (wrd_bd _) d0 d1 d2 d3 d4 d5 d6 d7
  refine ⟨ρ.i 7, ?_, hq, db, r0, r1, r2, r3⟩
  rw [D, wsum, wsum]; simp only [val4]
theorem min_more {ρ : Env} (hd : Defs ρ minT_ms.tr) : Defs ρ minF_ms.tr ∧ ∀ x : Int, x = val4 (ρ.i 0) (ρ.i 2) (ρ.i 4) (ρ.i 6) → (0 ≤ ρ.i 0 ∧ ρ.i 0 < 18446744073709551616 ∧ 0 ≤ ρ.i 2 ∧ ρ.i 2 < 18446744073709551616 ∧ 0 ≤ ρ.i 4 ∧ ρ.i 4 < 18446744073709551616 ∧ 0 ≤ ρ.i 6 ∧ ρ.i 6 < 18446744073709551616) → ∃ c3 : Int,
    val4 (ρ.i 8) (ρ.i 10) (ρ.i 12) (ρ.i 14) + 115792089237316195423570985008687907853269984665640564039457584007913129639936 * c3 = x + ((ρ.n 2 % W4 : Nat) : Int) ∧ (c3 = 0 ∨ c3 = 1) ∧
    ((0 ≤ ρ.i 8 ∧ ρ.i 8 < 18446744073709551616) ∧ (0 ≤ ρ.i 10 ∧ ρ.i 10 < 18446744073709551616) ∧ (0 ≤ ρ.i 12 ∧ ρ.i 12 < 18446744073709551616) ∧ (0 ≤ ρ.i 14 ∧ ρ.i 14 < 18446744073709551616)) := by
  refine ⟨⟨trivial, hd.2.2.2.2.2.2.2.2.2⟩, ?_⟩
  intro x hx hb
  simp only [minT_ms, Defs, Ent.def, Fi.sem, Fb.sem, List.map_cons, List.map_nil, Sx.val, and_true, true_and] at hd
  obtain ⟨d15, d14, d13, d12, d11, d10, d9, d8, db, d7, d6, d5, d4, d3, d2, d1, d0⟩ := hd
  obtain ⟨A, hc, a0, a1, a2, a3⟩ := add4 hb (wrd_bd _) d8 d9 d10 d11 d12 d13 d14 d15
  refine ⟨ρ.i 15, ?_, hc, a0, a1, a2, a3⟩
  rw [A, wsum, hx]; simp only [val4]
theorem minus_c : NumC Tryd.prog 72 [.num, .num, .num] [.num .minus] .one (fun _ _ => True) := by
  intro w ns xs vs hf _
  refine ⟨fun r hr => by simp at hr; subst hr; trivial, ?_⟩
  obtain ⟨a, b, m, rfl, rfl⟩ := fits3 hf
  have hW : W4 = 115792089237316195423570985008687907853269984665640564039457584007913129639936 := rfl
  have ha := mod_lt4 a
  have hb := mod_lt4 b
  have hm := mod_lt4 m
  rw [hW] at ha hb hm
  have goal : (shape .one ([NR.num .minus].map (NR.val [a, b, m] []))) = numV (minusN (a % W4) (b % W4) (m % W4)) := rfl
  rw [goal]
  by_cases hlt : a % W4 < b % W4
  · refine num_of_run (body_ok tabB_ok _ _) minT_run hf (fun ρ ha' hd => ?_) w
    obtain ⟨hd0, hmore⟩ := min_more hd
    obtain ⟨q3, h3, h4, h5, h6⟩ := min_core hd0
    obtain ⟨c3, h8, h9, h7⟩ := hmore _ rfl ⟨h6.1.1, h6.1.2, h6.2.1.1, h6.2.1.2, h6.2.2.1.1, h6.2.2.1.2, h6.2.2.2.1, h6.2.2.2.2⟩
    have n0 : ρ.n 0 = a := ha'.n 0 (by decide)
    have n1 : ρ.n 1 = b := ha'.n 1 (by decide)
    have n2 : ρ.n 2 = m := ha'.n 2 (by decide)
    rw [n0, n1] at h3
    rw [n2] at h8
    have v1 := val4_bd h6.1 h6.2.1 h6.2.2.1 h6.2.2.2
    have v2 := val4_bd h7.1 h7.2.1 h7.2.2.1 h7.2.2.2
    have hq : q3 = 1 := by omega
    refine ⟨by simp only [minT_ms, Asms, Ent.asn, Sb.val, and_true, true_and]; rw [h5, hq]; rfl, fun α v hv => ?_⟩
    rw [agg_val (xs := [.x 8, .x 10, .x 12, .x 14]) hv, numV_of4 h7.1 h7.2.1 h7.2.2.1 h7.2.2.2]
    · rfl
    · unfold minusN; rw [if_pos hlt]; simp only [Nat.reducePow]; omega
  · refine num_of_run (body_ok tabB_ok _ _) minF_run hf (fun ρ ha' hd => ?_) w
    obtain ⟨q3, h3, h4, h5, h6⟩ := min_core hd
    have n0 : ρ.n 0 = a := ha'.n 0 (by decide)
    have n1 : ρ.n 1 = b := ha'.n 1 (by decide)
    rw [n0, n1] at h3
    have v1 := val4_bd h6.1 h6.2.1 h6.2.2.1 h6.2.2.2
    have hq : q3 = 0 := by omega
    refine ⟨by simp only [minF_ms, Asms, Ent.asn, Sb.val, and_true, true_and]; rw [h5, hq]; rfl, fun α v hv => ?_⟩
    rw [agg_val (xs := [.x 0, .x 2, .x 4, .x 6]) hv, numV_of4 h6.1 h6.2.1 h6.2.2.1 h6.2.2.2]
    · rfl
    · unfold minusN; rw [if_neg hlt]; omega
end Go.Proofs.YtklgdgeeillpaaaDoor
