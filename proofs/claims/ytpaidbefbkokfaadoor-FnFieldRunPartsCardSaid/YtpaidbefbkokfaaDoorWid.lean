/- The field's wide arithmetic: mul19, mul, addMul, addMul19, addMul38, shiftRightBy51 as rules. No condition. -/
import Derived.Test.YtpaidbefbkokfaaDoorBit
namespace Go.Proofs.YtpaidbefbkokfaaDoor
open Go Go.RowKit Go.Lib
set_option linter.unusedVariables false
set_option linter.unusedSimpArgs false
set_option maxRecDepth 100000

def mul19_ms : Ms := ⟨[], [.di 4 (.add (.u64)) [.x 0, .x 3], .di 3 (.shl (.u64)) [.x 2, .c 1], .di 2 (.add (.u64)) [.x 0, .x 1], .di 1 (.shl (.u64)) [.x 0, .c 3]], 5, 0, 0, 0, [], []⟩
theorem mul19_run : runOk (body tabB 0 40) (msN 1) ([.int .u64 (.x 0)]) (.int .u64 (.x 4)) mul19_ms := ⟨by kernel_rfl, by kernel_rfl, by kernel_rfl, by kernel_rfl⟩
def mul_ms : Ms := ⟨[⟨[.int .u64 (.x 3), .int .u64 (.x 2)], true⟩], [.di 3 (.mulLo) [.x 0, .x 1], .di 2 (.mulHi) [.x 0, .x 1]], 4, 0, 0, 0, [], []⟩
theorem mul_run : runOk (body tabB 0 42) (msN 2) ([.int .u64 (.x 0), .int .u64 (.x 1)]) (.agg [.int .u64 (.x 3), .int .u64 (.x 2)]) mul_ms := ⟨by kernel_rfl, by kernel_rfl, by kernel_rfl, by kernel_rfl⟩
def addMul_ms : Ms := ⟨[⟨[.int .u64 (.x 0), .int .u64 (.x 1)], true⟩, ⟨[.int .u64 (.x 6), .int .u64 (.x 8)], true⟩], [.di 9 (.addC) [.x 4, .x 1, .x 7], .di 8 (.addS) [.x 4, .x 1, .x 7], .di 7 (.addC) [.x 5, .x 0, .c 0], .di 6 (.addS) [.x 5, .x 0, .c 0], .di 5 (.mulLo) [.x 2, .x 3], .di 4 (.mulHi) [.x 2, .x 3]], 10, 0, 0, 0, [], []⟩
theorem addMul_run : runOk (body tabB 0 45) (msN 4) ([.agg [.int .u64 (.x 0), .int .u64 (.x 1)], .int .u64 (.x 2), .int .u64 (.x 3)]) (.agg [.int .u64 (.x 6), .int .u64 (.x 8)]) addMul_ms := ⟨by kernel_rfl, by kernel_rfl, by kernel_rfl, by kernel_rfl⟩
def addMul19_ms : Ms := ⟨[⟨[.int .u64 (.x 0), .int .u64 (.x 1)], true⟩, ⟨[.int .u64 (.x 10), .int .u64 (.x 12)], true⟩], [.di 13 (.addC) [.x 8, .x 1, .x 11], .di 12 (.addS) [.x 8, .x 1, .x 11], .di 11 (.addC) [.x 9, .x 0, .c 0], .di 10 (.addS) [.x 9, .x 0, .c 0], .di 9 (.mulLo) [.x 7, .x 3], .di 8 (.mulHi) [.x 7, .x 3], .di 7 (.add (.u64)) [.x 2, .x 6], .di 6 (.shl (.u64)) [.x 5, .c 1], .di 5 (.add (.u64)) [.x 2, .x 4], .di 4 (.shl (.u64)) [.x 2, .c 3]], 14, 0, 0, 0, [], []⟩
theorem addMul19_run : runOk (body tabB 1 44) (msN 4) ([.agg [.int .u64 (.x 0), .int .u64 (.x 1)], .int .u64 (.x 2), .int .u64 (.x 3)]) (.agg [.int .u64 (.x 10), .int .u64 (.x 12)]) addMul19_ms := ⟨by kernel_rfl, by kernel_rfl, by kernel_rfl, by kernel_rfl⟩
def addMul38_ms : Ms := ⟨[⟨[.int .u64 (.x 0), .int .u64 (.x 1)], true⟩, ⟨[.int .u64 (.x 11), .int .u64 (.x 13)], true⟩], [.di 14 (.addC) [.x 9, .x 1, .x 12], .di 13 (.addS) [.x 9, .x 1, .x 12], .di 12 (.addC) [.x 10, .x 0, .c 0], .di 11 (.addS) [.x 10, .x 0, .c 0], .di 10 (.mulLo) [.x 7, .x 8], .di 9 (.mulHi) [.x 7, .x 8], .di 8 (.mul (.u64)) [.x 3, .c 2], .di 7 (.add (.u64)) [.x 2, .x 6], .di 6 (.shl (.u64)) [.x 5, .c 1], .di 5 (.add (.u64)) [.x 2, .x 4], .di 4 (.shl (.u64)) [.x 2, .c 3]], 15, 0, 0, 0, [], []⟩
theorem addMul38_run : runOk (body tabB 1 43) (msN 4) ([.agg [.int .u64 (.x 0), .int .u64 (.x 1)], .int .u64 (.x 2), .int .u64 (.x 3)]) (.agg [.int .u64 (.x 11), .int .u64 (.x 13)]) addMul38_ms := ⟨by kernel_rfl, by kernel_rfl, by kernel_rfl, by kernel_rfl⟩
def shr51_ms : Ms := ⟨[⟨[.int .u64 (.x 0), .int .u64 (.x 1)], true⟩], [.di 4 (.or (.u64)) [.x 2, .x 3], .di 3 (.shr (.u64)) [.x 0, .c 51], .di 2 (.shl (.u64)) [.x 1, .c 13]], 5, 0, 0, 0, [], []⟩
theorem shr51_run : runOk (body tabB 0 46) (msN 2) ([.agg [.int .u64 (.x 0), .int .u64 (.x 1)]]) (.int .u64 (.x 4)) shr51_ms := ⟨by kernel_rfl, by kernel_rfl, by kernel_rfl, by kernel_rfl⟩
def mask64_ms : Ms := ⟨[], [.di 3 (.not (.u64)) [.x 2], .di 2 (.sub (.u64)) [.x 1, .c 1], .di 1 (.conv (.u64)) [.x 0]], 4, 0, 0, 0, [], []⟩
theorem mask64_run : runOk (body tabB 0 37) (msN 1) ([.int .i64 (.x 0)]) (.int .u64 (.x 3)) mask64_ms := ⟨by kernel_rfl, by kernel_rfl, by kernel_rfl, by kernel_rfl⟩

theorem or_shift (a b : Nat) (ha : a < 18446744073709551616) (hb : b < 8192) : (a * 8192 % 18446744073709551616) ||| b = a * 8192 % 18446744073709551616 + b := by
  have h1 : a * 8192 % 18446744073709551616 = 2 ^ 13 * (a % 2251799813685248) := by omega
  rw [h1]
  exact (Nat.two_pow_add_eq_or_of_lt (by simpa using hb) _).symm
theorem and51 (x : Int) (h0 : 0 ≤ x) : (((x % 18446744073709551616).toNat &&& (2251799813685247 % 18446744073709551616 : Int).toNat : Nat) : Int) % 18446744073709551616 = x % 18446744073709551616 % 2251799813685248 := by
  have e : (2251799813685247 % 18446744073709551616 : Int).toNat = 2 ^ 51 - 1 := by decide
  rw [e, Nat.and_two_pow_sub_one_eq_mod]
  have : ((x % 18446744073709551616).toNat : Int) = x % 18446744073709551616 := Int.toNat_of_nonneg (by omega)
  omega
theorem mul_bd64 {a b : Int} (h0 : 0 ≤ a) (h1 : 0 ≤ b) (ha : a < 18446744073709551616) (hb : b < 18446744073709551616) : 0 ≤ a * b ∧ a * b ≤ 340282366920938463426481119284349108225 := by
  refine ⟨Int.mul_nonneg h0 h1, ?_⟩
  have := Int.mul_le_mul (show a ≤ 18446744073709551615 by omega) (show b ≤ 18446744073709551615 by omega) h1 (by omega)
  omega
theorem mul19_pure : PureC Tryd.prog 40 [.i .u64] [(.u64, .m19)] .one (fun _ => True) := by
  refine pure_of_run (body_ok tabB_ok 0 _) rfl (rets := [(.u64, .x 4)]) mul19_run (by exact fun _ => rfl) ?_ ?_
  · intro ρ ns hf _ hn hd
    simp only [kindsOf, List.cons_append, List.nil_append, fits, inR, lo, hi] at hf
    obtain ⟨a, _, rfl, ha, rfl⟩ := hf
    have ea := hn 0 a rfl
    simp only [mul19_ms, Defs, Ent.def, Fi.sem, List.map_cons, List.map_nil, Sx.val, wr, nbits, ub, ubN, Int.reduceToNat, Nat.min_def, Nat.reduceLeDiff, ↓reduceIte, Int.reducePow, and_true] at hd
    refine ⟨by simp only [mul19_ms, Asms, Ent.asn, and_true], ?_⟩
    simp only [List.map_cons, List.map_nil, Sx.val, Fi.sem, List.cons.injEq, Prod.mk.injEq, true_and, and_true]
    omega
  · intro ns hf _
    simp only [kindsOf, List.cons_append, List.nil_append, fits, inR, lo, hi] at hf
    obtain ⟨a, _, rfl, ha, rfl⟩ := hf
    intro o ho
    simp only [List.mem_cons, List.not_mem_nil, or_false] at ho
    subst ho
    simp only [Fi.sem, inR, lo, hi]; omega
theorem mul_pure : PureC Tryd.prog 42 [.i .u64, .i .u64] [(.u64, .mulLo), (.u64, .mulHi)] .agg (fun _ => True) := by
  refine pure_of_run (body_ok tabB_ok 0 _) rfl (rets := [(.u64, .x 3), (.u64, .x 2)]) mul_run (by intro e; cases e) ?_ ?_
  · intro ρ ns hf _ hn hd
    simp only [kindsOf, List.cons_append, List.nil_append, fits, inR, lo, hi] at hf
    obtain ⟨a, _, rfl, ha, b, _, rfl, hb, rfl⟩ := hf
    have ea := hn 0 a rfl; have eb := hn 1 b rfl
    simp only [mul_ms, Defs, Ent.def, Fi.sem, List.map_cons, List.map_nil, Sx.val, wr, nbits, ub, ubN, Int.reduceToNat, Nat.min_def, Nat.reduceLeDiff, ↓reduceIte, Int.reducePow, and_true] at hd
    refine ⟨by simp only [mul_ms, Asms, Ent.asn, and_true], ?_⟩
    simp only [List.map_cons, List.map_nil, Sx.val, Fi.sem, List.cons.injEq, Prod.mk.injEq, true_and, and_true]
    rw [hd.1, hd.2, ea, eb]; exact ⟨rfl, rfl⟩
  · intro ns hf _
    simp only [kindsOf, List.cons_append, List.nil_append, fits, inR, lo, hi] at hf
    obtain ⟨a, _, rfl, ha, b, _, rfl, hb, rfl⟩ := hf
    intro o ho
    simp only [List.mem_cons, List.not_mem_nil, or_false] at ho
    have hp := mul_bd64 ha.1 hb.1 ha.2 hb.2
    rcases ho with rfl | rfl <;> (simp only [Fi.sem, inR, lo, hi]; omega)
theorem addMul_pure : PureC Tryd.prog 45 [.a [.u64, .u64], .i .u64, .i .u64] [(.u64, .amLo), (.u64, .amHi)] .agg (fun _ => True) := by
  refine pure_of_run (body_ok tabB_ok 0 _) rfl (rets := [(.u64, .x 6), (.u64, .x 8)]) addMul_run (by intro e; cases e) ?_ ?_
  · intro ρ ns hf _ hn hd
    simp only [kindsOf, List.cons_append, List.nil_append, fits, inR, lo, hi] at hf
    obtain ⟨l, _, rfl, hl, h, _, rfl, hh, a, _, rfl, ha, b, _, rfl, hb, rfl⟩ := hf
    have el := hn 0 l rfl; have eh := hn 1 h rfl; have ea := hn 2 a rfl; have eb := hn 3 b rfl
    simp only [addMul_ms, Defs, Ent.def, Fi.sem, List.map_cons, List.map_nil, Sx.val, wr, nbits, ub, ubN, Int.reduceToNat, Nat.min_def, Nat.reduceLeDiff, ↓reduceIte, Int.reducePow, and_true] at hd
    refine ⟨by simp only [addMul_ms, Asms, Ent.asn, and_true], ?_⟩
    simp only [List.map_cons, List.map_nil, Sx.val, Fi.sem, List.cons.injEq, Prod.mk.injEq, true_and, and_true]
    obtain ⟨_, d8, d7, d6, d5, d4⟩ := hd
    rw [ea, eb] at d5 d4
    rw [el] at d6 d7
    rw [eh] at d8
    have hp := mul_bd64 ha.1 hb.1 ha.2 hb.2
    generalize a * b = m at *
    clear ea eb el eh hn
    rw [d6, d8, d7, d5, d4]
    split <;> omega
  · intro ns hf _
    simp only [kindsOf, List.cons_append, List.nil_append, fits, inR, lo, hi] at hf
    obtain ⟨l, _, rfl, hl, h, _, rfl, hh, a, _, rfl, ha, b, _, rfl, hb, rfl⟩ := hf
    intro o ho
    simp only [List.mem_cons, List.not_mem_nil, or_false] at ho
    rcases ho with rfl | rfl <;> (simp only [Fi.sem, inR, lo, hi]; omega)
theorem addMul19_pure : PureC Tryd.prog 44 [.a [.u64, .u64], .i .u64, .i .u64] [(.u64, .am19Lo), (.u64, .am19Hi)] .agg (fun _ => True) := by
  refine pure_of_run (body_ok tabB_ok 1 _) rfl (rets := [(.u64, .x 10), (.u64, .x 12)]) addMul19_run (by intro e; cases e) ?_ ?_
  · intro ρ ns hf _ hn hd
    simp only [kindsOf, List.cons_append, List.nil_append, fits, inR, lo, hi] at hf
    obtain ⟨l, _, rfl, hl, h, _, rfl, hh, a, _, rfl, ha, b, _, rfl, hb, rfl⟩ := hf
    have el := hn 0 l rfl; have eh := hn 1 h rfl; have ea := hn 2 a rfl; have eb := hn 3 b rfl
    simp only [addMul19_ms, Defs, Ent.def, Fi.sem, List.map_cons, List.map_nil, Sx.val, wr, nbits, ub, ubN, Int.reduceToNat, Nat.min_def, Nat.reduceLeDiff, ↓reduceIte, Int.reducePow, and_true] at hd
    refine ⟨by simp only [addMul19_ms, Asms, Ent.asn, and_true], ?_⟩
    simp only [List.map_cons, List.map_nil, Sx.val, Fi.sem, List.cons.injEq, Prod.mk.injEq, true_and, and_true]
    obtain ⟨_, d12, d11, d10, d9, d8, d7, d6, d5, d4⟩ := hd
    have e7 : ρ.i 7 = a * 19 % 18446744073709551616 := by rw [ea] at d4 d5 d7; omega
    clear d7 d6 d5 d4
    rw [e7, eb] at d9 d8
    rw [el] at d10 d11
    rw [eh] at d12
    have hp := mul_bd64 (a := a * 19 % 18446744073709551616) (b := b) (by omega) hb.1 (by omega) hb.2
    generalize a * 19 % 18446744073709551616 * b = m at *
    clear ea eb el eh hn e7
    rw [d10, d12, d11, d9, d8]
    split <;> omega
  · intro ns hf _
    simp only [kindsOf, List.cons_append, List.nil_append, fits, inR, lo, hi] at hf
    obtain ⟨l, _, rfl, hl, h, _, rfl, hh, a, _, rfl, ha, b, _, rfl, hb, rfl⟩ := hf
    intro o ho
    simp only [List.mem_cons, List.not_mem_nil, or_false] at ho
    rcases ho with rfl | rfl <;> (simp only [Fi.sem, inR, lo, hi]; omega)
theorem addMul38_pure : PureC Tryd.prog 43 [.a [.u64, .u64], .i .u64, .i .u64] [(.u64, .am38Lo), (.u64, .am38Hi)] .agg (fun _ => True) := by
  refine pure_of_run (body_ok tabB_ok 1 _) rfl (rets := [(.u64, .x 11), (.u64, .x 13)]) addMul38_run (by intro e; cases e) ?_ ?_
  · intro ρ ns hf _ hn hd
    simp only [kindsOf, List.cons_append, List.nil_append, fits, inR, lo, hi] at hf
    obtain ⟨l, _, rfl, hl, h, _, rfl, hh, a, _, rfl, ha, b, _, rfl, hb, rfl⟩ := hf
    have el := hn 0 l rfl; have eh := hn 1 h rfl; have ea := hn 2 a rfl; have eb := hn 3 b rfl
    simp only [addMul38_ms, Defs, Ent.def, Fi.sem, List.map_cons, List.map_nil, Sx.val, wr, nbits, ub, ubN, Int.reduceToNat, Nat.min_def, Nat.reduceLeDiff, ↓reduceIte, Int.reducePow, and_true] at hd
    refine ⟨by simp only [addMul38_ms, Asms, Ent.asn, and_true], ?_⟩
    simp only [List.map_cons, List.map_nil, Sx.val, Fi.sem, List.cons.injEq, Prod.mk.injEq, true_and, and_true]
    obtain ⟨_, d13, d12, d11, d10, d9, d8, d7, d6, d5, d4⟩ := hd
    have e7 : ρ.i 7 = a * 19 % 18446744073709551616 := by rw [ea] at d4 d5 d7; omega
    have e8 : ρ.i 8 = b * 2 % 18446744073709551616 := by rw [eb] at d8; exact d8
    clear d8 d7 d6 d5 d4
    rw [e7, e8] at d10 d9
    rw [el] at d11 d12
    rw [eh] at d13
    have hp := mul_bd64 (a := a * 19 % 18446744073709551616) (b := b * 2 % 18446744073709551616) (by omega) (by omega) (by omega) (by omega)
    generalize a * 19 % 18446744073709551616 * (b * 2 % 18446744073709551616) = m at *
    clear ea eb el eh hn e7 e8
    rw [d11, d13, d12, d10, d9]
    split <;> omega
  · intro ns hf _
    simp only [kindsOf, List.cons_append, List.nil_append, fits, inR, lo, hi] at hf
    obtain ⟨l, _, rfl, hl, h, _, rfl, hh, a, _, rfl, ha, b, _, rfl, hb, rfl⟩ := hf
    intro o ho
    simp only [List.mem_cons, List.not_mem_nil, or_false] at ho
    rcases ho with rfl | rfl <;> (simp only [Fi.sem, inR, lo, hi]; omega)
theorem shr51_pure : PureC Tryd.prog 46 [.a [.u64, .u64]] [(.u64, .s51)] .one (fun _ => True) := by
  refine pure_of_run (body_ok tabB_ok 0 _) rfl (rets := [(.u64, .x 4)]) shr51_run (by exact fun _ => rfl) ?_ ?_
  · intro ρ ns hf _ hn hd
    simp only [kindsOf, List.cons_append, List.nil_append, fits, inR, lo, hi] at hf
    obtain ⟨l, _, rfl, hl, h, _, rfl, hh, rfl⟩ := hf
    have el := hn 0 l rfl; have eh := hn 1 h rfl
    simp only [shr51_ms, Defs, Ent.def, Fi.sem, List.map_cons, List.map_nil, Sx.val, wr, nbits, ub, ubN, Int.reduceToNat, Nat.min_def, Nat.reduceLeDiff, ↓reduceIte, Int.reducePow, and_true] at hd
    refine ⟨by simp only [shr51_ms, Asms, Ent.asn, and_true], ?_⟩
    simp only [List.map_cons, List.map_nil, Sx.val, Fi.sem, List.cons.injEq, Prod.mk.injEq, true_and, and_true]
    obtain ⟨d4, d3, d2⟩ := hd
    rw [eh] at d2
    rw [el] at d3
    obtain ⟨L, rfl⟩ := Int.eq_ofNat_of_zero_le hl.1
    obtain ⟨H, rfl⟩ := Int.eq_ofNat_of_zero_le hh.1
    have e1 : (ρ.i 2 % 18446744073709551616).toNat = H * 8192 % 18446744073709551616 := by rw [d2]; omega
    have e2 : (ρ.i 3 % 18446744073709551616).toNat = L / 2251799813685248 := by rw [d3]; omega
    rw [e1, e2, or_shift H _ (by omega) (by omega)] at d4
    rw [d4]; omega
  · intro ns hf _
    simp only [kindsOf, List.cons_append, List.nil_append, fits, inR, lo, hi] at hf
    obtain ⟨l, _, rfl, hl, h, _, rfl, hh, rfl⟩ := hf
    intro o ho
    simp only [List.mem_cons, List.not_mem_nil, or_false] at ho
    subst ho
    simp only [Fi.sem, inR, lo, hi]; omega

def tabW : List (Nat × Rule) :=
  (40, pureRule [.i .u64] [(.u64, .m19)] .one noChk) ::
  (42, pureRule [.i .u64, .i .u64] [(.u64, .mulLo), (.u64, .mulHi)] .agg noChk) ::
  (45, pureRule [.a [.u64, .u64], .i .u64, .i .u64] [(.u64, .amLo), (.u64, .amHi)] .agg noChk) ::
  (44, pureRule [.a [.u64, .u64], .i .u64, .i .u64] [(.u64, .am19Lo), (.u64, .am19Hi)] .agg noChk) ::
  (43, pureRule [.a [.u64, .u64], .i .u64, .i .u64] [(.u64, .am38Lo), (.u64, .am38Hi)] .agg noChk) ::
  (46, pureRule [.a [.u64, .u64]] [(.u64, .s51)] .one noChk) :: tabB
theorem tabW_ok : TabOk tabW := by
  unfold tabW
  have n : ∀ {f : FuncId} {ps : List Pat} {outs : List (IntKind × Fi)} {sh : Shp}, PureC Tryd.prog f ps outs sh (fun _ => True) → RuleOk Tryd.prog f (pureRule ps outs sh noChk) := fun h => pureRule_ok h fun _ _ _ _ _ => trivial
  exact .cons (n mul19_pure) (.cons (n mul_pure) (.cons (n addMul_pure) (.cons (n addMul19_pure) (.cons (n addMul38_pure) (.cons (n shr51_pure) tabB_ok)))))
end Go.Proofs.YtpaidbefbkokfaaDoor
