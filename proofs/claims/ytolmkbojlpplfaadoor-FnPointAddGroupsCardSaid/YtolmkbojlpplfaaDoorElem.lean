/- element of the reference: its contract; numbers modulo another, in plain words. No condition. -/
import Derived.Test.YtolmkbojlpplfaaDoorRed2
namespace Go.Proofs.YtolmkbojlpplfaaDoor
open Go Go.RowKit
set_option linter.unusedVariables false
set_option linter.unusedSimpArgs false
set_option maxRecDepth 100000

theorem plusN_eq {a b m : Nat} (ha : a < m) (hb : b < m) (hm : m ≤ 57896044618658097711785492504343953926634992332820282019728792003956564819968) : plusN a b m = (a + b) % m := by
  unfold plusN
  simp only [Nat.reducePow]
  have h1 : (a + b) % 115792089237316195423570985008687907853269984665640564039457584007913129639936 = a + b := Nat.mod_eq_of_lt (by omega)
  rw [h1]
  split
  · rename_i h; rw [Nat.mod_eq_of_lt h]
  · rename_i h
    rw [Nat.mod_eq_sub_mod (by omega), Nat.mod_eq_of_lt (by omega)]
theorem modstep (x c d m : Nat) : (x % m * c + d) % m = (x * c + d) % m := by
  rw [Nat.add_mod, Nat.mul_mod, Nat.mod_mod, ← Nat.mul_mod, ← Nat.add_mod]
theorem bitsF_eq {a n m : Nat} (ha : a < m) (hm : m ≤ 57896044618658097711785492504343953926634992332820282019728792003956564819968) : ∀ (k o : Nat), o < m → bitsF a n m k o = (o * 2 ^ k + a * (n % 2 ^ k)) % m
  | 0, o, ho => by simp only [bitsF, Nat.pow_zero, Nat.mod_one, Nat.mul_one, Nat.mul_zero, Nat.add_zero, Nat.mod_eq_of_lt ho]
  | k + 1, o, ho => by
    have hm0 : 0 < m := by omega
    have hbit : n % 2 ^ (k + 1) = n % 2 ^ k + 2 ^ k * (if n.testBit k then 1 else 0) := by
      rw [Nat.pow_succ, Nat.mod_mul, Nat.testBit_eq_decide_div_mod_eq]
      have := Nat.mod_lt (n / 2 ^ k) (show 0 < 2 by decide)
      by_cases h : n / 2 ^ k % 2 = 1
      · rw [h]; simp
      · have h0 : n / 2 ^ k % 2 = 0 := by omega
        rw [h0]; simp
    simp only [bitsF]
    rw [plusN_eq ho ho hm]
    have h2 : (o + o) % m < m := Nat.mod_lt _ hm0
    cases hb : n.testBit k with
    | true =>
      simp only [if_true]
      rw [plusN_eq h2 ha hm, bitsF_eq ha hm k _ (Nat.mod_lt _ hm0), hbit, hb]
      simp only [if_true, Nat.mul_one]
      rw [modstep, Nat.add_mul, Nat.add_assoc, modstep]
      congr 1
      rw [Nat.pow_succ]
      grind
    | false =>
      simp only [Bool.false_eq_true, if_false]
      rw [bitsF_eq ha hm k _ h2, hbit, hb]
      simp only [Bool.false_eq_true, if_false, Nat.mul_zero, Nat.add_zero]
      rw [modstep]
      congr 1
      rw [Nat.pow_succ]
      grind
theorem timesN_eq {a b m : Nat} (ha : a < m) (hb : b < W4) (hm : m ≤ 57896044618658097711785492504343953926634992332820282019728792003956564819968) : timesN a b m = a * b % m := by
  unfold timesN
  rw [bitsF_eq ha hm 256 0 (by omega), Nat.zero_mul, Nat.zero_add, ← W4_pow, Nat.mod_eq_of_lt hb]
theorem pP_le : pP ≤ 57896044618658097711785492504343953926634992332820282019728792003956564819968 := by decide
theorem lL_le : lL ≤ 57896044618658097711785492504343953926634992332820282019728792003956564819968 := by decide
theorem red_eq {n m k : Nat} (h1 : 1 < m) (hm : m ≤ 57896044618658097711785492504343953926634992332820282019728792003956564819968) : bitsF 1 n m k 0 = n % 2 ^ k % m := by
  rw [bitsF_eq h1 hm k 0 (by omega), Nat.zero_mul, Nat.zero_add, Nat.one_mul]

def tabR : List (Nat × Rule) := (75, redRule [32, 64]) :: tabT
theorem tabR_ok : TabOk tabR := .cons (redRule_ok fun L hL => by
  simp only [List.mem_cons, List.not_mem_nil, or_false] at hL
  rcases hL with rfl | rfl
  · exact red32_c
  · exact red64_c) tabT_ok
def elem_ms : Ms := ⟨[⟨[.int .u8 (.o 0 0), .int .u8 (.o 0 1), .int .u8 (.o 0 2), .int .u8 (.o 0 3), .int .u8 (.o 0 4), .int .u8 (.o 0 5), .int .u8 (.o 0 6), .int .u8 (.o 0 7), .int .u8 (.o 0 8), .int .u8 (.o 0 9), .int .u8 (.o 0 10), .int .u8 (.o 0 11), .int .u8 (.o 0 12), .int .u8 (.o 0 13), .int .u8 (.o 0 14), .int .u8 (.o 0 15), .int .u8 (.o 0 16), .int .u8 (.o 0 17), .int .u8 (.o 0 18), .int .u8 (.o 0 19), .int .u8 (.o 0 20), .int .u8 (.o 0 21), .int .u8 (.o 0 22), .int .u8 (.o 0 23), .int .u8 (.o 0 24), .int .u8 (.o 0 25), .int .u8 (.o 0 26), .int .u8 (.o 0 27), .int .u8 (.o 0 28), .int .u8 (.o 0 29), .int .u8 (.o 0 30), .int .u8 (.x 0)], true⟩, ⟨[.int .u64 (.w 3 0), .int .u64 (.w 3 1), .int .u64 (.w 3 2), .int .u64 (.w 3 3)], true⟩, ⟨[.int .u64 (.c 18446744073709551597), .int .u64 (.c 18446744073709551615), .int .u64 (.c 18446744073709551615), .int .u64 (.c 9223372036854775807)], true⟩], [.dn 3 (.red 32) [] [] [1, 2], .dn 2 (.ofw) [] [.c 18446744073709551597, .c 18446744073709551615, .c 18446744073709551615, .c 9223372036854775807] [], .dn 1 (.of) [] [.o 0 0, .o 0 1, .o 0 2, .o 0 3, .o 0 4, .o 0 5, .o 0 6, .o 0 7, .o 0 8, .o 0 9, .o 0 10, .o 0 11, .o 0 12, .o 0 13, .o 0 14, .o 0 15, .o 0 16, .o 0 17, .o 0 18, .o 0 19, .o 0 20, .o 0 21, .o 0 22, .o 0 23, .o 0 24, .o 0 25, .o 0 26, .o 0 27, .o 0 28, .o 0 29, .o 0 30, .x 0] [], .di 0 (.and (.u8)) [.o 0 31, .c 127]], 1, 0, 0, 4, [], []⟩
theorem elem_run : runOk (body tabR 1 43) (msP 1 0 []) (argsN [.byt] 0 0) (.agg [.int .u64 (.w 3 0), .int .u64 (.w 3 1), .int .u64 (.w 3 2), .int .u64 (.w 3 3)]) elem_ms := ⟨by kernel_rfl, by kernel_rfl, by kernel_rfl, by kernel_rfl⟩

theorem ofB_app (n : Nat) (y : Int) : ∀ (k i : Nat), ofB (octs n i k ++ [y]) = n / 256 ^ i % 256 ^ k + 256 ^ k * y.toNat
  | 0, i => by simp [octs, ofB, Nat.mod_one]
  | k + 1, i => by
    simp only [octs, List.cons_append, ofB, ofB_app n y k (i + 1), Int.toNat_natCast, octet]
    rw [Nat.pow_succ 256 i, ← Nat.div_div_eq_div_mul, Nat.pow_succ 256 k, Nat.mul_comm (256 ^ k) 256, Nat.mod_mul]
    grind
theorem elem_c : NumC Tryd.prog 43 [.byt] [.num .elem] .one (fun _ _ => True) := by
  intro w ns xs vs hf _
  refine ⟨fun r hr => by simp at hr; subst hr; trivial, ?_⟩
  obtain ⟨a, rfl, rfl⟩ : ∃ a, ns = [a] ∧ xs = [] := by
    match ns, xs, hf with
    | [a], [], h => exact ⟨a, rfl, rfl⟩
    | [], _, h => simp [NFits] at h
    | [a], _ :: _, h => simp [NFits] at h
    | a :: b :: l, xs, h => simp [NFits] at h
  refine num_of_run (body_ok tabR_ok _ _) elem_run hf (fun ρ ha hd => ?_) w
  have n0 : ρ.n 0 = a := ha.n 0 (by decide)
  simp only [elem_ms, Defs, Ent.def, Fi.sem, Fn.sem, List.map_cons, List.map_nil, Sx.val, and_true, n0] at hd
  obtain ⟨d3, d2, d1, d0⟩ := hd
  refine ⟨by simp only [elem_ms, Asms, Ent.asn, and_true], fun α v hv => ?_⟩
  rw [numS_val (n := 3) hv]
  have h2 : ρ.n 2 % W4 = pP := by rw [d2]; decide +kernel
  have x0 : ρ.i 0 = ((octet a 31 % 128 : Nat) : Int) := by
    have ho := octet_lt a 31
    have e1 : ub .u8 ((octet a 31 : Nat) : Int) = octet a 31 := by simp only [ub]; omega
    have e2 : ub .u8 127 = 2 ^ 7 - 1 := by decide
    rw [d0, e1, e2, Nat.and_two_pow_sub_one_eq_mod]
    simp only [wr, Nat.reducePow]; omega
  have h1 : ρ.n 1 = a % 57896044618658097711785492504343953926634992332820282019728792003956564819968 := by
    have : ρ.n 1 = ofB (octs a 0 31 ++ [ρ.i 0]) := d1
    rw [this, ofB_app, x0, Int.toNat_natCast, Nat.pow_zero, Nat.div_one]
    unfold octet
    rw [show (57896044618658097711785492504343953926634992332820282019728792003956564819968 : Nat) = 256 ^ 31 * 128 by decide, Nat.mod_mul, show (256 : Nat) = 128 * 2 by decide, Nat.mod_mul_right_mod]
  show numV (ρ.n 3) = numV (a % 57896044618658097711785492504343953926634992332820282019728792003956564819968 % pP)
  rw [d3, h2, h1, red_eq (by decide) pP_le, Nat.mod_eq_of_lt (b := 2 ^ (8 * 32)) (Nat.lt_of_lt_of_le (Nat.mod_lt _ (by decide)) (by decide))]
end Go.Proofs.YtolmkbojlpplfaaDoor
