/- plus, octets and times of the reference: their contracts. No condition. -/
import Derived.Test.YtolmkbojlpplfaaDoorBit
import Derived.Test.YtolmkbojlpplfaaDoorNum
namespace Go.Proofs.YtolmkbojlpplfaaDoor
open Go Go.RowKit
set_option linter.unusedVariables false
set_option linter.unusedSimpArgs false
set_option maxRecDepth 100000

/-! ### four words, added and taken away -/
theorem car {x c : Int} (h0 : 0 ≤ x) (h1 : x < 36893488147419103232) (h : c = if 18446744073709551616 ≤ x then 1 else 0) : c = x / 18446744073709551616 := by split at h <;> omega
theorem bor {x y c : Int} (h : c = if x < y then 1 else 0) : (x < y ∧ c = 1) ∨ (y ≤ x ∧ c = 0) := by split at h <;> omega
/-- A number's words. -/
theorem wsum (n : Nat) : ((n % W4 : Nat) : Int) = (word n 0 : Nat) + 18446744073709551616 * (word n 1 : Nat) + 340282366920938463463374607431768211456 * (word n 2 : Nat) + 6277101735386680763835789423207666416102355444464034512896 * (word n 3 : Nat) := by
  unfold word W4
  simp only [Nat.reducePow]
  omega
def val4 (a b c d : Int) : Int := a + 18446744073709551616 * b + 340282366920938463463374607431768211456 * c + 6277101735386680763835789423207666416102355444464034512896 * d
theorem ofW_val4 {a b c d : Int} (ha : 0 ≤ a) (hb : 0 ≤ b) (hc : 0 ≤ c) (hd : 0 ≤ d) : ((ofW [a, b, c, d] : Nat) : Int) = val4 a b c d := by
  simp only [ofW, val4]; omega
theorem numV_of4 {a b c d : Int} (ha : 0 ≤ a ∧ a < 18446744073709551616) (hb : 0 ≤ b ∧ b < 18446744073709551616) (hc : 0 ≤ c ∧ c < 18446744073709551616) (hd : 0 ≤ d ∧ d < 18446744073709551616) {n : Nat} (h : (n : Int) = val4 a b c d) :
    numV n = .agg #[.int .u64 a, .int .u64 b, .int .u64 c, .int .u64 d] := by
  have e : n = ofW [a, b, c, d] := by have := ofW_val4 ha.1 hb.1 hc.1 hd.1; omega
  unfold numV
  rw [e, ofW4 ha hb hc hd]
  rfl
theorem add4 {a0 a1 a2 a3 b0 b1 b2 b3 s0 s1 s2 s3 c0 c1 c2 c3 : Int} (ha : 0 ≤ a0 ∧ a0 < 18446744073709551616 ∧ 0 ≤ a1 ∧ a1 < 18446744073709551616 ∧ 0 ≤ a2 ∧ a2 < 18446744073709551616 ∧ 0 ≤ a3 ∧ a3 < 18446744073709551616) (hb : 0 ≤ b0 ∧ b0 < 18446744073709551616 ∧ 0 ≤ b1 ∧ b1 < 18446744073709551616 ∧ 0 ≤ b2 ∧ b2 < 18446744073709551616 ∧ 0 ≤ b3 ∧ b3 < 18446744073709551616)
    (e0 : s0 = (a0 + b0 + 0) % 18446744073709551616) (f0 : c0 = if 18446744073709551616 ≤ a0 + b0 + 0 then 1 else 0) (e1 : s1 = (a1 + b1 + c0) % 18446744073709551616) (f1 : c1 = if 18446744073709551616 ≤ a1 + b1 + c0 then 1 else 0)
    (e2 : s2 = (a2 + b2 + c1) % 18446744073709551616) (f2 : c2 = if 18446744073709551616 ≤ a2 + b2 + c1 then 1 else 0) (e3 : s3 = (a3 + b3 + c2) % 18446744073709551616) (f3 : c3 = if 18446744073709551616 ≤ a3 + b3 + c2 then 1 else 0) :
    val4 s0 s1 s2 s3 + 115792089237316195423570985008687907853269984665640564039457584007913129639936 * c3 = val4 a0 a1 a2 a3 + val4 b0 b1 b2 b3 ∧ (c3 = 0 ∨ c3 = 1) ∧ (0 ≤ s0 ∧ s0 < 18446744073709551616) ∧ (0 ≤ s1 ∧ s1 < 18446744073709551616) ∧ (0 ≤ s2 ∧ s2 < 18446744073709551616) ∧ (0 ≤ s3 ∧ s3 < 18446744073709551616) := by
  have g0 := car (by omega) (by omega) f0
  have g1 := car (by omega) (by omega) f1
  have g2 := car (by omega) (by omega) f2
  have g3 := car (by omega) (by omega) f3
  clear f0 f1 f2 f3
  have k0 : s0 + 18446744073709551616 * c0 = a0 + b0 := by omega
  have k1 : s1 + 18446744073709551616 * c1 = a1 + b1 + c0 := by omega
  have k2 : s2 + 18446744073709551616 * c2 = a2 + b2 + c1 := by omega
  have k3 : s3 + 18446744073709551616 * c3 = a3 + b3 + c2 := by omega
  refine ⟨by unfold val4; omega, by omega, by omega, by omega, by omega, by omega⟩
theorem sub4 {a0 a1 a2 a3 b0 b1 b2 b3 s0 s1 s2 s3 c0 c1 c2 c3 : Int} (ha : 0 ≤ a0 ∧ a0 < 18446744073709551616 ∧ 0 ≤ a1 ∧ a1 < 18446744073709551616 ∧ 0 ≤ a2 ∧ a2 < 18446744073709551616 ∧ 0 ≤ a3 ∧ a3 < 18446744073709551616) (hb : 0 ≤ b0 ∧ b0 < 18446744073709551616 ∧ 0 ≤ b1 ∧ b1 < 18446744073709551616 ∧ 0 ≤ b2 ∧ b2 < 18446744073709551616 ∧ 0 ≤ b3 ∧ b3 < 18446744073709551616)
    (e0 : s0 = (a0 - b0 - 0) % 18446744073709551616) (f0 : c0 = if a0 < b0 + 0 then 1 else 0) (e1 : s1 = (a1 - b1 - c0) % 18446744073709551616) (f1 : c1 = if a1 < b1 + c0 then 1 else 0)
    (e2 : s2 = (a2 - b2 - c1) % 18446744073709551616) (f2 : c2 = if a2 < b2 + c1 then 1 else 0) (e3 : s3 = (a3 - b3 - c2) % 18446744073709551616) (f3 : c3 = if a3 < b3 + c2 then 1 else 0) :
    val4 s0 s1 s2 s3 = val4 a0 a1 a2 a3 - val4 b0 b1 b2 b3 + 115792089237316195423570985008687907853269984665640564039457584007913129639936 * c3 ∧ (c3 = 0 ∨ c3 = 1) ∧ (0 ≤ s0 ∧ s0 < 18446744073709551616) ∧ (0 ≤ s1 ∧ s1 < 18446744073709551616) ∧ (0 ≤ s2 ∧ s2 < 18446744073709551616) ∧ (0 ≤ s3 ∧ s3 < 18446744073709551616) := by
  have g0 := bor f0
  have g1 := bor f1
  have g2 := bor f2
  have g3 := bor f3
  clear f0 f1 f2 f3
  have k0 : s0 = a0 - b0 + 18446744073709551616 * c0 := by omega
  have k1 : s1 = a1 - b1 - c0 + 18446744073709551616 * c1 := by omega
  have k2 : s2 = a2 - b2 - c1 + 18446744073709551616 * c2 := by omega
  have k3 : s3 = a3 - b3 - c2 + 18446744073709551616 * c3 := by omega
  refine ⟨by unfold val4; omega, by omega, by omega, by omega, by omega, by omega⟩
theorem val4_bd {a b c d : Int} (ha : 0 ≤ a ∧ a < 18446744073709551616) (hb : 0 ≤ b ∧ b < 18446744073709551616) (hc : 0 ≤ c ∧ c < 18446744073709551616) (hd : 0 ≤ d ∧ d < 18446744073709551616) : 0 ≤ val4 a b c d ∧ val4 a b c d < 115792089237316195423570985008687907853269984665640564039457584007913129639936 := by
  unfold val4; omega
theorem wrd_bd (n : Nat) : 0 ≤ ((word n 0 : Nat) : Int) ∧ ((word n 0 : Nat) : Int) < 18446744073709551616 ∧ 0 ≤ ((word n 1 : Nat) : Int) ∧ ((word n 1 : Nat) : Int) < 18446744073709551616 ∧ 0 ≤ ((word n 2 : Nat) : Int) ∧ ((word n 2 : Nat) : Int) < 18446744073709551616 ∧ 0 ≤ ((word n 3 : Nat) : Int) ∧ ((word n 3 : Nat) : Int) < 18446744073709551616 := by
  have h0 := word_lt n 0; have h1 := word_lt n 1; have h2 := word_lt n 2; have h3 := word_lt n 3
  omega
theorem mod_lt4 (n : Nat) : n % W4 < W4 := Nat.mod_lt _ (by decide)
theorem W4_pow : W4 = 2 ^ 256 := by decide
theorem agg_val {k : IntKind} {ρ : Env} {α : Adr} {xs : List Sx} {v : Value} (h : VRel ρ α (.agg (xs.map (SV.int k))) v) : v = .agg ((xs.map (Sx.val ρ)).map (Value.int k)).toArray := by
  simp only [VRel] at h
  obtain ⟨us, rfl, h⟩ := h
  have : us = (xs.map (Sx.val ρ)).map (Value.int k) := by
    induction xs generalizing us with
    | nil => simpa [VRels] using h
    | cons x xs ih =>
      simp only [List.map_cons, VRels, VRel] at h ⊢
      obtain ⟨u, us', rfl, ⟨rfl, _⟩, h3⟩ := h
      rw [ih us' h3]
  rw [this]

/-! ### three numbers -/
theorem fits3 {ns : List Nat} {xs : List Int} {vs : List Value} (h : NFits [.num, .num, .num] ns xs vs) : ∃ a b m, ns = [a, b, m] ∧ xs = [] := by
  match ns, xs, h with
  | [a, b, m], [], _ => exact ⟨a, b, m, rfl, rfl⟩
  | [], _, h => simp [NFits] at h
  | [a], _, h => simp [NFits] at h
  | [a, b], _, h => simp [NFits] at h
  | [a, b, m], _ :: _, h => simp [NFits] at h
  | a :: b :: m :: d :: l, _, h => simp [NFits] at h
theorem nfits3_mod {a b m : Nat} {vs : List Value} : NFits [.num, .num, .num] [a, b, m] [] vs ↔ NFits [.num, .num, .num] [a % W4, b % W4, m % W4] [] vs := by
  simp only [NFits, numV_mod]
theorem rfl_idtimes : (0 : Nat) = idL Tryd.prog 44 := by kernel_rfl

/-! ### plus -/
def plusT_ms : Ms := ⟨[⟨[.int .u64 (.w 0 0), .int .u64 (.w 0 1), .int .u64 (.w 0 2), .int .u64 (.w 0 3)], true⟩, ⟨[.int .u64 (.w 1 0), .int .u64 (.w 1 1), .int .u64 (.w 1 2), .int .u64 (.w 1 3)], true⟩, ⟨[.int .u64 (.w 2 0), .int .u64 (.w 2 1), .int .u64 (.w 2 2), .int .u64 (.w 2 3)], true⟩, ⟨[.int .u64 (.x 0), .int .u64 (.x 2), .int .u64 (.x 4), .int .u64 (.x 6)], true⟩, ⟨[.int .u64 (.w 0 0), .int .u64 (.w 0 1), .int .u64 (.w 0 2), .int .u64 (.w 0 3)], true⟩, ⟨[.int .u64 (.w 1 0), .int .u64 (.w 1 1), .int .u64 (.w 1 2), .int .u64 (.w 1 3)], true⟩, ⟨[.int .u64 (.x 0), .int .u64 (.x 2), .int .u64 (.x 4), .int .u64 (.x 6)], true⟩, ⟨[.int .u64 (.x 0), .int .u64 (.x 2), .int .u64 (.x 4), .int .u64 (.x 6)], true⟩, ⟨[.int .u64 (.x 0), .int .u64 (.x 2), .int .u64 (.x 4), .int .u64 (.x 6)], true⟩, ⟨[.int .u64 (.x 0), .int .u64 (.x 2), .int .u64 (.x 4), .int .u64 (.x 6)], true⟩, ⟨[.int .u64 (.w 2 0), .int .u64 (.w 2 1), .int .u64 (.w 2 2), .int .u64 (.w 2 3)], true⟩, ⟨[.int .u64 (.x 8), .int .u64 (.x 10), .int .u64 (.x 12), .int .u64 (.x 14)], true⟩, ⟨[.int .u64 (.x 8), .int .u64 (.x 10), .int .u64 (.x 12), .int .u64 (.x 14)], true⟩, ⟨[.int .u64 (.x 8), .int .u64 (.x 10), .int .u64 (.x 12), .int .u64 (.x 14)], true⟩], [.asm (.x 0) true, .db 0 (.eql) [.x 15, .c 1] [] [], .di 15 (.subB) [.x 6, .w 2 3, .x 13], .di 14 (.subD) [.x 6, .w 2 3, .x 13], .di 13 (.subB) [.x 4, .w 2 2, .x 11], .di 12 (.subD) [.x 4, .w 2 2, .x 11], .di 11 (.subB) [.x 2, .w 2 1, .x 9], .di 10 (.subD) [.x 2, .w 2 1, .x 9], .di 9 (.subB) [.x 0, .w 2 0, .c 0], .di 8 (.subD) [.x 0, .w 2 0, .c 0], .di 7 (.addC) [.w 0 3, .w 1 3, .x 5], .di 6 (.addS) [.w 0 3, .w 1 3, .x 5], .di 5 (.addC) [.w 0 2, .w 1 2, .x 3], .di 4 (.addS) [.w 0 2, .w 1 2, .x 3], .di 3 (.addC) [.w 0 1, .w 1 1, .x 1], .di 2 (.addS) [.w 0 1, .w 1 1, .x 1], .di 1 (.addC) [.w 0 0, .w 1 0, .c 0], .di 0 (.addS) [.w 0 0, .w 1 0, .c 0]], 16, 1, 0, 3, [], []⟩
theorem plusT_run : runOk (body tabB 2 48) (msP 3 0 [true]) (argsN [.num, .num, .num] 0 0) (.agg [.int .u64 (.x 0), .int .u64 (.x 2), .int .u64 (.x 4), .int .u64 (.x 6)]) plusT_ms := ⟨by kernel_rfl, by kernel_rfl, by kernel_rfl, by kernel_rfl⟩
def plusF_ms : Ms := ⟨[⟨[.int .u64 (.w 0 0), .int .u64 (.w 0 1), .int .u64 (.w 0 2), .int .u64 (.w 0 3)], true⟩, ⟨[.int .u64 (.w 1 0), .int .u64 (.w 1 1), .int .u64 (.w 1 2), .int .u64 (.w 1 3)], true⟩, ⟨[.int .u64 (.w 2 0), .int .u64 (.w 2 1), .int .u64 (.w 2 2), .int .u64 (.w 2 3)], true⟩, ⟨[.int .u64 (.x 8), .int .u64 (.x 10), .int .u64 (.x 12), .int .u64 (.x 14)], true⟩, ⟨[.int .u64 (.w 0 0), .int .u64 (.w 0 1), .int .u64 (.w 0 2), .int .u64 (.w 0 3)], true⟩, ⟨[.int .u64 (.w 1 0), .int .u64 (.w 1 1), .int .u64 (.w 1 2), .int .u64 (.w 1 3)], true⟩, ⟨[.int .u64 (.x 0), .int .u64 (.x 2), .int .u64 (.x 4), .int .u64 (.x 6)], true⟩, ⟨[.int .u64 (.x 0), .int .u64 (.x 2), .int .u64 (.x 4), .int .u64 (.x 6)], true⟩, ⟨[.int .u64 (.x 0), .int .u64 (.x 2), .int .u64 (.x 4), .int .u64 (.x 6)], true⟩, ⟨[.int .u64 (.x 0), .int .u64 (.x 2), .int .u64 (.x 4), .int .u64 (.x 6)], true⟩, ⟨[.int .u64 (.w 2 0), .int .u64 (.w 2 1), .int .u64 (.w 2 2), .int .u64 (.w 2 3)], true⟩, ⟨[.int .u64 (.x 8), .int .u64 (.x 10), .int .u64 (.x 12), .int .u64 (.x 14)], true⟩, ⟨[.int .u64 (.x 8), .int .u64 (.x 10), .int .u64 (.x 12), .int .u64 (.x 14)], true⟩, ⟨[.int .u64 (.x 8), .int .u64 (.x 10), .int .u64 (.x 12), .int .u64 (.x 14)], true⟩], [.asm (.x 0) false, .db 0 (.eql) [.x 15, .c 1] [] [], .di 15 (.subB) [.x 6, .w 2 3, .x 13], .di 14 (.subD) [.x 6, .w 2 3, .x 13], .di 13 (.subB) [.x 4, .w 2 2, .x 11], .di 12 (.subD) [.x 4, .w 2 2, .x 11], .di 11 (.subB) [.x 2, .w 2 1, .x 9], .di 10 (.subD) [.x 2, .w 2 1, .x 9], .di 9 (.subB) [.x 0, .w 2 0, .c 0], .di 8 (.subD) [.x 0, .w 2 0, .c 0], .di 7 (.addC) [.w 0 3, .w 1 3, .x 5], .di 6 (.addS) [.w 0 3, .w 1 3, .x 5], .di 5 (.addC) [.w 0 2, .w 1 2, .x 3], .di 4 (.addS) [.w 0 2, .w 1 2, .x 3], .di 3 (.addC) [.w 0 1, .w 1 1, .x 1], .di 2 (.addS) [.w 0 1, .w 1 1, .x 1], .di 1 (.addC) [.w 0 0, .w 1 0, .c 0], .di 0 (.addS) [.w 0 0, .w 1 0, .c 0]], 16, 1, 0, 3, [], []⟩
theorem plusF_run : runOk (body tabB 2 48) (msP 3 0 [false]) (argsN [.num, .num, .num] 0 0) (.agg [.int .u64 (.x 8), .int .u64 (.x 10), .int .u64 (.x 12), .int .u64 (.x 14)]) plusF_ms := ⟨by kernel_rfl, by kernel_rfl, by kernel_rfl, by kernel_rfl⟩

theorem plus_core {ρ : Env} {P : Prop} (hd : Defs ρ plusT_ms.tr) : ∃ c3 q3 : Int,
    val4 (ρ.i 0) (ρ.i 2) (ρ.i 4) (ρ.i 6) + 115792089237316195423570985008687907853269984665640564039457584007913129639936 * c3 = ((ρ.n 0 % W4 : Nat) : Int) + ((ρ.n 1 % W4 : Nat) : Int) ∧ (c3 = 0 ∨ c3 = 1) ∧
    val4 (ρ.i 8) (ρ.i 10) (ρ.i 12) (ρ.i 14) = val4 (ρ.i 0) (ρ.i 2) (ρ.i 4) (ρ.i 6) - ((ρ.n 2 % W4 : Nat) : Int) + 115792089237316195423570985008687907853269984665640564039457584007913129639936 * q3 ∧ (q3 = 0 ∨ q3 = 1) ∧ ρ.b 0 = (q3 == 1) ∧
    ((0 ≤ ρ.i 0 ∧ ρ.i 0 < 18446744073709551616) ∧ (0 ≤ ρ.i 2 ∧ ρ.i 2 < 18446744073709551616) ∧ (0 ≤ ρ.i 4 ∧ ρ.i 4 < 18446744073709551616) ∧ (0 ≤ ρ.i 6 ∧ ρ.i 6 < 18446744073709551616)) ∧
    ((0 ≤ ρ.i 8 ∧ ρ.i 8 < 18446744073709551616) ∧ (0 ≤ ρ.i 10 ∧ ρ.i 10 < 18446744073709551616) ∧ (0 ≤ ρ.i 12 ∧ ρ.i 12 < 18446744073709551616) ∧ (0 ≤ ρ.i 14 ∧ ρ.i 14 < 18446744073709551616)) := by
  simp only [plusT_ms, Defs, Ent.def, Fi.sem, Fb.sem, List.map_cons, List.map_nil, Sx.val, and_true, true_and] at hd
  obtain ⟨db, d15, d14, d13, d12, d11, d10, d9, d8, d7, d6, d5, d4, d3, d2, d1, d0⟩ := hd
  obtain ⟨A, hc, a0, a1, a2, a3⟩ := add4 (wrd_bd _) (wrd_bd _) d0 d1 d2 d3 d4 d5 d6 d7
  obtain ⟨D, hq, r0, r1, r2, r3⟩ := sub4 ⟨a0.1, a0.2, a1.1, a1.2, a2.1, a2.2, a3.1, a3.2⟩ (wrd_bd _) d8 d9 d10 d11 d12 d13 d14 d15
  refine ⟨ρ.i 7, ρ.i 15, ?_, hc, ?_, hq, db, ⟨a0, a1, a2, a3⟩, r0, r1, r2, r3⟩
  · rw [A, wsum, wsum]; simp only [val4]
  · rw [D, wsum (ρ.n 2)]; simp only [val4]
theorem plusF_defs {ρ : Env} (hd : Defs ρ plusF_ms.tr) : Defs ρ plusT_ms.tr := ⟨trivial, hd.2⟩
theorem plus_c : NumC Tryd.prog 48 [.num, .num, .num] [.num .plus] .one (fun _ _ => True) := by
  intro w ns xs vs hf _
  refine ⟨fun r hr => by simp at hr; subst hr; trivial, ?_⟩
  obtain ⟨a, b, m, rfl, rfl⟩ := fits3 hf
  have hW : W4 = 115792089237316195423570985008687907853269984665640564039457584007913129639936 := rfl
  have ha := mod_lt4 a
  have hb := mod_lt4 b
  have hm := mod_lt4 m
  rw [hW] at ha hb hm
  have goal : (shape .one ([NR.num .plus].map (NR.val [a, b, m] []))) = numV (plusN (a % W4) (b % W4) (m % W4)) := rfl
  rw [goal]
  by_cases hlt : (a % W4 + b % W4) % 2 ^ 256 < m % W4
  · refine num_of_run (body_ok tabB_ok _ _) plusT_run hf (fun ρ ha' hd => ?_) w
    obtain ⟨c3, q3, h1, h2, h3, h4, h5, h6, h7⟩ := plus_core (P := True) hd
    have n0 : ρ.n 0 = a := ha'.n 0 (by decide)
    have n1 : ρ.n 1 = b := ha'.n 1 (by decide)
    have n2 : ρ.n 2 = m := ha'.n 2 (by decide)
    rw [n0, n1] at h1
    rw [n2] at h3
    have v1 := val4_bd h6.1 h6.2.1 h6.2.2.1 h6.2.2.2
    have v2 := val4_bd h7.1 h7.2.1 h7.2.2.1 h7.2.2.2
    have hlt' := hlt
    simp only [Nat.reducePow] at hlt'
    have hq : q3 = 1 := by omega
    refine ⟨by simp only [plusT_ms, Asms, Ent.asn, Sb.val, and_true]; rw [h5, hq]; rfl, fun α v hv => ?_⟩
    rw [agg_val (xs := [.x 0, .x 2, .x 4, .x 6]) hv, numV_of4 h6.1 h6.2.1 h6.2.2.1 h6.2.2.2]
    · rfl
    · unfold plusN; rw [if_pos hlt]; simp only [Nat.reducePow]; omega
  · refine num_of_run (body_ok tabB_ok _ _) plusF_run hf (fun ρ ha' hd => ?_) w
    obtain ⟨c3, q3, h1, h2, h3, h4, h5, h6, h7⟩ := plus_core (P := True) (plusF_defs hd)
    have n0 : ρ.n 0 = a := ha'.n 0 (by decide)
    have n1 : ρ.n 1 = b := ha'.n 1 (by decide)
    have n2 : ρ.n 2 = m := ha'.n 2 (by decide)
    rw [n0, n1] at h1
    rw [n2] at h3
    have v1 := val4_bd h6.1 h6.2.1 h6.2.2.1 h6.2.2.2
    have v2 := val4_bd h7.1 h7.2.1 h7.2.2.1 h7.2.2.2
    have hlt' := hlt
    simp only [Nat.reducePow] at hlt'
    have hq : q3 = 0 := by omega
    refine ⟨by simp only [plusF_ms, Asms, Ent.asn, Sb.val, and_true]; rw [h5, hq]; rfl, fun α v hv => ?_⟩
    rw [agg_val (xs := [.x 8, .x 10, .x 12, .x 14]) hv, numV_of4 h7.1 h7.2.1 h7.2.2.1 h7.2.2.2]
    · rfl
    · unfold plusN; rw [if_neg hlt]; simp only [Nat.reducePow]; omega
def tabP : List (Nat × Rule) := (48, numRule [.num, .num, .num] [.num .plus] .one noChkN) :: tabB
theorem tabP_ok : TabOk tabP := .cons (numRule_ok plus_c fun _ _ _ _ _ _ => trivial) tabB_ok

/-! ### octets -/
def oct_ms : Ms := ⟨[⟨[.int .u64 (.w 0 0), .int .u64 (.w 0 1), .int .u64 (.w 0 2), .int .u64 (.w 0 3)], true⟩, ⟨[.int .u8 (.x 1), .int .u8 (.x 3), .int .u8 (.x 5), .int .u8 (.x 7), .int .u8 (.x 9), .int .u8 (.x 11), .int .u8 (.x 13), .int .u8 (.x 15), .int .u8 (.x 17), .int .u8 (.x 19), .int .u8 (.x 21), .int .u8 (.x 23), .int .u8 (.x 25), .int .u8 (.x 27), .int .u8 (.x 29), .int .u8 (.x 31), .int .u8 (.x 33), .int .u8 (.x 35), .int .u8 (.x 37), .int .u8 (.x 39), .int .u8 (.x 41), .int .u8 (.x 43), .int .u8 (.x 45), .int .u8 (.x 47), .int .u8 (.x 49), .int .u8 (.x 51), .int .u8 (.x 53), .int .u8 (.x 55), .int .u8 (.x 57), .int .u8 (.x 59), .int .u8 (.x 61), .int .u8 (.x 63)], true⟩, ⟨[.int .u8 (.x 1), .int .u8 (.x 3), .int .u8 (.x 5), .int .u8 (.x 7), .int .u8 (.x 9), .int .u8 (.x 11), .int .u8 (.x 13), .int .u8 (.x 15), .int .u8 (.x 17), .int .u8 (.x 19), .int .u8 (.x 21), .int .u8 (.x 23), .int .u8 (.x 25), .int .u8 (.x 27), .int .u8 (.x 29), .int .u8 (.x 31), .int .u8 (.x 33), .int .u8 (.x 35), .int .u8 (.x 37), .int .u8 (.x 39), .int .u8 (.x 41), .int .u8 (.x 43), .int .u8 (.x 45), .int .u8 (.x 47), .int .u8 (.x 49), .int .u8 (.x 51), .int .u8 (.x 53), .int .u8 (.x 55), .int .u8 (.x 57), .int .u8 (.x 59), .int .u8 (.x 61), .int .u8 (.x 63)], true⟩], [.di 63 (.conv (.u8)) [.x 62], .di 62 (.shr (.u64)) [.w 0 3, .c 56], .di 61 (.conv (.u8)) [.x 60], .di 60 (.shr (.u64)) [.w 0 3, .c 48], .di 59 (.conv (.u8)) [.x 58], .di 58 (.shr (.u64)) [.w 0 3, .c 40], .di 57 (.conv (.u8)) [.x 56], .di 56 (.shr (.u64)) [.w 0 3, .c 32], .di 55 (.conv (.u8)) [.x 54], .di 54 (.shr (.u64)) [.w 0 3, .c 24], .di 53 (.conv (.u8)) [.x 52], .di 52 (.shr (.u64)) [.w 0 3, .c 16], .di 51 (.conv (.u8)) [.x 50], .di 50 (.shr (.u64)) [.w 0 3, .c 8], .di 49 (.conv (.u8)) [.x 48], .di 48 (.shr (.u64)) [.w 0 3, .c 0], .di 47 (.conv (.u8)) [.x 46], .di 46 (.shr (.u64)) [.w 0 2, .c 56], .di 45 (.conv (.u8)) [.x 44], .di 44 (.shr (.u64)) [.w 0 2, .c 48], .di 43 (.conv (.u8)) [.x 42], .di 42 (.shr (.u64)) [.w 0 2, .c 40], .di 41 (.conv (.u8)) [.x 40], .di 40 (.shr (.u64)) [.w 0 2, .c 32], .di 39 (.conv (.u8)) [.x 38], .di 38 (.shr (.u64)) [.w 0 2, .c 24], .di 37 (.conv (.u8)) [.x 36], .di 36 (.shr (.u64)) [.w 0 2, .c 16], .di 35 (.conv (.u8)) [.x 34], .di 34 (.shr (.u64)) [.w 0 2, .c 8], .di 33 (.conv (.u8)) [.x 32], .di 32 (.shr (.u64)) [.w 0 2, .c 0], .di 31 (.conv (.u8)) [.x 30], .di 30 (.shr (.u64)) [.w 0 1, .c 56], .di 29 (.conv (.u8)) [.x 28], .di 28 (.shr (.u64)) [.w 0 1, .c 48], .di 27 (.conv (.u8)) [.x 26], .di 26 (.shr (.u64)) [.w 0 1, .c 40], .di 25 (.conv (.u8)) [.x 24], .di 24 (.shr (.u64)) [.w 0 1, .c 32], .di 23 (.conv (.u8)) [.x 22], .di 22 (.shr (.u64)) [.w 0 1, .c 24], .di 21 (.conv (.u8)) [.x 20], .di 20 (.shr (.u64)) [.w 0 1, .c 16], .di 19 (.conv (.u8)) [.x 18], .di 18 (.shr (.u64)) [.w 0 1, .c 8], .di 17 (.conv (.u8)) [.x 16], .di 16 (.shr (.u64)) [.w 0 1, .c 0], .di 15 (.conv (.u8)) [.x 14], .di 14 (.shr (.u64)) [.w 0 0, .c 56], .di 13 (.conv (.u8)) [.x 12], .di 12 (.shr (.u64)) [.w 0 0, .c 48], .di 11 (.conv (.u8)) [.x 10], .di 10 (.shr (.u64)) [.w 0 0, .c 40], .di 9 (.conv (.u8)) [.x 8], .di 8 (.shr (.u64)) [.w 0 0, .c 32], .di 7 (.conv (.u8)) [.x 6], .di 6 (.shr (.u64)) [.w 0 0, .c 24], .di 5 (.conv (.u8)) [.x 4], .di 4 (.shr (.u64)) [.w 0 0, .c 16], .di 3 (.conv (.u8)) [.x 2], .di 2 (.shr (.u64)) [.w 0 0, .c 8], .di 1 (.conv (.u8)) [.x 0], .di 0 (.shr (.u64)) [.w 0 0, .c 0]], 64, 0, 0, 1, [], []⟩
theorem oct_run : runOk (body tabB 0 53) (msP 1 0 []) (argsN [.num] 0 0) (.agg [.int .u8 (.x 1), .int .u8 (.x 3), .int .u8 (.x 5), .int .u8 (.x 7), .int .u8 (.x 9), .int .u8 (.x 11), .int .u8 (.x 13), .int .u8 (.x 15), .int .u8 (.x 17), .int .u8 (.x 19), .int .u8 (.x 21), .int .u8 (.x 23), .int .u8 (.x 25), .int .u8 (.x 27), .int .u8 (.x 29), .int .u8 (.x 31), .int .u8 (.x 33), .int .u8 (.x 35), .int .u8 (.x 37), .int .u8 (.x 39), .int .u8 (.x 41), .int .u8 (.x 43), .int .u8 (.x 45), .int .u8 (.x 47), .int .u8 (.x 49), .int .u8 (.x 51), .int .u8 (.x 53), .int .u8 (.x 55), .int .u8 (.x 57), .int .u8 (.x 59), .int .u8 (.x 61), .int .u8 (.x 63)]) oct_ms := ⟨by kernel_rfl, by kernel_rfl, by kernel_rfl, by kernel_rfl⟩

theorem shr_oct {n j k : Nat} {x y : Int} (hk : k < 8) (hx : x = ((word n j : Nat) : Int) / 2 ^ (8 * k)) (hy : y = x % 256) : y = ((octet n (8 * j + k) : Nat) : Int) := by
  have h : octet n (8 * j + k) = word n j / 2 ^ (8 * k) % 256 := by
    unfold octet word
    have e1 : (256 : Nat) ^ (8 * j + k) = 18446744073709551616 ^ j * 2 ^ (8 * k) := by
      rw [Nat.pow_add, Nat.pow_mul, show (256 : Nat) ^ 8 = 18446744073709551616 by decide, show (256 : Nat) = 2 ^ 8 by decide, ← Nat.pow_mul]
    have e2 : (18446744073709551616 : Nat) = 2 ^ (8 * k) * 2 ^ (64 - 8 * k) := by rw [← Nat.pow_add, show 8 * k + (64 - 8 * k) = 64 by omega]
    rw [e1, ← Nat.div_div_eq_div_mul]
    conv => rhs; rw [show n / 18446744073709551616 ^ j % 18446744073709551616 = n / 18446744073709551616 ^ j % (2 ^ (8 * k) * 2 ^ (64 - 8 * k)) by rw [← e2]]
    rw [Nat.mod_mul_right_div_self]
    have e3 : (2 : Nat) ^ (64 - 8 * k) = 256 * 2 ^ (56 - 8 * k) := by rw [show (256 : Nat) = 2 ^ 8 by decide, ← Nat.pow_add, show 8 + (56 - 8 * k) = 64 - 8 * k by omega]
    rw [e3, Nat.mod_mul_right_mod]
  rw [h, hy, hx]
  simp only [Int.natCast_emod, Int.natCast_ediv, Int.natCast_pow, Int.cast_ofNat_Int]
def OctC (P : Program) (f : FuncId) : Prop := ∀ (w : World) (n : Nat), Invokes P f #[numV n] w fun v w' => v = bytesV n ∧ Fr (fun _ _ => False) w w'
def octRule : Rule := fun ms args => match parse ms [.num] args with
  | some ([n], [], ms1) => some (.agg (octsS n 0 32), ms1)
  | _ => none
theorem octRule_ok {P : Program} {f : FuncId} (h : OctC P f) : RuleOk P f octRule := by
  intro ρ ms ms' args ret hr hs
  unfold octRule at hr
  split at hr
  · rename_i n ms1 h1
    simp only [Option.some.injEq, Prod.mk.injEq] at hr
    obtain ⟨rfl, rfl⟩ := hr
    obtain ⟨g1, m1, l1, k1⟩ := parse_ok h1 hs
    refine ⟨g1, fun S w0 α w vs hm hg hv => ?_⟩
    have hf := k1 hv
    simp only [List.map_cons, List.map_nil, NFits] at hf
    obtain ⟨us, rfl, rfl⟩ := hf
    refine (h w (ρ.n n)).mono ?_
    rintro v w' ⟨rfl, hf⟩
    refine ⟨α, Ext.refl _ _, ?_, by rw [m1]; exact hm.grow hf⟩
    simp only [VRel, bytesV]
    exact ⟨_, rfl, octsS_rel 32 0⟩
  · cases hr
theorem oct_c : OctC Tryd.prog 53 := by
  intro w n
  refine num_of_run (body_ok tabB_ok _ _) oct_run (ns := [n]) (xs := []) (vs := [numV n]) ⟨[], rfl, rfl⟩ (fun ρ ha hd => ?_) w
  have n0 : ρ.n 0 = n := ha.n 0 (by decide)
  simp only [oct_ms, Defs, Ent.def, Fi.sem, List.map_cons, List.map_nil, Sx.val, wr, nbits, Int.reduceToNat, Nat.min_def, Nat.reduceLeDiff, ↓reduceIte, n0] at hd
  obtain ⟨d63, d62, d61, d60, d59, d58, d57, d56, d55, d54, d53, d52, d51, d50, d49, d48, d47, d46, d45, d44, d43, d42, d41, d40, d39, d38, d37, d36, d35, d34, d33, d32, d31, d30, d29, d28, d27, d26, d25, d24, d23, d22, d21, d20, d19, d18, d17, d16, d15, d14, d13, d12, d11, d10, d9, d8, d7, d6, d5, d4, d3, d2, d1, d0, _⟩ := hd
  refine ⟨by simp only [oct_ms, Asms, Ent.asn, and_true], fun α v hv => ?_⟩
  rw [agg_val (xs := [.x 1, .x 3, .x 5, .x 7, .x 9, .x 11, .x 13, .x 15, .x 17, .x 19, .x 21, .x 23, .x 25, .x 27, .x 29, .x 31, .x 33, .x 35, .x 37, .x 39, .x 41, .x 43, .x 45, .x 47, .x 49, .x 51, .x 53, .x 55, .x 57, .x 59, .x 61, .x 63]) hv]
  simp only [List.map_cons, List.map_nil, Sx.val, bytesV, octs, Nat.reduceAdd]
  rw [shr_oct (j := 0) (k := 0) (by decide) d0 d1, shr_oct (j := 0) (k := 1) (by decide) d2 d3, shr_oct (j := 0) (k := 2) (by decide) d4 d5, shr_oct (j := 0) (k := 3) (by decide) d6 d7, shr_oct (j := 0) (k := 4) (by decide) d8 d9, shr_oct (j := 0) (k := 5) (by decide) d10 d11, shr_oct (j := 0) (k := 6) (by decide) d12 d13, shr_oct (j := 0) (k := 7) (by decide) d14 d15, shr_oct (j := 1) (k := 0) (by decide) d16 d17, shr_oct (j := 1) (k := 1) (by decide) d18 d19, shr_oct (j := 1) (k := 2) (by decide) d20 d21, shr_oct (j := 1) (k := 3) (by decide) d22 d23, shr_oct (j := 1) (k := 4) (by decide) d24 d25, shr_oct (j := 1) (k := 5) (by decide) d26 d27, shr_oct (j := 1) (k := 6) (by decide) d28 d29, shr_oct (j := 1) (k := 7) (by decide) d30 d31, shr_oct (j := 2) (k := 0) (by decide) d32 d33, shr_oct (j := 2) (k := 1) (by decide) d34 d35, shr_oct (j := 2) (k := 2) (by decide) d36 d37, shr_oct (j := 2) (k := 3) (by decide) d38 d39, shr_oct (j := 2) (k := 4) (by decide) d40 d41, shr_oct (j := 2) (k := 5) (by decide) d42 d43, shr_oct (j := 2) (k := 6) (by decide) d44 d45, shr_oct (j := 2) (k := 7) (by decide) d46 d47, shr_oct (j := 3) (k := 0) (by decide) d48 d49, shr_oct (j := 3) (k := 1) (by decide) d50 d51, shr_oct (j := 3) (k := 2) (by decide) d52 d53, shr_oct (j := 3) (k := 3) (by decide) d54 d55, shr_oct (j := 3) (k := 4) (by decide) d56 d57, shr_oct (j := 3) (k := 5) (by decide) d58 d59, shr_oct (j := 3) (k := 6) (by decide) d60 d61, shr_oct (j := 3) (k := 7) (by decide) d62 d63]

/-! ### a bit of a number -/
theorem tdiv64 {i : Int} (h0 : 0 ≤ i) (h1 : i < 256) : wr .i64 (i.tdiv 64) = i / 64 ∧ i.tmod 64 = i % 64 := by
  rw [Int.tdiv_eq_ediv_of_nonneg h0, Int.tmod_eq_emod_of_nonneg h0]
  refine ⟨?_, rfl⟩
  show (i / 64 + 9223372036854775808) % 18446744073709551616 - 9223372036854775808 = i / 64
  omega
theorem bit_word (n i : Nat) (hi : i < 256) : word n (i / 64) / 2 ^ (i % 64) % 2 = n / 2 ^ i % 2 := by
  unfold word
  have e1 : (2 : Nat) ^ i = 18446744073709551616 ^ (i / 64) * 2 ^ (i % 64) := by
    rw [show (18446744073709551616 : Nat) = 2 ^ 64 by decide, ← Nat.pow_mul, ← Nat.pow_add, Nat.div_add_mod]
  have e2 : (18446744073709551616 : Nat) = 2 ^ (i % 64) * 2 ^ (64 - i % 64) := by rw [← Nat.pow_add, show i % 64 + (64 - i % 64) = 64 by omega]
  have e3 : (2 : Nat) ^ (64 - i % 64) = 2 * 2 ^ (63 - i % 64) := by rw [← Nat.pow_succ', show (63 - i % 64).succ = 64 - i % 64 by omega]
  rw [e1, ← Nat.div_div_eq_div_mul]
  conv => lhs; rw [show n / 18446744073709551616 ^ (i / 64) % 18446744073709551616 = n / 18446744073709551616 ^ (i / 64) % (2 ^ (i % 64) * 2 ^ (64 - i % 64)) by rw [← e2]]
  rw [Nat.mod_mul_right_div_self, e3, Nat.mod_mul_right_mod]
theorem bit_test {n : Nat} {i x1 x2 x3 x4 : Int} (h0 : 0 ≤ i) (h1 : i < 256) (e1 : x1 = wr .i64 (i.tdiv 64)) (e2 : x2 = i.tmod 64) (e3 : x3 = ((word n x1.toNat : Nat) : Int) / 2 ^ min x2.toNat 64)
    (e4 : x4 = wr .u64 ((ub .u64 x3 &&& ub .u64 1 : Nat) : Int)) : (x4 == 1) = n.testBit i.toNat ∧ 0 ≤ x1 ∧ x1 < 4 ∧ 0 ≤ x2 := by
  obtain ⟨t1, t2⟩ := tdiv64 h0 h1
  rw [t1] at e1
  rw [t2] at e2
  refine ⟨?_, by omega, by omega, by omega⟩
  obtain ⟨k, rfl⟩ := Int.eq_ofNat_of_zero_le h0
  have f1 : x1.toNat = k / 64 := by omega
  have f2 : min x2.toNat 64 = k % 64 := by omega
  rw [f1, f2] at e3
  have g3 : x3 = ((word n (k / 64) / 2 ^ (k % 64) : Nat) : Int) := by rw [e3]; simp only [Int.natCast_ediv, Int.natCast_pow, Int.cast_ofNat_Int]
  have hw : word n (k / 64) / 2 ^ (k % 64) < 18446744073709551616 := Nat.lt_of_le_of_lt (Nat.div_le_self _ _) (word_lt _ _)
  have g4 : ub .u64 x3 = word n (k / 64) / 2 ^ (k % 64) := by
    rw [g3]
    generalize word n (k / 64) / 2 ^ (k % 64) = q at hw
    simp only [ub]; omega
  have g5 : ub .u64 1 = 2 ^ 1 - 1 := by decide
  have hb := bit_word n k (by omega)
  rw [g4, g5, Nat.and_two_pow_sub_one_eq_mod, Nat.pow_one, hb] at e4
  rw [Int.toNat_natCast, Nat.testBit_eq_decide_div_mod_eq]
  have g6 : x4 = ((n / 2 ^ k % 2 : Nat) : Int) := by
    rw [e4]
    generalize n / 2 ^ k = q
    simp only [wr]; omega
  rw [g6]
  generalize n / 2 ^ k % 2 = z at *
  by_cases hz : z = 1
  · subst hz; rfl
  · rw [decide_eq_false hz]; exact beq_eq_false_iff_ne.2 (by omega)

/-! ### times -/
def tmH : Tm := tmS 8 [(3, .ptr 0 0), (4, .ptr 1 0), (5, .ptr 2 0), (6, .ptr 3 0), (7, .ptr 4 0), (8, .int .i64 (.x 0))]
def tmM (o : List Bool) : Ms := ⟨[⟨wrdsS 0 0 4, true⟩, ⟨wrdsS 1 0 4, true⟩, ⟨wrdsS 2 0 4, true⟩, ⟨anys 4, true⟩, ⟨wrdsS 3 0 4, true⟩], [], 1, 0, 0, 4, o, []⟩
def tm0_tr : List Ent := []
def tm0_ob : List Ob := [.i (.x 0) (.c 255), .i (.w 0 0) (.w 0 0), .i (.w 0 1) (.w 0 1), .i (.w 0 2) (.w 0 2), .i (.w 0 3) (.w 0 3), .i (.w 1 0) (.w 1 0), .i (.w 1 1) (.w 1 1), .i (.w 1 2) (.w 1 2), .i (.w 1 3) (.w 1 3), .i (.w 2 0) (.w 2 0), .i (.w 2 1) (.w 2 1), .i (.w 2 2) (.w 2 2), .i (.w 2 3) (.w 2 3), .i (.w 3 0) (.c 0), .i (.w 3 1) (.c 0), .i (.w 3 2) (.c 0), .i (.w 3 3) (.c 0)]
theorem tm0_run : runTo Tryd.prog (RR tabP 1) 26 (prL Tryd.prog 44) (argsTm (Tm.full 12) 0 (argsN [.num, .num, .num] 0 0)) (msP 3 0 []) (tmH) (tmM []) = some (.normal, tm0_tr, tm0_ob) := by kernel_rfl
def tmX_tr : List Ent := [.asm (.x 0) false, .db 0 (.geq) [.x 0, .c 0] [] []]
def tmX_ob : List Ob := [.i (.x 0) (.x 0), .i (.w 0 0) (.w 0 0), .i (.w 0 1) (.w 0 1), .i (.w 0 2) (.w 0 2), .i (.w 0 3) (.w 0 3), .i (.w 1 0) (.w 1 0), .i (.w 1 1) (.w 1 1), .i (.w 1 2) (.w 1 2), .i (.w 1 3) (.w 1 3), .i (.w 2 0) (.w 2 0), .i (.w 2 1) (.w 2 1), .i (.w 2 2) (.w 2 2), .i (.w 2 3) (.w 2 3), .i (.w 3 0) (.w 3 0), .i (.w 3 1) (.w 3 1), .i (.w 3 2) (.w 3 2), .i (.w 3 3) (.w 3 3)]
theorem tmX_run : runTo Tryd.prog (RR tabP 1) 26 (flat (lpL Tryd.prog 44)) (tmH) (tmM [false]) (tmH) (tmM []) = some (.exit 0, tmX_tr, tmX_ob) := by kernel_rfl
def tmT_tr : List Ent := [.di 5 (.sub (.i64)) [.x 0, .c 1], .dn 5 (.plus) [] [] [4, 0, 2], .asm (.x 4) true, .db 4 (.eql) [.x 4, .c 1] [] [], .di 4 (.and (.u64)) [.x 3, .c 1], .di 3 (.shr (.u64)) [.wi 1 1, .x 2], .asm (.x 3) true, .db 3 (.leq) [.c 0, .x 2] [] [], .di 2 (.rem (.i64)) [.x 0, .c 64], .asm (.x 2) true, .db 2 (.lss) [.x 1, .c 4] [] [], .asm (.x 1) true, .db 1 (.leq) [.c 0, .x 1] [] [], .di 1 (.quo (.i64)) [.x 0, .c 64], .dn 4 (.plus) [] [] [3, 3, 2], .asm (.x 0) true, .db 0 (.geq) [.x 0, .c 0] [] []]
def tmT_ob : List Ob := [.i (.x 0) (.x 5), .i (.w 0 0) (.w 0 0), .i (.w 0 1) (.w 0 1), .i (.w 0 2) (.w 0 2), .i (.w 0 3) (.w 0 3), .i (.w 1 0) (.w 1 0), .i (.w 1 1) (.w 1 1), .i (.w 1 2) (.w 1 2), .i (.w 1 3) (.w 1 3), .i (.w 2 0) (.w 2 0), .i (.w 2 1) (.w 2 1), .i (.w 2 2) (.w 2 2), .i (.w 2 3) (.w 2 3), .i (.w 3 0) (.w 5 0), .i (.w 3 1) (.w 5 1), .i (.w 3 2) (.w 5 2), .i (.w 3 3) (.w 5 3)]
theorem tmT_run : runTo Tryd.prog (RR tabP 1) 26 (flat (lpL Tryd.prog 44)) (tmH) (tmM [true, true]) (tmH) (tmM []) = some (.normal, tmT_tr, tmT_ob) := by kernel_rfl
def tmF_tr : List Ent := [.di 5 (.sub (.i64)) [.x 0, .c 1], .asm (.x 4) false, .db 4 (.eql) [.x 4, .c 1] [] [], .di 4 (.and (.u64)) [.x 3, .c 1], .di 3 (.shr (.u64)) [.wi 1 1, .x 2], .asm (.x 3) true, .db 3 (.leq) [.c 0, .x 2] [] [], .di 2 (.rem (.i64)) [.x 0, .c 64], .asm (.x 2) true, .db 2 (.lss) [.x 1, .c 4] [] [], .asm (.x 1) true, .db 1 (.leq) [.c 0, .x 1] [] [], .di 1 (.quo (.i64)) [.x 0, .c 64], .dn 4 (.plus) [] [] [3, 3, 2], .asm (.x 0) true, .db 0 (.geq) [.x 0, .c 0] [] []]
def tmF_ob : List Ob := [.i (.x 0) (.x 5), .i (.w 0 0) (.w 0 0), .i (.w 0 1) (.w 0 1), .i (.w 0 2) (.w 0 2), .i (.w 0 3) (.w 0 3), .i (.w 1 0) (.w 1 0), .i (.w 1 1) (.w 1 1), .i (.w 1 2) (.w 1 2), .i (.w 1 3) (.w 1 3), .i (.w 2 0) (.w 2 0), .i (.w 2 1) (.w 2 1), .i (.w 2 2) (.w 2 2), .i (.w 2 3) (.w 2 3), .i (.w 3 0) (.w 4 0), .i (.w 3 1) (.w 4 1), .i (.w 3 2) (.w 4 2), .i (.w 3 3) (.w 4 3)]
theorem tmF_run : runTo Tryd.prog (RR tabP 1) 26 (flat (lpL Tryd.prog 44)) (tmH) (tmM [true, false]) (tmH) (tmM []) = some (.normal, tmF_tr, tmF_ob) := by kernel_rfl
def tmR_tr : List Ent := []
def tmR_mem : List Chunk := [⟨[.int .u64 (.w 0 0), .int .u64 (.w 0 1), .int .u64 (.w 0 2), .int .u64 (.w 0 3)], true⟩, ⟨[.int .u64 (.w 1 0), .int .u64 (.w 1 1), .int .u64 (.w 1 2), .int .u64 (.w 1 3)], true⟩, ⟨[.int .u64 (.w 2 0), .int .u64 (.w 2 1), .int .u64 (.w 2 2), .int .u64 (.w 2 3)], true⟩, ⟨[.int .u64 (.w 3 0), .int .u64 (.w 3 1), .int .u64 (.w 3 2), .int .u64 (.w 3 3)], true⟩, ⟨[.int .u64 (.w 3 0), .int .u64 (.w 3 1), .int .u64 (.w 3 2), .int .u64 (.w 3 3)], true⟩]
theorem tmR_run : runRet Tryd.prog (RR tabP 1) 26 44 (poL Tryd.prog 44) (tmH) (tmM []) = some ([.agg [.int .u64 (.w 3 0), .int .u64 (.w 3 1), .int .u64 (.w 3 2), .int .u64 (.w 3 3)]], tmR_tr, tmR_mem) := by kernel_rfl

/-- What holds at the head: the arguments, and what is still to be reckoned. -/
def tmI (a b m : Nat) (k : Nat) (ρ : Env) : Prop := k ≤ 256 ∧ ρ.n 0 = a ∧ ρ.n 1 = b ∧ ρ.n 2 = m ∧ ρ.i 0 = (k : Int) - 1 ∧ ρ.n 3 < W4 ∧ bitsF a b m k (ρ.n 3) = timesN a b m
theorem plusN_lt {a b m : Nat} : plusN a b m < W4 := by
  unfold plusN W4
  simp only [Nat.reducePow]
  split <;> omega
theorem times_c : NumC Tryd.prog 44 [.num, .num, .num] [.num .times] .one (fun _ _ => True) := by
  intro w ns xs vs hf _
  refine ⟨fun r hr => by simp at hr; subst hr; trivial, ?_⟩
  obtain ⟨a, b, m, rfl, rfl⟩ := fits3 hf
  have goal : (shape .one ([NR.num .times].map (NR.val [a, b, m] []))) = numV (timesN (a % W4) (b % W4) (m % W4)) := rfl
  rw [goal]
  rw [nfits3_mod] at hf
  have hA := mod_lt4 a
  have hB := mod_lt4 b
  have hM := mod_lt4 m
  generalize a % W4 = a at *
  generalize b % W4 = b at *
  generalize m % W4 = m at *
  refine fn_invokes (S := fun _ _ => False) (w0 := w) (ρ := envN [a, b, m] []) (α := fun _ => none) (ms := msP 3 0 []) (by kernel_rfl) MRep.none (fun g c hgc => by simp [msP] at hgc) (numArgs hf) (of_decide_eq_true (by kernel_rfl)) fun ac hr => ?_
  refine fn_loop (by kernel_rfl) ?_
  refine to_head mix_ok (RR_ok tabP_ok _) tm0_run (K := tmI a b m 256) hr (fun ρ ha hd => ⟨by simp only [tm0_tr, Asms], ?_⟩) fun ρH α1 a1 w1 hK _ hr1 => ?_
  · have n0 : ρ.n 0 = a := ha.n 0 (by decide)
    have n1 : ρ.n 1 = b := ha.n 1 (by decide)
    have n2 : ρ.n 2 = m := ha.n 2 (by decide)
    refine ⟨⟨fun _ => 255, ρ.b, ρ.e, fun j => if j = 3 then 0 else ρ.n j, ρ.v⟩, rfl, ?_, ?_⟩
    · simp [tm0_ob, Obs, Ob.ok, Sx.val, word]
    · exact ⟨Nat.le_refl _, n0, n1, n2, rfl, (by decide : (0 : Nat) < W4), rfl⟩
  simp only [SE.toExit, Exit.then, wps]
  refine loop_at (tmI a b m) α1 ?_ 256 ρH α1 a1 w1 hK (Ext.refl _ _) hr1
  intro k ρ α ac1 w1 hI hE hr
  obtain ⟨hk, n0, n1, n2, i0, h3, hb⟩ := hI
  cases k with
  | zero =>
    refine to_head mix_ok (RR_ok tabP_ok _) tmX_run (ms := tmM [false]) (K := fun ρH => ρH.n 3 = timesN a b m) (hr.orc rfl rfl) (fun ρ' ha hd => ?_) fun ρH α' a' w' hK _ hr' => ?_
    · have j0 : ρ'.i 0 = ρ.i 0 := ha.i 0 (by decide)
      have m3 : ρ'.n 3 = ρ.n 3 := ha.n 3 (by decide)
      simp only [tmX_tr, Defs, Ent.def, Fb.sem, List.map_cons, List.map_nil, Sx.val, and_true, true_and] at hd
      refine ⟨by simp only [tmX_tr, Asms, Ent.asn, Sb.val, and_true]; rw [hd]; exact decide_eq_false (by omega), ρ', rfl, by simp only [tmX_ob, Obs, Ob.ok, and_true], ?_⟩
      rw [m3]; exact hb
    · simp only [SE.toExit]
      rw [if_pos rfl_idtimes]
      refine to_ret mix_ok (RR_ok tabP_ok _) tmR_run hr' fun ρ' ha hd => ⟨by simp only [tmR_tr, Asms], fun α'' w'' v he hv hm => ?_⟩
      have m3 : ρ'.n 3 = ρH.n 3 := ha.n 3 (by decide)
      exact ⟨by rw [numS_val (n := 3) hv, m3, hK], hm.fr⟩
  | succ k =>
    have hk' : k < 256 := by omega
    have ik : ρ.i 0 = (k : Int) := by omega
    have e256 : ∀ x : Nat, x < W4 → x % W4 = x := fun x hx => Nat.mod_eq_of_lt hx
    cases hbit : b.testBit k with
    | true =>
      refine to_head mix_ok (RR_ok tabP_ok _) tmT_run (ms := tmM [true, true]) (K := tmI a b m k) (hr.orc rfl rfl) (fun ρ' ha hd => ?_) fun ρH α' a' w' hK hE' hr' => ⟨k, ρH, α', Nat.lt_succ_self k, hK, fun c hc => (hE' c hc hc).trans (hE c hc), hr'⟩
      have j0 : ρ'.i 0 = ρ.i 0 := ha.i 0 (by decide)
      have m0 : ρ'.n 0 = ρ.n 0 := ha.n 0 (by decide)
      have m1 : ρ'.n 1 = ρ.n 1 := ha.n 1 (by decide)
      have m2 : ρ'.n 2 = ρ.n 2 := ha.n 2 (by decide)
      have m3 : ρ'.n 3 = ρ.n 3 := ha.n 3 (by decide)
      simp only [tmT_tr, Defs, Ent.def, Fb.sem, Fi.sem, Fn.sem, List.map_cons, List.map_nil, Sx.val, and_true, true_and, nbits, j0, ik, m0, m1, m2, m3, n0, n1, n2, e256 a hA, e256 m hM, e256 (ρ.n 3) h3] at hd
      obtain ⟨d5, p5, b4, d4, d3, b3, d2, b2, b1, d1, p4, b0⟩ := hd
      obtain ⟨t1, t2, t3, t4⟩ := bit_test (n := b) (by omega) (by omega) d1 d2 d3 d4
      rw [e256 (ρ'.n 4) (by rw [p4]; exact plusN_lt), p4] at p5
      refine ⟨?_, ⟨fun _ => ρ'.i 5, ρ'.b, ρ'.e, fun j => if j = 3 then ρ'.n 5 else ρ'.n j, ρ'.v⟩, rfl, ?_, ?_⟩
      · simp only [tmT_tr, Asms, Ent.asn, Sb.val, and_true, true_and]
        refine ⟨?_, ?_, ?_, ?_, ?_⟩
        · rw [b4, t1, Int.toNat_natCast]; exact hbit
        · rw [b3]; exact decide_eq_true t4
        · rw [b2]; exact decide_eq_true t3
        · rw [b1]; exact decide_eq_true t2
        · rw [b0]; exact decide_eq_true (by omega)
      · simp [tmT_ob, Obs, Ob.ok, Sx.val]
      · refine ⟨by omega, by rw [← n0, ← m0]; rfl, by rw [← n1, ← m1]; rfl, by rw [← n2, ← m2]; rfl, ?_, ?_, ?_⟩
        · show ρ'.i 5 = _
          rw [d5]; simp only [wr]; omega
        · show ρ'.n 5 < W4
          rw [p5]; exact plusN_lt
        · show bitsF a b m k (ρ'.n 5) = _
          rw [← hb, p5]
          simp only [bitsF, hbit, if_true]
    | false =>
      refine to_head mix_ok (RR_ok tabP_ok _) tmF_run (ms := tmM [true, false]) (K := tmI a b m k) (hr.orc rfl rfl) (fun ρ' ha hd => ?_) fun ρH α' a' w' hK hE' hr' => ⟨k, ρH, α', Nat.lt_succ_self k, hK, fun c hc => (hE' c hc hc).trans (hE c hc), hr'⟩
      have j0 : ρ'.i 0 = ρ.i 0 := ha.i 0 (by decide)
      have m0 : ρ'.n 0 = ρ.n 0 := ha.n 0 (by decide)
      have m1 : ρ'.n 1 = ρ.n 1 := ha.n 1 (by decide)
      have m2 : ρ'.n 2 = ρ.n 2 := ha.n 2 (by decide)
      have m3 : ρ'.n 3 = ρ.n 3 := ha.n 3 (by decide)
      simp only [tmF_tr, Defs, Ent.def, Fb.sem, Fi.sem, Fn.sem, List.map_cons, List.map_nil, Sx.val, and_true, true_and, nbits, j0, ik, m0, m1, m2, m3, n0, n1, n2, e256 a hA, e256 m hM, e256 (ρ.n 3) h3] at hd
      obtain ⟨d5, b4, d4, d3, b3, d2, b2, b1, d1, p4, b0⟩ := hd
      obtain ⟨t1, t2, t3, t4⟩ := bit_test (n := b) (by omega) (by omega) d1 d2 d3 d4
      refine ⟨?_, ⟨fun _ => ρ'.i 5, ρ'.b, ρ'.e, fun j => if j = 3 then ρ'.n 4 else ρ'.n j, ρ'.v⟩, rfl, ?_, ?_⟩
      · simp only [tmF_tr, Asms, Ent.asn, Sb.val, and_true, true_and]
        refine ⟨?_, ?_, ?_, ?_, ?_⟩
        · rw [b4, t1, Int.toNat_natCast]; exact hbit
        · rw [b3]; exact decide_eq_true t4
        · rw [b2]; exact decide_eq_true t3
        · rw [b1]; exact decide_eq_true t2
        · rw [b0]; exact decide_eq_true (by omega)
      · simp [tmF_ob, Obs, Ob.ok, Sx.val]
      · refine ⟨by omega, by rw [← n0, ← m0]; rfl, by rw [← n1, ← m1]; rfl, by rw [← n2, ← m2]; rfl, ?_, ?_, ?_⟩
        · show ρ'.i 5 = _
          rw [d5]; simp only [wr]; omega
        · show ρ'.n 4 < W4
          rw [p4]; exact plusN_lt
        · show bitsF a b m k (ρ'.n 4) = _
          rw [← hb, p4]
          simp only [bitsF, hbit]
          rfl
end Go.Proofs.YtolmkbojlpplfaaDoor
