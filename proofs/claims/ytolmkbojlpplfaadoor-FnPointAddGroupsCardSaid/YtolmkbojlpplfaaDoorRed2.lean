/- reduced: bytes in memory as a number, modulo another. No condition. -/
import Derived.Test.YtolmkbojlpplfaaDoorSpl
import Derived.Test.YtolmkbojlpplfaaDoorSb
namespace Go.Proofs.YtolmkbojlpplfaaDoor
open Go Go.RowKit
set_option linter.unusedVariables false
set_option linter.unusedSimpArgs false
set_option maxRecDepth 100000

def redA (L : Nat) : List SV := [.slice 0 0 L L, .agg (wrdsS 1 0 4)]
def red0 (L : Nat) : Ms := ⟨[⟨octsS 0 0 L, false⟩], [], 0, 0, 0, 2, [], []⟩
def redH (L : Nat) : Tm := tmS 6 [(0, .slice 0 0 L L), (3, .ptr 1 0), (4, .ptr 2 0), (5, .ptr 3 0), (6, .int .i64 (.x 0))]
def redM (L : Nat) (o : List Bool) : Ms := ⟨[⟨octsS 0 0 L, false⟩, ⟨wrdsS 1 0 4, true⟩, ⟨anys 4, true⟩, ⟨wrdsS 2 0 4, true⟩], [], 1, 0, 0, 3, o, []⟩
def redG (L : Nat) : Tm := tmS 6 [(0, .slice 0 0 L L), (3, .ptr 1 0), (4, .ptr 2 0), (5, .ptr 3 0), (6, .int .i64 (.x 0)), (7, .int .i64 (.x 1))]
def redN (L : Nat) (o : List Bool) : Ms := ⟨[⟨octsS 0 0 L, false⟩, ⟨wrdsS 1 0 4, true⟩, ⟨anys 4, true⟩, ⟨wrdsS 2 0 4, true⟩], [], 2, 0, 0, 3, o, []⟩
theorem bit8 {n i k : Nat} {x2 x3 : Int} (hk : k < 8) (e2 : x2 = ((octet n i : Nat) : Int) / 2 ^ min k 8) (e3 : x3 = wr .u8 ((ub .u8 x2 &&& ub .u8 1 : Nat) : Int)) : (x3 == 1) = n.testBit (8 * i + k) := by
  have hm : min k 8 = k := by omega
  rw [hm] at e2
  have g2 : x2 = ((octet n i / 2 ^ k : Nat) : Int) := by rw [e2]; simp only [Int.natCast_ediv, Int.natCast_pow, Int.cast_ofNat_Int]
  have ho : octet n i / 2 ^ k < 256 := Nat.lt_of_le_of_lt (Nat.div_le_self _ _) (octet_lt n i)
  have g4 : ub .u8 x2 = octet n i / 2 ^ k := by
    rw [g2]
    generalize octet n i / 2 ^ k = q at ho
    simp only [ub]; omega
  have g5 : ub .u8 1 = 2 ^ 1 - 1 := by decide
  have hb : octet n i / 2 ^ k % 2 = n / 2 ^ (8 * i + k) % 2 := by
    unfold octet
    have e1 : (2 : Nat) ^ (8 * i + k) = 256 ^ i * 2 ^ k := by rw [Nat.pow_add, Nat.pow_mul]
    have e2 : (256 : Nat) = 2 ^ k * 2 ^ (8 - k) := by rw [← Nat.pow_add, show k + (8 - k) = 8 by omega]
    have e3 : (2 : Nat) ^ (8 - k) = 2 * 2 ^ (7 - k) := by rw [← Nat.pow_succ', show (7 - k).succ = 8 - k by omega]
    rw [e1, ← Nat.div_div_eq_div_mul]
    conv => lhs; rw [show n / 256 ^ i % 256 = n / 256 ^ i % (2 ^ k * 2 ^ (8 - k)) by rw [← e2]]
    rw [Nat.mod_mul_right_div_self, e3, Nat.mod_mul_right_mod]
  rw [g4, g5, Nat.and_two_pow_sub_one_eq_mod, Nat.pow_one, hb] at e3
  rw [Nat.testBit_eq_decide_div_mod_eq]
  have g6 : x3 = ((n / 2 ^ (8 * i + k) % 2 : Nat) : Int) := by
    rw [e3]
    generalize n / 2 ^ (8 * i + k) = q
    simp only [wr]; omega
  rw [g6]
  generalize n / 2 ^ (8 * i + k) % 2 = z at *
  by_cases hz : z = 1
  · subst hz; rfl
  · rw [decide_eq_false hz]; exact beq_eq_false_iff_ne.2 (by omega)
theorem rfl_idred : (0 : Nat) = idL Tryd.prog 75 := by kernel_rfl
theorem rfl_idred2 : (2 : Nat) = cutI (flat (cutC (flat (lpL Tryd.prog 75)))) := by kernel_rfl
theorem red_ok1 : cutOk (flat (lpL Tryd.prog 75)) = true := by kernel_rfl
theorem red_ok2 : cutOk (flat (cutC (flat (lpL Tryd.prog 75)))) = true := by kernel_rfl
theorem red_ok3 : isLoop (cutC (flat (cutC (flat (lpL Tryd.prog 75))))) = true := by kernel_rfl
theorem red_ok4 : cutA (flat (cutC (flat (lpL Tryd.prog 75)))) = [] := by kernel_rfl
/-- Before a byte, and before a bit. -/
def redO (L n m R : Nat) (k : Nat) (ρ : Env) : Prop := k ≤ L ∧ ρ.n 0 = n ∧ ρ.n 1 = m ∧ ρ.i 0 = (k : Int) - 1 ∧ ρ.n 2 < W4 ∧ bitsF 1 n (m % W4) (8 * k) (ρ.n 2) = R
def redJ (n m R i : Nat) (j : Nat) (ρ : Env) : Prop := j ≤ 8 ∧ ρ.n 0 = n ∧ ρ.n 1 = m ∧ ρ.i 0 = (i : Int) ∧ ρ.i 1 = (j : Int) - 1 ∧ ρ.n 2 < W4 ∧ bitsF 1 n (m % W4) (8 * i + j) (ρ.n 2) = R
def red320_tr : List Ent := []
def red320_ob : List Ob := [.i (.x 0) (.c 31), .i (.o 0 0) (.o 0 0), .i (.o 0 1) (.o 0 1), .i (.o 0 2) (.o 0 2), .i (.o 0 3) (.o 0 3), .i (.o 0 4) (.o 0 4), .i (.o 0 5) (.o 0 5), .i (.o 0 6) (.o 0 6), .i (.o 0 7) (.o 0 7), .i (.o 0 8) (.o 0 8), .i (.o 0 9) (.o 0 9), .i (.o 0 10) (.o 0 10), .i (.o 0 11) (.o 0 11), .i (.o 0 12) (.o 0 12), .i (.o 0 13) (.o 0 13), .i (.o 0 14) (.o 0 14), .i (.o 0 15) (.o 0 15), .i (.o 0 16) (.o 0 16), .i (.o 0 17) (.o 0 17), .i (.o 0 18) (.o 0 18), .i (.o 0 19) (.o 0 19), .i (.o 0 20) (.o 0 20), .i (.o 0 21) (.o 0 21), .i (.o 0 22) (.o 0 22), .i (.o 0 23) (.o 0 23), .i (.o 0 24) (.o 0 24), .i (.o 0 25) (.o 0 25), .i (.o 0 26) (.o 0 26), .i (.o 0 27) (.o 0 27), .i (.o 0 28) (.o 0 28), .i (.o 0 29) (.o 0 29), .i (.o 0 30) (.o 0 30), .i (.o 0 31) (.o 0 31), .i (.w 1 0) (.w 1 0), .i (.w 1 1) (.w 1 1), .i (.w 1 2) (.w 1 2), .i (.w 1 3) (.w 1 3), .i (.w 2 0) (.c 0), .i (.w 2 1) (.c 0), .i (.w 2 2) (.c 0), .i (.w 2 3) (.c 0)]
theorem red320_run : runTo Tryd.prog (RR tabT 1) 37 (prL Tryd.prog 75) (argsTm (Tm.full 12) 0 (redA 32)) (red0 32) (redH 32) (redM 32 []) = some (.normal, red320_tr, red320_ob) := by kernel_rfl
def red32X_tr : List Ent := [.asm (.x 0) false, .db 0 (.geq) [.x 0, .c 0] [] []]
def red32X_ob : List Ob := [.i (.x 0) (.x 0), .i (.o 0 0) (.o 0 0), .i (.o 0 1) (.o 0 1), .i (.o 0 2) (.o 0 2), .i (.o 0 3) (.o 0 3), .i (.o 0 4) (.o 0 4), .i (.o 0 5) (.o 0 5), .i (.o 0 6) (.o 0 6), .i (.o 0 7) (.o 0 7), .i (.o 0 8) (.o 0 8), .i (.o 0 9) (.o 0 9), .i (.o 0 10) (.o 0 10), .i (.o 0 11) (.o 0 11), .i (.o 0 12) (.o 0 12), .i (.o 0 13) (.o 0 13), .i (.o 0 14) (.o 0 14), .i (.o 0 15) (.o 0 15), .i (.o 0 16) (.o 0 16), .i (.o 0 17) (.o 0 17), .i (.o 0 18) (.o 0 18), .i (.o 0 19) (.o 0 19), .i (.o 0 20) (.o 0 20), .i (.o 0 21) (.o 0 21), .i (.o 0 22) (.o 0 22), .i (.o 0 23) (.o 0 23), .i (.o 0 24) (.o 0 24), .i (.o 0 25) (.o 0 25), .i (.o 0 26) (.o 0 26), .i (.o 0 27) (.o 0 27), .i (.o 0 28) (.o 0 28), .i (.o 0 29) (.o 0 29), .i (.o 0 30) (.o 0 30), .i (.o 0 31) (.o 0 31), .i (.w 1 0) (.w 1 0), .i (.w 1 1) (.w 1 1), .i (.w 1 2) (.w 1 2), .i (.w 1 3) (.w 1 3), .i (.w 2 0) (.w 2 0), .i (.w 2 1) (.w 2 1), .i (.w 2 2) (.w 2 2), .i (.w 2 3) (.w 2 3)]
theorem red32X_run : runTo Tryd.prog (RR tabT 1) 37 (cutB (flat (lpL Tryd.prog 75))) (redH 32) (redM 32 [false]) (redH 32) (redM 32 []) = some (.exit 0, red32X_tr, red32X_ob) := by kernel_rfl
def red32S_tr : List Ent := [.asm (.x 0) true, .db 0 (.geq) [.x 0, .c 0] [] []]
def red32S_ob : List Ob := [.i (.x 0) (.x 0), .i (.o 0 0) (.o 0 0), .i (.o 0 1) (.o 0 1), .i (.o 0 2) (.o 0 2), .i (.o 0 3) (.o 0 3), .i (.o 0 4) (.o 0 4), .i (.o 0 5) (.o 0 5), .i (.o 0 6) (.o 0 6), .i (.o 0 7) (.o 0 7), .i (.o 0 8) (.o 0 8), .i (.o 0 9) (.o 0 9), .i (.o 0 10) (.o 0 10), .i (.o 0 11) (.o 0 11), .i (.o 0 12) (.o 0 12), .i (.o 0 13) (.o 0 13), .i (.o 0 14) (.o 0 14), .i (.o 0 15) (.o 0 15), .i (.o 0 16) (.o 0 16), .i (.o 0 17) (.o 0 17), .i (.o 0 18) (.o 0 18), .i (.o 0 19) (.o 0 19), .i (.o 0 20) (.o 0 20), .i (.o 0 21) (.o 0 21), .i (.o 0 22) (.o 0 22), .i (.o 0 23) (.o 0 23), .i (.o 0 24) (.o 0 24), .i (.o 0 25) (.o 0 25), .i (.o 0 26) (.o 0 26), .i (.o 0 27) (.o 0 27), .i (.o 0 28) (.o 0 28), .i (.o 0 29) (.o 0 29), .i (.o 0 30) (.o 0 30), .i (.o 0 31) (.o 0 31), .i (.w 1 0) (.w 1 0), .i (.w 1 1) (.w 1 1), .i (.w 1 2) (.w 1 2), .i (.w 1 3) (.w 1 3), .i (.w 2 0) (.w 2 0), .i (.w 2 1) (.w 2 1), .i (.w 2 2) (.w 2 2), .i (.w 2 3) (.w 2 3)]
theorem red32S_run : runTo Tryd.prog (RR tabT 1) 37 (cutB (flat (lpL Tryd.prog 75))) (redH 32) (redM 32 [true]) (redH 32) (redM 32 []) = some (.normal, red32S_tr, red32S_ob) := by kernel_rfl
def red32I_tr : List Ent := []
def red32I_ob : List Ob := [.i (.x 1) (.c 7), .i (.x 0) (.x 0), .i (.o 0 0) (.o 0 0), .i (.o 0 1) (.o 0 1), .i (.o 0 2) (.o 0 2), .i (.o 0 3) (.o 0 3), .i (.o 0 4) (.o 0 4), .i (.o 0 5) (.o 0 5), .i (.o 0 6) (.o 0 6), .i (.o 0 7) (.o 0 7), .i (.o 0 8) (.o 0 8), .i (.o 0 9) (.o 0 9), .i (.o 0 10) (.o 0 10), .i (.o 0 11) (.o 0 11), .i (.o 0 12) (.o 0 12), .i (.o 0 13) (.o 0 13), .i (.o 0 14) (.o 0 14), .i (.o 0 15) (.o 0 15), .i (.o 0 16) (.o 0 16), .i (.o 0 17) (.o 0 17), .i (.o 0 18) (.o 0 18), .i (.o 0 19) (.o 0 19), .i (.o 0 20) (.o 0 20), .i (.o 0 21) (.o 0 21), .i (.o 0 22) (.o 0 22), .i (.o 0 23) (.o 0 23), .i (.o 0 24) (.o 0 24), .i (.o 0 25) (.o 0 25), .i (.o 0 26) (.o 0 26), .i (.o 0 27) (.o 0 27), .i (.o 0 28) (.o 0 28), .i (.o 0 29) (.o 0 29), .i (.o 0 30) (.o 0 30), .i (.o 0 31) (.o 0 31), .i (.w 1 0) (.w 1 0), .i (.w 1 1) (.w 1 1), .i (.w 1 2) (.w 1 2), .i (.w 1 3) (.w 1 3), .i (.w 2 0) (.w 2 0), .i (.w 2 1) (.w 2 1), .i (.w 2 2) (.w 2 2), .i (.w 2 3) (.w 2 3)]
theorem red32I_run : runTo Tryd.prog (RR tabT 1) 37 (cutB (flat (cutC (flat (lpL Tryd.prog 75))))) (redH 32) (redM 32 []) (redG 32) (redN 32 []) = some (.normal, red32I_tr, red32I_ob) := by kernel_rfl
def red32Y_tr : List Ent := [.asm (.x 0) false, .db 0 (.geq) [.x 1, .c 0] [] []]
def red32Y_ob : List Ob := [.i (.x 1) (.x 1), .i (.x 0) (.x 0), .i (.o 0 0) (.o 0 0), .i (.o 0 1) (.o 0 1), .i (.o 0 2) (.o 0 2), .i (.o 0 3) (.o 0 3), .i (.o 0 4) (.o 0 4), .i (.o 0 5) (.o 0 5), .i (.o 0 6) (.o 0 6), .i (.o 0 7) (.o 0 7), .i (.o 0 8) (.o 0 8), .i (.o 0 9) (.o 0 9), .i (.o 0 10) (.o 0 10), .i (.o 0 11) (.o 0 11), .i (.o 0 12) (.o 0 12), .i (.o 0 13) (.o 0 13), .i (.o 0 14) (.o 0 14), .i (.o 0 15) (.o 0 15), .i (.o 0 16) (.o 0 16), .i (.o 0 17) (.o 0 17), .i (.o 0 18) (.o 0 18), .i (.o 0 19) (.o 0 19), .i (.o 0 20) (.o 0 20), .i (.o 0 21) (.o 0 21), .i (.o 0 22) (.o 0 22), .i (.o 0 23) (.o 0 23), .i (.o 0 24) (.o 0 24), .i (.o 0 25) (.o 0 25), .i (.o 0 26) (.o 0 26), .i (.o 0 27) (.o 0 27), .i (.o 0 28) (.o 0 28), .i (.o 0 29) (.o 0 29), .i (.o 0 30) (.o 0 30), .i (.o 0 31) (.o 0 31), .i (.w 1 0) (.w 1 0), .i (.w 1 1) (.w 1 1), .i (.w 1 2) (.w 1 2), .i (.w 1 3) (.w 1 3), .i (.w 2 0) (.w 2 0), .i (.w 2 1) (.w 2 1), .i (.w 2 2) (.w 2 2), .i (.w 2 3) (.w 2 3)]
theorem red32Y_run : runTo Tryd.prog (RR tabT 1) 37 (flat (unloop (cutC (flat (cutC (flat (lpL Tryd.prog 75))))))) (redG 32) (redN 32 [false]) (redG 32) (redN 32 []) = some (.exit 2, red32Y_tr, red32Y_ob) := by kernel_rfl
def red32T_tr : List Ent := [.di 4 (.sub (.i64)) [.x 1, .c 1], .dn 5 (.plus) [] [] [3, 4, 1], .dn 4 (.ofw) [] [.c 1, .c 0, .c 0, .c 0] [], .asm (.x 4) true, .db 4 (.eql) [.x 3, .c 1] [] [], .di 3 (.and (.u8)) [.x 2, .c 1], .di 2 (.shr (.u8)) [.oi 0 0, .x 1], .asm (.x 3) true, .db 3 (.leq) [.c 0, .x 1] [] [], .asm (.x 2) true, .db 2 (.lss) [.x 0, .c 32] [] [], .asm (.x 1) true, .db 1 (.leq) [.c 0, .x 0] [] [], .dn 3 (.plus) [] [] [2, 2, 1], .asm (.x 0) true, .db 0 (.geq) [.x 1, .c 0] [] []]
def red32T_ob : List Ob := [.i (.x 1) (.x 4), .i (.x 0) (.x 0), .i (.o 0 0) (.o 0 0), .i (.o 0 1) (.o 0 1), .i (.o 0 2) (.o 0 2), .i (.o 0 3) (.o 0 3), .i (.o 0 4) (.o 0 4), .i (.o 0 5) (.o 0 5), .i (.o 0 6) (.o 0 6), .i (.o 0 7) (.o 0 7), .i (.o 0 8) (.o 0 8), .i (.o 0 9) (.o 0 9), .i (.o 0 10) (.o 0 10), .i (.o 0 11) (.o 0 11), .i (.o 0 12) (.o 0 12), .i (.o 0 13) (.o 0 13), .i (.o 0 14) (.o 0 14), .i (.o 0 15) (.o 0 15), .i (.o 0 16) (.o 0 16), .i (.o 0 17) (.o 0 17), .i (.o 0 18) (.o 0 18), .i (.o 0 19) (.o 0 19), .i (.o 0 20) (.o 0 20), .i (.o 0 21) (.o 0 21), .i (.o 0 22) (.o 0 22), .i (.o 0 23) (.o 0 23), .i (.o 0 24) (.o 0 24), .i (.o 0 25) (.o 0 25), .i (.o 0 26) (.o 0 26), .i (.o 0 27) (.o 0 27), .i (.o 0 28) (.o 0 28), .i (.o 0 29) (.o 0 29), .i (.o 0 30) (.o 0 30), .i (.o 0 31) (.o 0 31), .i (.w 1 0) (.w 1 0), .i (.w 1 1) (.w 1 1), .i (.w 1 2) (.w 1 2), .i (.w 1 3) (.w 1 3), .i (.w 2 0) (.w 5 0), .i (.w 2 1) (.w 5 1), .i (.w 2 2) (.w 5 2), .i (.w 2 3) (.w 5 3)]
theorem red32T_run : runTo Tryd.prog (RR tabT 1) 37 (flat (unloop (cutC (flat (cutC (flat (lpL Tryd.prog 75))))))) (redG 32) (redN 32 [true, true]) (redG 32) (redN 32 []) = some (.normal, red32T_tr, red32T_ob) := by kernel_rfl
def red32F_tr : List Ent := [.di 4 (.sub (.i64)) [.x 1, .c 1], .asm (.x 4) false, .db 4 (.eql) [.x 3, .c 1] [] [], .di 3 (.and (.u8)) [.x 2, .c 1], .di 2 (.shr (.u8)) [.oi 0 0, .x 1], .asm (.x 3) true, .db 3 (.leq) [.c 0, .x 1] [] [], .asm (.x 2) true, .db 2 (.lss) [.x 0, .c 32] [] [], .asm (.x 1) true, .db 1 (.leq) [.c 0, .x 0] [] [], .dn 3 (.plus) [] [] [2, 2, 1], .asm (.x 0) true, .db 0 (.geq) [.x 1, .c 0] [] []]
def red32F_ob : List Ob := [.i (.x 1) (.x 4), .i (.x 0) (.x 0), .i (.o 0 0) (.o 0 0), .i (.o 0 1) (.o 0 1), .i (.o 0 2) (.o 0 2), .i (.o 0 3) (.o 0 3), .i (.o 0 4) (.o 0 4), .i (.o 0 5) (.o 0 5), .i (.o 0 6) (.o 0 6), .i (.o 0 7) (.o 0 7), .i (.o 0 8) (.o 0 8), .i (.o 0 9) (.o 0 9), .i (.o 0 10) (.o 0 10), .i (.o 0 11) (.o 0 11), .i (.o 0 12) (.o 0 12), .i (.o 0 13) (.o 0 13), .i (.o 0 14) (.o 0 14), .i (.o 0 15) (.o 0 15), .i (.o 0 16) (.o 0 16), .i (.o 0 17) (.o 0 17), .i (.o 0 18) (.o 0 18), .i (.o 0 19) (.o 0 19), .i (.o 0 20) (.o 0 20), .i (.o 0 21) (.o 0 21), .i (.o 0 22) (.o 0 22), .i (.o 0 23) (.o 0 23), .i (.o 0 24) (.o 0 24), .i (.o 0 25) (.o 0 25), .i (.o 0 26) (.o 0 26), .i (.o 0 27) (.o 0 27), .i (.o 0 28) (.o 0 28), .i (.o 0 29) (.o 0 29), .i (.o 0 30) (.o 0 30), .i (.o 0 31) (.o 0 31), .i (.w 1 0) (.w 1 0), .i (.w 1 1) (.w 1 1), .i (.w 1 2) (.w 1 2), .i (.w 1 3) (.w 1 3), .i (.w 2 0) (.w 3 0), .i (.w 2 1) (.w 3 1), .i (.w 2 2) (.w 3 2), .i (.w 2 3) (.w 3 3)]
theorem red32F_run : runTo Tryd.prog (RR tabT 1) 37 (flat (unloop (cutC (flat (cutC (flat (lpL Tryd.prog 75))))))) (redG 32) (redN 32 [true, false]) (redG 32) (redN 32 []) = some (.normal, red32F_tr, red32F_ob) := by kernel_rfl
def red32D_tr : List Ent := [.di 2 (.sub (.i64)) [.x 0, .c 1]]
def red32D_ob : List Ob := [.i (.x 0) (.x 2), .i (.o 0 0) (.o 0 0), .i (.o 0 1) (.o 0 1), .i (.o 0 2) (.o 0 2), .i (.o 0 3) (.o 0 3), .i (.o 0 4) (.o 0 4), .i (.o 0 5) (.o 0 5), .i (.o 0 6) (.o 0 6), .i (.o 0 7) (.o 0 7), .i (.o 0 8) (.o 0 8), .i (.o 0 9) (.o 0 9), .i (.o 0 10) (.o 0 10), .i (.o 0 11) (.o 0 11), .i (.o 0 12) (.o 0 12), .i (.o 0 13) (.o 0 13), .i (.o 0 14) (.o 0 14), .i (.o 0 15) (.o 0 15), .i (.o 0 16) (.o 0 16), .i (.o 0 17) (.o 0 17), .i (.o 0 18) (.o 0 18), .i (.o 0 19) (.o 0 19), .i (.o 0 20) (.o 0 20), .i (.o 0 21) (.o 0 21), .i (.o 0 22) (.o 0 22), .i (.o 0 23) (.o 0 23), .i (.o 0 24) (.o 0 24), .i (.o 0 25) (.o 0 25), .i (.o 0 26) (.o 0 26), .i (.o 0 27) (.o 0 27), .i (.o 0 28) (.o 0 28), .i (.o 0 29) (.o 0 29), .i (.o 0 30) (.o 0 30), .i (.o 0 31) (.o 0 31), .i (.w 1 0) (.w 1 0), .i (.w 1 1) (.w 1 1), .i (.w 1 2) (.w 1 2), .i (.w 1 3) (.w 1 3), .i (.w 2 0) (.w 2 0), .i (.w 2 1) (.w 2 1), .i (.w 2 2) (.w 2 2), .i (.w 2 3) (.w 2 3)]
theorem red32D_run : runTo Tryd.prog (RR tabT 1) 37 (cutA (flat (lpL Tryd.prog 75))) (redG 32) (redN 32 []) (redH 32) (redM 32 []) = some (.normal, red32D_tr, red32D_ob) := by kernel_rfl
def red32R_tr : List Ent := []
def red32R_mem : List Chunk := [⟨[.int .u8 (.o 0 0), .int .u8 (.o 0 1), .int .u8 (.o 0 2), .int .u8 (.o 0 3), .int .u8 (.o 0 4), .int .u8 (.o 0 5), .int .u8 (.o 0 6), .int .u8 (.o 0 7), .int .u8 (.o 0 8), .int .u8 (.o 0 9), .int .u8 (.o 0 10), .int .u8 (.o 0 11), .int .u8 (.o 0 12), .int .u8 (.o 0 13), .int .u8 (.o 0 14), .int .u8 (.o 0 15), .int .u8 (.o 0 16), .int .u8 (.o 0 17), .int .u8 (.o 0 18), .int .u8 (.o 0 19), .int .u8 (.o 0 20), .int .u8 (.o 0 21), .int .u8 (.o 0 22), .int .u8 (.o 0 23), .int .u8 (.o 0 24), .int .u8 (.o 0 25), .int .u8 (.o 0 26), .int .u8 (.o 0 27), .int .u8 (.o 0 28), .int .u8 (.o 0 29), .int .u8 (.o 0 30), .int .u8 (.o 0 31)], false⟩, ⟨[.int .u64 (.w 1 0), .int .u64 (.w 1 1), .int .u64 (.w 1 2), .int .u64 (.w 1 3)], true⟩, ⟨[.int .u64 (.w 2 0), .int .u64 (.w 2 1), .int .u64 (.w 2 2), .int .u64 (.w 2 3)], true⟩, ⟨[.int .u64 (.w 2 0), .int .u64 (.w 2 1), .int .u64 (.w 2 2), .int .u64 (.w 2 3)], true⟩]
theorem red32R_run : runRet Tryd.prog (RR tabT 1) 37 75 (poL Tryd.prog 75) (redH 32) (redM 32 []) = some ([.agg [.int .u64 (.w 2 0), .int .u64 (.w 2 1), .int .u64 (.w 2 2), .int .u64 (.w 2 3)]], red32R_tr, red32R_mem) := by kernel_rfl
theorem red32_c : RedC 32 Tryd.prog 75 := by
  intro w p n c m hro hc
  have hm0 : MRep (envN [n, m] []) (SofL [p] (red0 32).mem) w (adrL [p]) (red0 32).mem w := by
    refine mrep_of rfl (fun k q ch hq hch => ?_) (fun k k' q q' ch ch' hlt hq hq' _ _ => ?_)
    · match k, hq, hch with
      | 0, hq, hch =>
        simp only [List.getElem?_cons_zero, Option.some.injEq] at hq
        simp only [red0, List.getElem?_cons_zero, Option.some.injEq] at hch
        subst hq hch
        exact lies_octs (by decide) hro
      | k + 1, hq, _ => simp at hq
    · have h1 := (List.getElem?_eq_some_iff.1 hq').1
      simp only [List.length_cons, List.length_nil] at h1
      omega
  have hS : ∀ b j, SofL [p] (red0 32).mem b j → False := by
    rintro b j ⟨k, q, ch, _, hch, hw, _⟩
    match k, hch with
    | 0, hch => simp only [red0, List.getElem?_cons_zero, Option.some.injEq] at hch; subst hch; cases hw
    | k + 1, hch => simp [red0] at hch
  have hv : VRels (envN [n, m] []) (adrL [p]) (redA 32) [sliceV p 32 c, numV m] := by
    simp only [redA, VRels]
    refine ⟨_, _, rfl, ?_, _, _, rfl, numS_rel (ρ := envN [n, m] []) 1, rfl⟩
    simp only [VRel, sliceV]
    exact ⟨p.1, p.2, c, rfl, hc, rfl⟩
  have e256 : ∀ x : Nat, x < W4 → x % W4 = x := fun x hx => Nat.mod_eq_of_lt hx
  refine fn_invokes (ms := red0 32) (by kernel_rfl) hm0 (fun g c hgc => by simp [red0] at hgc) hv (of_decide_eq_true (by kernel_rfl)) fun ac hr => ?_
  refine fn_loop (by kernel_rfl) ?_
  generalize hR : bitsF 1 n (m % W4) (8 * 32) 0 = R
  refine to_head mix_ok (RR_ok tabT_ok _) red320_run (K := redO 32 n m R 32) hr (fun ρ ha hd => ⟨by simp only [red320_tr, Asms], ?_⟩) fun ρH α1 a1 w1 hK _ hr1 => ?_
  · have n0 : ρ.n 0 = n := ha.n 0 (by decide)
    have n1 : ρ.n 1 = m := ha.n 1 (by decide)
    refine ⟨⟨fun _ => 31, ρ.b, ρ.e, fun j => if j = 2 then 0 else ρ.n j, ρ.v⟩, rfl, ?_, ?_⟩
    · simp [red320_ob, Obs, Ob.ok, Sx.val, word]
    · exact ⟨Nat.le_refl _, n0, n1, rfl, (by decide : (0 : Nat) < W4), hR⟩
  simp only [SE.toExit, Exit.then, wps]
  refine loop_at (redO 32 n m R) α1 ?_ 32 ρH α1 a1 w1 hK (Ext.refl _ _) hr1
  intro k ρ α ac1 w1 hI hE hr
  obtain ⟨hk, n0, n1, i0, h2, hb⟩ := hI
  rw [cut_eq red_ok1]
  refine wps_app _ _ ?_
  cases k with
  | zero =>
    refine to_head mix_ok (RR_ok tabT_ok _) red32X_run (ms := redM 32 [false]) (K := fun ρH => ρH.n 2 = R) (hr.orc rfl rfl) (fun ρ' ha hd => ?_) fun ρH α' a' w' hK _ hr' => ?_
    · have j0 : ρ'.i 0 = ρ.i 0 := ha.i 0 (by decide)
      have m2 : ρ'.n 2 = ρ.n 2 := ha.n 2 (by decide)
      simp only [red32X_tr, Defs, Ent.def, Fb.sem, List.map_cons, List.map_nil, Sx.val, and_true, true_and] at hd
      refine ⟨by simp only [red32X_tr, Asms, Ent.asn, Sb.val, and_true]; rw [hd]; exact decide_eq_false (by omega), ρ', rfl, by simp only [red32X_ob, Obs, Ob.ok, and_true], ?_⟩
      rw [m2]; exact hb
    · simp only [SE.toExit, Exit.then]
      rw [if_pos rfl_idred]
      refine to_ret mix_ok (RR_ok tabT_ok _) red32R_run hr' fun ρ' ha hd => ⟨by simp only [red32R_tr, Asms], fun α'' w'' v he hv hm => ?_⟩
      have m2 : ρ'.n 2 = ρH.n 2 := ha.n 2 (by decide)
      exact ⟨by rw [numS_val (n := 2) hv, m2, hK], hm.fr.mono fun b j hbj => (hS b j hbj).elim⟩
  | succ i =>
    refine to_head mix_ok (RR_ok tabT_ok _) red32S_run (ms := redM 32 [true]) (K := redO 32 n m R (i + 1)) (hr.orc rfl rfl) (fun ρ' ha hd => ?_) fun ρH α' a' w' hK hE' hr' => ?_
    · have j0 : ρ'.i 0 = ρ.i 0 := ha.i 0 (by decide)
      have m0 : ρ'.n 0 = ρ.n 0 := ha.n 0 (by decide)
      have m1 : ρ'.n 1 = ρ.n 1 := ha.n 1 (by decide)
      have m2 : ρ'.n 2 = ρ.n 2 := ha.n 2 (by decide)
      simp only [red32S_tr, Defs, Ent.def, Fb.sem, List.map_cons, List.map_nil, Sx.val, and_true, true_and] at hd
      refine ⟨by simp only [red32S_tr, Asms, Ent.asn, Sb.val, and_true]; rw [hd]; exact decide_eq_true (by omega), ρ', rfl, by simp only [red32S_ob, Obs, Ob.ok, and_true], ?_⟩
      exact ⟨hk, by rw [m0, n0], by rw [m1, n1], by rw [j0, i0], by rw [m2]; exact h2, by rw [m2]; exact hb⟩
    · have hEE : Ext (redM 32 []).mem.length α1 α' := fun c hc => (hE' c hc hc).trans (hE c hc)
      clear hr hE hE' hb h2 i0 n0 n1 α ac1 w1 ρ
      obtain ⟨_, n0, n1, i0, h2, hb⟩ := hK
      simp only [SE.toExit, Exit.then, wps]
      refine wp_block (wp_flat ?_)
      rw [cut_eq red_ok2, unloop_eq red_ok3]
      refine wps_app _ _ ?_
      refine to_head mix_ok (RR_ok tabT_ok _) red32I_run (ms := redM 32 []) (K := redJ n m R i 8) (hr'.orc rfl rfl) (fun ρ' ha hd => ⟨by simp only [red32I_tr, Asms], ?_⟩) fun ρG α2 a2 w2 hK2 hE2 hr2 => ?_
      · have j0 : ρ'.i 0 = ρH.i 0 := ha.i 0 (by decide)
        have m0 : ρ'.n 0 = ρH.n 0 := ha.n 0 (by decide)
        have m1 : ρ'.n 1 = ρH.n 1 := ha.n 1 (by decide)
        have m2 : ρ'.n 2 = ρH.n 2 := ha.n 2 (by decide)
        refine ⟨⟨fun j => if j = 1 then 7 else ρ'.i j, ρ'.b, ρ'.e, ρ'.n, ρ'.v⟩, rfl, ?_, ?_⟩
        · simp [red32I_ob, Obs, Ob.ok, Sx.val]
        · refine ⟨Nat.le_refl _, by rw [← n0, ← m0], by rw [← n1, ← m1], ?_, rfl, by show ρ'.n 2 < W4; rw [m2]; exact h2, by show bitsF 1 n (m % W4) _ (ρ'.n 2) = R; rw [m2]; exact hb⟩
          show ρ'.i 0 = _
          rw [j0, i0]; omega
      simp only [SE.toExit, Exit.then, wps]
      refine loop_at (redJ n m R i) α2 ?_ 8 ρG α2 a2 w2 hK2 (Ext.refl _ _) hr2
      clear hr2 hr'
      intro j ρ α ac1 w1 hI hE3 hr
      have hE4 : Ext (redM 32 []).mem.length α1 α := fun c hc => (hE3 c hc).trans ((hE2 c hc hc).trans (hEE c hc))
      clear n0 n1 i0 h2 hb
      obtain ⟨hj, n0, n1, i0, i1, h2, hb⟩ := hI
      cases j with
      | zero =>
        refine to_head mix_ok (RR_ok tabT_ok _) red32Y_run (ms := redN 32 [false]) (K := redJ n m R i 0) (hr.orc rfl rfl) (fun ρ' ha hd => ?_) fun ρK α3 a3 w3 hK3 hE5 hr3 => ?_
        · have j1 : ρ'.i 1 = ρ.i 1 := ha.i 1 (by decide)
          have j0 : ρ'.i 0 = ρ.i 0 := ha.i 0 (by decide)
          have m0 : ρ'.n 0 = ρ.n 0 := ha.n 0 (by decide)
          have m1 : ρ'.n 1 = ρ.n 1 := ha.n 1 (by decide)
          have m2 : ρ'.n 2 = ρ.n 2 := ha.n 2 (by decide)
          simp only [red32Y_tr, Defs, Ent.def, Fb.sem, List.map_cons, List.map_nil, Sx.val, and_true, true_and] at hd
          refine ⟨by simp only [red32Y_tr, Asms, Ent.asn, Sb.val, and_true]; rw [hd]; exact decide_eq_false (by omega), ρ', rfl, by simp only [red32Y_ob, Obs, Ob.ok, and_true], ?_⟩
          exact ⟨hj, by rw [m0, n0], by rw [m1, n1], by rw [j0, i0], by rw [j1, i1], by rw [m2]; exact h2, by rw [m2]; exact hb⟩
        · simp only [SE.toExit]
          rw [if_pos rfl_idred2]
          rw [red_ok4]
          simp only [wps, Exit.inBlock]
          clear hr
          obtain ⟨_, n0', n1', i0', _, h2', hb'⟩ := hK3
          refine to_head mix_ok (RR_ok tabT_ok _) red32D_run (ms := redN 32 []) (K := redO 32 n m R i) (hr3.orc rfl rfl) (fun ρ' ha hd => ⟨by simp only [red32D_tr, Asms, Ent.asn, and_true], ?_⟩) fun ρF α4 a4 w4 hK4 hE6 hr4 => ⟨i, ρF, α4, Nat.lt_succ_self i, hK4, fun c hc => (hE6 c hc hc).trans ((hE5 c hc hc).trans (hE4 c hc)), hr4⟩
          have j0 : ρ'.i 0 = ρK.i 0 := ha.i 0 (by decide)
          have m0 : ρ'.n 0 = ρK.n 0 := ha.n 0 (by decide)
          have m1 : ρ'.n 1 = ρK.n 1 := ha.n 1 (by decide)
          have m2 : ρ'.n 2 = ρK.n 2 := ha.n 2 (by decide)
          simp only [red32D_tr, Defs, Ent.def, Fi.sem, List.map_cons, List.map_nil, Sx.val, and_true] at hd
          refine ⟨⟨fun _ => ρ'.i 2, ρ'.b, ρ'.e, ρ'.n, ρ'.v⟩, rfl, ?_, ?_⟩
          · simp [red32D_ob, Obs, Ob.ok, Sx.val]
          · refine ⟨by omega, by rw [← n0', ← m0], by rw [← n1', ← m1], ?_, by show ρ'.n 2 < W4; rw [m2]; exact h2', by show bitsF 1 n (m % W4) _ (ρ'.n 2) = R; rw [m2, ← hb']; rfl⟩
            show ρ'.i 2 = _
            rw [hd]; simp only [wr]; omega
      | succ j =>
        have ij : ρ.i 1 = (j : Int) := by omega
        have hplus : ∀ x : Nat, x % W4 = x → plusN x x (m % W4) < W4 := fun x _ => plusN_lt
        cases hbit : n.testBit (8 * i + j) with
        | true =>
          refine to_head mix_ok (RR_ok tabT_ok _) red32T_run (ms := redN 32 [true, true]) (K := redJ n m R i j) (hr.orc rfl rfl) (fun ρ' ha hd => ?_) fun ρK α3 a3 w3 hK3 hE5 hr3 => ⟨j, ρK, α3, Nat.lt_succ_self j, hK3, fun c hc => (hE5 c hc hc).trans (hE3 c hc), hr3⟩
          have j0 : ρ'.i 0 = ρ.i 0 := ha.i 0 (by decide)
          have j1 : ρ'.i 1 = ρ.i 1 := ha.i 1 (by decide)
          have m0 : ρ'.n 0 = ρ.n 0 := ha.n 0 (by decide)
          have m1 : ρ'.n 1 = ρ.n 1 := ha.n 1 (by decide)
          have m2 : ρ'.n 2 = ρ.n 2 := ha.n 2 (by decide)
          simp only [red32T_tr, Defs, Ent.def, Fb.sem, Fi.sem, Fn.sem, List.map_cons, List.map_nil, Sx.val, and_true, true_and, nbits, j0, j1, i0, ij, m0, m1, m2, n0, n1, e256 (ρ.n 2) h2, Int.toNat_natCast] at hd
          obtain ⟨d4, p5, p4, b4, d3, d2, b3, b2, b1, p3, b0⟩ := hd
          have t1 := bit8 (n := n) (i := i) (k := j) (by omega) d2 d3
          have h4 : ρ'.n 4 % W4 = 1 := by rw [p4]; decide +kernel
          rw [e256 (ρ'.n 3) (by rw [p3]; exact plusN_lt), p3, h4] at p5
          refine ⟨?_, ⟨fun j => if j = 1 then ρ'.i 4 else ρ'.i j, ρ'.b, ρ'.e, fun j => if j = 2 then ρ'.n 5 else ρ'.n j, ρ'.v⟩, rfl, ?_, ?_⟩
          · simp only [red32T_tr, Asms, Ent.asn, Sb.val, and_true, true_and]
            refine ⟨?_, ?_, ?_, ?_, ?_⟩
            · rw [b4, t1]; exact hbit
            · rw [b3]; exact decide_eq_true (by omega)
            · rw [b2]; exact decide_eq_true (by omega)
            · rw [b1]; exact decide_eq_true (by omega)
            · rw [b0]; exact decide_eq_true (by omega)
          · simp [red32T_ob, Obs, Ob.ok, Sx.val]
          · refine ⟨by omega, by rw [← n0, ← m0]; rfl, by rw [← n1, ← m1]; rfl, ?_, ?_, ?_, ?_⟩
            · show (if (0 : Nat) = 1 then ρ'.i 4 else ρ'.i 0) = _
              rw [if_neg (by decide), j0, i0]
            · show ρ'.i 4 = _
              rw [d4]; simp only [wr]; omega
            · show ρ'.n 5 < W4
              rw [p5]; exact plusN_lt
            · show bitsF 1 n (m % W4) (8 * i + j) (ρ'.n 5) = _
              rw [← hb, p5, show 8 * i + (j + 1) = 8 * i + j + 1 by omega]
              simp only [bitsF, hbit, if_true]
        | false =>
          refine to_head mix_ok (RR_ok tabT_ok _) red32F_run (ms := redN 32 [true, false]) (K := redJ n m R i j) (hr.orc rfl rfl) (fun ρ' ha hd => ?_) fun ρK α3 a3 w3 hK3 hE5 hr3 => ⟨j, ρK, α3, Nat.lt_succ_self j, hK3, fun c hc => (hE5 c hc hc).trans (hE3 c hc), hr3⟩
          have j0 : ρ'.i 0 = ρ.i 0 := ha.i 0 (by decide)
          have j1 : ρ'.i 1 = ρ.i 1 := ha.i 1 (by decide)
          have m0 : ρ'.n 0 = ρ.n 0 := ha.n 0 (by decide)
          have m1 : ρ'.n 1 = ρ.n 1 := ha.n 1 (by decide)
          have m2 : ρ'.n 2 = ρ.n 2 := ha.n 2 (by decide)
          simp only [red32F_tr, Defs, Ent.def, Fb.sem, Fi.sem, Fn.sem, List.map_cons, List.map_nil, Sx.val, and_true, true_and, nbits, j0, j1, i0, ij, m0, m1, m2, n0, n1, e256 (ρ.n 2) h2, Int.toNat_natCast] at hd
          obtain ⟨d4, b4, d3, d2, b3, b2, b1, p3, b0⟩ := hd
          have t1 := bit8 (n := n) (i := i) (k := j) (by omega) d2 d3
          refine ⟨?_, ⟨fun j => if j = 1 then ρ'.i 4 else ρ'.i j, ρ'.b, ρ'.e, fun j => if j = 2 then ρ'.n 3 else ρ'.n j, ρ'.v⟩, rfl, ?_, ?_⟩
          · simp only [red32F_tr, Asms, Ent.asn, Sb.val, and_true, true_and]
            refine ⟨?_, ?_, ?_, ?_, ?_⟩
            · rw [b4, t1]; exact hbit
            · rw [b3]; exact decide_eq_true (by omega)
            · rw [b2]; exact decide_eq_true (by omega)
            · rw [b1]; exact decide_eq_true (by omega)
            · rw [b0]; exact decide_eq_true (by omega)
          · simp [red32F_ob, Obs, Ob.ok, Sx.val]
          · refine ⟨by omega, by rw [← n0, ← m0]; rfl, by rw [← n1, ← m1]; rfl, ?_, ?_, ?_, ?_⟩
            · show (if (0 : Nat) = 1 then ρ'.i 4 else ρ'.i 0) = _
              rw [if_neg (by decide), j0, i0]
            · show ρ'.i 4 = _
              rw [d4]; simp only [wr]; omega
            · show ρ'.n 3 < W4
              rw [p3]; exact plusN_lt
            · show bitsF 1 n (m % W4) (8 * i + j) (ρ'.n 3) = _
              rw [← hb, p3, show 8 * i + (j + 1) = 8 * i + j + 1 by omega]
              simp only [bitsF, hbit]
              rfl
def red640_tr : List Ent := []
def red640_ob : List Ob := [.i (.x 0) (.c 63), .i (.o 0 0) (.o 0 0), .i (.o 0 1) (.o 0 1), .i (.o 0 2) (.o 0 2), .i (.o 0 3) (.o 0 3), .i (.o 0 4) (.o 0 4), .i (.o 0 5) (.o 0 5), .i (.o 0 6) (.o 0 6), .i (.o 0 7) (.o 0 7), .i (.o 0 8) (.o 0 8), .i (.o 0 9) (.o 0 9), .i (.o 0 10) (.o 0 10), .i (.o 0 11) (.o 0 11), .i (.o 0 12) (.o 0 12), .i (.o 0 13) (.o 0 13), .i (.o 0 14) (.o 0 14), .i (.o 0 15) (.o 0 15), .i (.o 0 16) (.o 0 16), .i (.o 0 17) (.o 0 17), .i (.o 0 18) (.o 0 18), .i (.o 0 19) (.o 0 19), .i (.o 0 20) (.o 0 20), .i (.o 0 21) (.o 0 21), .i (.o 0 22) (.o 0 22), .i (.o 0 23) (.o 0 23), .i (.o 0 24) (.o 0 24), .i (.o 0 25) (.o 0 25), .i (.o 0 26) (.o 0 26), .i (.o 0 27) (.o 0 27), .i (.o 0 28) (.o 0 28), .i (.o 0 29) (.o 0 29), .i (.o 0 30) (.o 0 30), .i (.o 0 31) (.o 0 31), .i (.o 0 32) (.o 0 32), .i (.o 0 33) (.o 0 33), .i (.o 0 34) (.o 0 34), .i (.o 0 35) (.o 0 35), .i (.o 0 36) (.o 0 36), .i (.o 0 37) (.o 0 37), .i (.o 0 38) (.o 0 38), .i (.o 0 39) (.o 0 39), .i (.o 0 40) (.o 0 40), .i (.o 0 41) (.o 0 41), .i (.o 0 42) (.o 0 42), .i (.o 0 43) (.o 0 43), .i (.o 0 44) (.o 0 44), .i (.o 0 45) (.o 0 45), .i (.o 0 46) (.o 0 46), .i (.o 0 47) (.o 0 47), .i (.o 0 48) (.o 0 48), .i (.o 0 49) (.o 0 49), .i (.o 0 50) (.o 0 50), .i (.o 0 51) (.o 0 51), .i (.o 0 52) (.o 0 52), .i (.o 0 53) (.o 0 53), .i (.o 0 54) (.o 0 54), .i (.o 0 55) (.o 0 55), .i (.o 0 56) (.o 0 56), .i (.o 0 57) (.o 0 57), .i (.o 0 58) (.o 0 58), .i (.o 0 59) (.o 0 59), .i (.o 0 60) (.o 0 60), .i (.o 0 61) (.o 0 61), .i (.o 0 62) (.o 0 62), .i (.o 0 63) (.o 0 63), .i (.w 1 0) (.w 1 0), .i (.w 1 1) (.w 1 1), .i (.w 1 2) (.w 1 2), .i (.w 1 3) (.w 1 3), .i (.w 2 0) (.c 0), .i (.w 2 1) (.c 0), .i (.w 2 2) (.c 0), .i (.w 2 3) (.c 0)]
theorem red640_run : runTo Tryd.prog (RR tabT 1) 37 (prL Tryd.prog 75) (argsTm (Tm.full 12) 0 (redA 64)) (red0 64) (redH 64) (redM 64 []) = some (.normal, red640_tr, red640_ob) := by kernel_rfl
def red64X_tr : List Ent := [.asm (.x 0) false, .db 0 (.geq) [.x 0, .c 0] [] []]
def red64X_ob : List Ob := [.i (.x 0) (.x 0), .i (.o 0 0) (.o 0 0), .i (.o 0 1) (.o 0 1), .i (.o 0 2) (.o 0 2), .i (.o 0 3) (.o 0 3), .i (.o 0 4) (.o 0 4), .i (.o 0 5) (.o 0 5), .i (.o 0 6) (.o 0 6), .i (.o 0 7) (.o 0 7), .i (.o 0 8) (.o 0 8), .i (.o 0 9) (.o 0 9), .i (.o 0 10) (.o 0 10), .i (.o 0 11) (.o 0 11), .i (.o 0 12) (.o 0 12), .i (.o 0 13) (.o 0 13), .i (.o 0 14) (.o 0 14), .i (.o 0 15) (.o 0 15), .i (.o 0 16) (.o 0 16), .i (.o 0 17) (.o 0 17), .i (.o 0 18) (.o 0 18), .i (.o 0 19) (.o 0 19), .i (.o 0 20) (.o 0 20), .i (.o 0 21) (.o 0 21), .i (.o 0 22) (.o 0 22), .i (.o 0 23) (.o 0 23), .i (.o 0 24) (.o 0 24), .i (.o 0 25) (.o 0 25), .i (.o 0 26) (.o 0 26), .i (.o 0 27) (.o 0 27), .i (.o 0 28) (.o 0 28), .i (.o 0 29) (.o 0 29), .i (.o 0 30) (.o 0 30), .i (.o 0 31) (.o 0 31), .i (.o 0 32) (.o 0 32), .i (.o 0 33) (.o 0 33), .i (.o 0 34) (.o 0 34), .i (.o 0 35) (.o 0 35), .i (.o 0 36) (.o 0 36), .i (.o 0 37) (.o 0 37), .i (.o 0 38) (.o 0 38), .i (.o 0 39) (.o 0 39), .i (.o 0 40) (.o 0 40), .i (.o 0 41) (.o 0 41), .i (.o 0 42) (.o 0 42), .i (.o 0 43) (.o 0 43), .i (.o 0 44) (.o 0 44), .i (.o 0 45) (.o 0 45), .i (.o 0 46) (.o 0 46), .i (.o 0 47) (.o 0 47), .i (.o 0 48) (.o 0 48), .i (.o 0 49) (.o 0 49), .i (.o 0 50) (.o 0 50), .i (.o 0 51) (.o 0 51), .i (.o 0 52) (.o 0 52), .i (.o 0 53) (.o 0 53), .i (.o 0 54) (.o 0 54), .i (.o 0 55) (.o 0 55), .i (.o 0 56) (.o 0 56), .i (.o 0 57) (.o 0 57), .i (.o 0 58) (.o 0 58), .i (.o 0 59) (.o 0 59), .i (.o 0 60) (.o 0 60), .i (.o 0 61) (.o 0 61), .i (.o 0 62) (.o 0 62), .i (.o 0 63) (.o 0 63), .i (.w 1 0) (.w 1 0), .i (.w 1 1) (.w 1 1), .i (.w 1 2) (.w 1 2), .i (.w 1 3) (.w 1 3), .i (.w 2 0) (.w 2 0), .i (.w 2 1) (.w 2 1), .i (.w 2 2) (.w 2 2), .i (.w 2 3) (.w 2 3)]
theorem red64X_run : runTo Tryd.prog (RR tabT 1) 37 (cutB (flat (lpL Tryd.prog 75))) (redH 64) (redM 64 [false]) (redH 64) (redM 64 []) = some (.exit 0, red64X_tr, red64X_ob) := by kernel_rfl
def red64S_tr : List Ent := [.asm (.x 0) true, .db 0 (.geq) [.x 0, .c 0] [] []]
def red64S_ob : List Ob := [.i (.x 0) (.x 0), .i (.o 0 0) (.o 0 0), .i (.o 0 1) (.o 0 1), .i (.o 0 2) (.o 0 2), .i (.o 0 3) (.o 0 3), .i (.o 0 4) (.o 0 4), .i (.o 0 5) (.o 0 5), .i (.o 0 6) (.o 0 6), .i (.o 0 7) (.o 0 7), .i (.o 0 8) (.o 0 8), .i (.o 0 9) (.o 0 9), .i (.o 0 10) (.o 0 10), .i (.o 0 11) (.o 0 11), .i (.o 0 12) (.o 0 12), .i (.o 0 13) (.o 0 13), .i (.o 0 14) (.o 0 14), .i (.o 0 15) (.o 0 15), .i (.o 0 16) (.o 0 16), .i (.o 0 17) (.o 0 17), .i (.o 0 18) (.o 0 18), .i (.o 0 19) (.o 0 19), .i (.o 0 20) (.o 0 20), .i (.o 0 21) (.o 0 21), .i (.o 0 22) (.o 0 22), .i (.o 0 23) (.o 0 23), .i (.o 0 24) (.o 0 24), .i (.o 0 25) (.o 0 25), .i (.o 0 26) (.o 0 26), .i (.o 0 27) (.o 0 27), .i (.o 0 28) (.o 0 28), .i (.o 0 29) (.o 0 29), .i (.o 0 30) (.o 0 30), .i (.o 0 31) (.o 0 31), .i (.o 0 32) (.o 0 32), .i (.o 0 33) (.o 0 33), .i (.o 0 34) (.o 0 34), .i (.o 0 35) (.o 0 35), .i (.o 0 36) (.o 0 36), .i (.o 0 37) (.o 0 37), .i (.o 0 38) (.o 0 38), .i (.o 0 39) (.o 0 39), .i (.o 0 40) (.o 0 40), .i (.o 0 41) (.o 0 41), .i (.o 0 42) (.o 0 42), .i (.o 0 43) (.o 0 43), .i (.o 0 44) (.o 0 44), .i (.o 0 45) (.o 0 45), .i (.o 0 46) (.o 0 46), .i (.o 0 47) (.o 0 47), .i (.o 0 48) (.o 0 48), .i (.o 0 49) (.o 0 49), .i (.o 0 50) (.o 0 50), .i (.o 0 51) (.o 0 51), .i (.o 0 52) (.o 0 52), .i (.o 0 53) (.o 0 53), .i (.o 0 54) (.o 0 54), .i (.o 0 55) (.o 0 55), .i (.o 0 56) (.o 0 56), .i (.o 0 57) (.o 0 57), .i (.o 0 58) (.o 0 58), .i (.o 0 59) (.o 0 59), .i (.o 0 60) (.o 0 60), .i (.o 0 61) (.o 0 61), .i (.o 0 62) (.o 0 62), .i (.o 0 63) (.o 0 63), .i (.w 1 0) (.w 1 0), .i (.w 1 1) (.w 1 1), .i (.w 1 2) (.w 1 2), .i (.w 1 3) (.w 1 3), .i (.w 2 0) (.w 2 0), .i (.w 2 1) (.w 2 1), .i (.w 2 2) (.w 2 2), .i (.w 2 3) (.w 2 3)]
theorem red64S_run : runTo Tryd.prog (RR tabT 1) 37 (cutB (flat (lpL Tryd.prog 75))) (redH 64) (redM 64 [true]) (redH 64) (redM 64 []) = some (.normal, red64S_tr, red64S_ob) := by kernel_rfl
def red64I_tr : List Ent := []
def red64I_ob : List Ob := [.i (.x 1) (.c 7), .i (.x 0) (.x 0), .i (.o 0 0) (.o 0 0), .i (.o 0 1) (.o 0 1), .i (.o 0 2) (.o 0 2), .i (.o 0 3) (.o 0 3), .i (.o 0 4) (.o 0 4), .i (.o 0 5) (.o 0 5), .i (.o 0 6) (.o 0 6), .i (.o 0 7) (.o 0 7), .i (.o 0 8) (.o 0 8), .i (.o 0 9) (.o 0 9), .i (.o 0 10) (.o 0 10), .i (.o 0 11) (.o 0 11), .i (.o 0 12) (.o 0 12), .i (.o 0 13) (.o 0 13), .i (.o 0 14) (.o 0 14), .i (.o 0 15) (.o 0 15), .i (.o 0 16) (.o 0 16), .i (.o 0 17) (.o 0 17), .i (.o 0 18) (.o 0 18), .i (.o 0 19) (.o 0 19), .i (.o 0 20) (.o 0 20), .i (.o 0 21) (.o 0 21), .i (.o 0 22) (.o 0 22), .i (.o 0 23) (.o 0 23), .i (.o 0 24) (.o 0 24), .i (.o 0 25) (.o 0 25), .i (.o 0 26) (.o 0 26), .i (.o 0 27) (.o 0 27), .i (.o 0 28) (.o 0 28), .i (.o 0 29) (.o 0 29), .i (.o 0 30) (.o 0 30), .i (.o 0 31) (.o 0 31), .i (.o 0 32) (.o 0 32), .i (.o 0 33) (.o 0 33), .i (.o 0 34) (.o 0 34), .i (.o 0 35) (.o 0 35), .i (.o 0 36) (.o 0 36), .i (.o 0 37) (.o 0 37), .i (.o 0 38) (.o 0 38), .i (.o 0 39) (.o 0 39), .i (.o 0 40) (.o 0 40), .i (.o 0 41) (.o 0 41), .i (.o 0 42) (.o 0 42), .i (.o 0 43) (.o 0 43), .i (.o 0 44) (.o 0 44), .i (.o 0 45) (.o 0 45), .i (.o 0 46) (.o 0 46), .i (.o 0 47) (.o 0 47), .i (.o 0 48) (.o 0 48), .i (.o 0 49) (.o 0 49), .i (.o 0 50) (.o 0 50), .i (.o 0 51) (.o 0 51), .i (.o 0 52) (.o 0 52), .i (.o 0 53) (.o 0 53), .i (.o 0 54) (.o 0 54), .i (.o 0 55) (.o 0 55), .i (.o 0 56) (.o 0 56), .i (.o 0 57) (.o 0 57), .i (.o 0 58) (.o 0 58), .i (.o 0 59) (.o 0 59), .i (.o 0 60) (.o 0 60), .i (.o 0 61) (.o 0 61), .i (.o 0 62) (.o 0 62), .i (.o 0 63) (.o 0 63), .i (.w 1 0) (.w 1 0), .i (.w 1 1) (.w 1 1), .i (.w 1 2) (.w 1 2), .i (.w 1 3) (.w 1 3), .i (.w 2 0) (.w 2 0), .i (.w 2 1) (.w 2 1), .i (.w 2 2) (.w 2 2), .i (.w 2 3) (.w 2 3)]
theorem red64I_run : runTo Tryd.prog (RR tabT 1) 37 (cutB (flat (cutC (flat (lpL Tryd.prog 75))))) (redH 64) (redM 64 []) (redG 64) (redN 64 []) = some (.normal, red64I_tr, red64I_ob) := by kernel_rfl
def red64Y_tr : List Ent := [.asm (.x 0) false, .db 0 (.geq) [.x 1, .c 0] [] []]
def red64Y_ob : List Ob := [.i (.x 1) (.x 1), .i (.x 0) (.x 0), .i (.o 0 0) (.o 0 0), .i (.o 0 1) (.o 0 1), .i (.o 0 2) (.o 0 2), .i (.o 0 3) (.o 0 3), .i (.o 0 4) (.o 0 4), .i (.o 0 5) (.o 0 5), .i (.o 0 6) (.o 0 6), .i (.o 0 7) (.o 0 7), .i (.o 0 8) (.o 0 8), .i (.o 0 9) (.o 0 9), .i (.o 0 10) (.o 0 10), .i (.o 0 11) (.o 0 11), .i (.o 0 12) (.o 0 12), .i (.o 0 13) (.o 0 13), .i (.o 0 14) (.o 0 14), .i (.o 0 15) (.o 0 15), .i (.o 0 16) (.o 0 16), .i (.o 0 17) (.o 0 17), .i (.o 0 18) (.o 0 18), .i (.o 0 19) (.o 0 19), .i (.o 0 20) (.o 0 20), .i (.o 0 21) (.o 0 21), .i (.o 0 22) (.o 0 22), .i (.o 0 23) (.o 0 23), .i (.o 0 24) (.o 0 24), .i (.o 0 25) (.o 0 25), .i (.o 0 26) (.o 0 26), .i (.o 0 27) (.o 0 27), .i (.o 0 28) (.o 0 28), .i (.o 0 29) (.o 0 29), .i (.o 0 30) (.o 0 30), .i (.o 0 31) (.o 0 31), .i (.o 0 32) (.o 0 32), .i (.o 0 33) (.o 0 33), .i (.o 0 34) (.o 0 34), .i (.o 0 35) (.o 0 35), .i (.o 0 36) (.o 0 36), .i (.o 0 37) (.o 0 37), .i (.o 0 38) (.o 0 38), .i (.o 0 39) (.o 0 39), .i (.o 0 40) (.o 0 40), .i (.o 0 41) (.o 0 41), .i (.o 0 42) (.o 0 42), .i (.o 0 43) (.o 0 43), .i (.o 0 44) (.o 0 44), .i (.o 0 45) (.o 0 45), .i (.o 0 46) (.o 0 46), .i (.o 0 47) (.o 0 47), .i (.o 0 48) (.o 0 48), .i (.o 0 49) (.o 0 49), .i (.o 0 50) (.o 0 50), .i (.o 0 51) (.o 0 51), .i (.o 0 52) (.o 0 52), .i (.o 0 53) (.o 0 53), .i (.o 0 54) (.o 0 54), .i (.o 0 55) (.o 0 55), .i (.o 0 56) (.o 0 56), .i (.o 0 57) (.o 0 57), .i (.o 0 58) (.o 0 58), .i (.o 0 59) (.o 0 59), .i (.o 0 60) (.o 0 60), .i (.o 0 61) (.o 0 61), .i (.o 0 62) (.o 0 62), .i (.o 0 63) (.o 0 63), .i (.w 1 0) (.w 1 0), .i (.w 1 1) (.w 1 1), .i (.w 1 2) (.w 1 2), .i (.w 1 3) (.w 1 3), .i (.w 2 0) (.w 2 0), .i (.w 2 1) (.w 2 1), .i (.w 2 2) (.w 2 2), .i (.w 2 3) (.w 2 3)]
theorem red64Y_run : runTo Tryd.prog (RR tabT 1) 37 (flat (unloop (cutC (flat (cutC (flat (lpL Tryd.prog 75))))))) (redG 64) (redN 64 [false]) (redG 64) (redN 64 []) = some (.exit 2, red64Y_tr, red64Y_ob) := by kernel_rfl
def red64T_tr : List Ent := [.di 4 (.sub (.i64)) [.x 1, .c 1], .dn 5 (.plus) [] [] [3, 4, 1], .dn 4 (.ofw) [] [.c 1, .c 0, .c 0, .c 0] [], .asm (.x 4) true, .db 4 (.eql) [.x 3, .c 1] [] [], .di 3 (.and (.u8)) [.x 2, .c 1], .di 2 (.shr (.u8)) [.oi 0 0, .x 1], .asm (.x 3) true, .db 3 (.leq) [.c 0, .x 1] [] [], .asm (.x 2) true, .db 2 (.lss) [.x 0, .c 64] [] [], .asm (.x 1) true, .db 1 (.leq) [.c 0, .x 0] [] [], .dn 3 (.plus) [] [] [2, 2, 1], .asm (.x 0) true, .db 0 (.geq) [.x 1, .c 0] [] []]
def red64T_ob : List Ob := [.i (.x 1) (.x 4), .i (.x 0) (.x 0), .i (.o 0 0) (.o 0 0), .i (.o 0 1) (.o 0 1), .i (.o 0 2) (.o 0 2), .i (.o 0 3) (.o 0 3), .i (.o 0 4) (.o 0 4), .i (.o 0 5) (.o 0 5), .i (.o 0 6) (.o 0 6), .i (.o 0 7) (.o 0 7), .i (.o 0 8) (.o 0 8), .i (.o 0 9) (.o 0 9), .i (.o 0 10) (.o 0 10), .i (.o 0 11) (.o 0 11), .i (.o 0 12) (.o 0 12), .i (.o 0 13) (.o 0 13), .i (.o 0 14) (.o 0 14), .i (.o 0 15) (.o 0 15), .i (.o 0 16) (.o 0 16), .i (.o 0 17) (.o 0 17), .i (.o 0 18) (.o 0 18), .i (.o 0 19) (.o 0 19), .i (.o 0 20) (.o 0 20), .i (.o 0 21) (.o 0 21), .i (.o 0 22) (.o 0 22), .i (.o 0 23) (.o 0 23), .i (.o 0 24) (.o 0 24), .i (.o 0 25) (.o 0 25), .i (.o 0 26) (.o 0 26), .i (.o 0 27) (.o 0 27), .i (.o 0 28) (.o 0 28), .i (.o 0 29) (.o 0 29), .i (.o 0 30) (.o 0 30), .i (.o 0 31) (.o 0 31), .i (.o 0 32) (.o 0 32), .i (.o 0 33) (.o 0 33), .i (.o 0 34) (.o 0 34), .i (.o 0 35) (.o 0 35), .i (.o 0 36) (.o 0 36), .i (.o 0 37) (.o 0 37), .i (.o 0 38) (.o 0 38), .i (.o 0 39) (.o 0 39), .i (.o 0 40) (.o 0 40), .i (.o 0 41) (.o 0 41), .i (.o 0 42) (.o 0 42), .i (.o 0 43) (.o 0 43), .i (.o 0 44) (.o 0 44), .i (.o 0 45) (.o 0 45), .i (.o 0 46) (.o 0 46), .i (.o 0 47) (.o 0 47), .i (.o 0 48) (.o 0 48), .i (.o 0 49) (.o 0 49), .i (.o 0 50) (.o 0 50), .i (.o 0 51) (.o 0 51), .i (.o 0 52) (.o 0 52), .i (.o 0 53) (.o 0 53), .i (.o 0 54) (.o 0 54), .i (.o 0 55) (.o 0 55), .i (.o 0 56) (.o 0 56), .i (.o 0 57) (.o 0 57), .i (.o 0 58) (.o 0 58), .i (.o 0 59) (.o 0 59), .i (.o 0 60) (.o 0 60), .i (.o 0 61) (.o 0 61), .i (.o 0 62) (.o 0 62), .i (.o 0 63) (.o 0 63), .i (.w 1 0) (.w 1 0), .i (.w 1 1) (.w 1 1), .i (.w 1 2) (.w 1 2), .i (.w 1 3) (.w 1 3), .i (.w 2 0) (.w 5 0), .i (.w 2 1) (.w 5 1), .i (.w 2 2) (.w 5 2), .i (.w 2 3) (.w 5 3)]
theorem red64T_run : runTo Tryd.prog (RR tabT 1) 37 (flat (unloop (cutC (flat (cutC (flat (lpL Tryd.prog 75))))))) (redG 64) (redN 64 [true, true]) (redG 64) (redN 64 []) = some (.normal, red64T_tr, red64T_ob) := by kernel_rfl
def red64F_tr : List Ent := [.di 4 (.sub (.i64)) [.x 1, .c 1], .asm (.x 4) false, .db 4 (.eql) [.x 3, .c 1] [] [], .di 3 (.and (.u8)) [.x 2, .c 1], .di 2 (.shr (.u8)) [.oi 0 0, .x 1], .asm (.x 3) true, .db 3 (.leq) [.c 0, .x 1] [] [], .asm (.x 2) true, .db 2 (.lss) [.x 0, .c 64] [] [], .asm (.x 1) true, .db 1 (.leq) [.c 0, .x 0] [] [], .dn 3 (.plus) [] [] [2, 2, 1], .asm (.x 0) true, .db 0 (.geq) [.x 1, .c 0] [] []]
def red64F_ob : List Ob := [.i (.x 1) (.x 4), .i (.x 0) (.x 0), .i (.o 0 0) (.o 0 0), .i (.o 0 1) (.o 0 1), .i (.o 0 2) (.o 0 2), .i (.o 0 3) (.o 0 3), .i (.o 0 4) (.o 0 4), .i (.o 0 5) (.o 0 5), .i (.o 0 6) (.o 0 6), .i (.o 0 7) (.o 0 7), .i (.o 0 8) (.o 0 8), .i (.o 0 9) (.o 0 9), .i (.o 0 10) (.o 0 10), .i (.o 0 11) (.o 0 11), .i (.o 0 12) (.o 0 12), .i (.o 0 13) (.o 0 13), .i (.o 0 14) (.o 0 14), .i (.o 0 15) (.o 0 15), .i (.o 0 16) (.o 0 16), .i (.o 0 17) (.o 0 17), .i (.o 0 18) (.o 0 18), .i (.o 0 19) (.o 0 19), .i (.o 0 20) (.o 0 20), .i (.o 0 21) (.o 0 21), .i (.o 0 22) (.o 0 22), .i (.o 0 23) (.o 0 23), .i (.o 0 24) (.o 0 24), .i (.o 0 25) (.o 0 25), .i (.o 0 26) (.o 0 26), .i (.o 0 27) (.o 0 27), .i (.o 0 28) (.o 0 28), .i (.o 0 29) (.o 0 29), .i (.o 0 30) (.o 0 30), .i (.o 0 31) (.o 0 31), .i (.o 0 32) (.o 0 32), .i (.o 0 33) (.o 0 33), .i (.o 0 34) (.o 0 34), .i (.o 0 35) (.o 0 35), .i (.o 0 36) (.o 0 36), .i (.o 0 37) (.o 0 37), .i (.o 0 38) (.o 0 38), .i (.o 0 39) (.o 0 39), .i (.o 0 40) (.o 0 40), .i (.o 0 41) (.o 0 41), .i (.o 0 42) (.o 0 42), .i (.o 0 43) (.o 0 43), .i (.o 0 44) (.o 0 44), .i (.o 0 45) (.o 0 45), .i (.o 0 46) (.o 0 46), .i (.o 0 47) (.o 0 47), .i (.o 0 48) (.o 0 48), .i (.o 0 49) (.o 0 49), .i (.o 0 50) (.o 0 50), .i (.o 0 51) (.o 0 51), .i (.o 0 52) (.o 0 52), .i (.o 0 53) (.o 0 53), .i (.o 0 54) (.o 0 54), .i (.o 0 55) (.o 0 55), .i (.o 0 56) (.o 0 56), .i (.o 0 57) (.o 0 57), .i (.o 0 58) (.o 0 58), .i (.o 0 59) (.o 0 59), .i (.o 0 60) (.o 0 60), .i (.o 0 61) (.o 0 61), .i (.o 0 62) (.o 0 62), .i (.o 0 63) (.o 0 63), .i (.w 1 0) (.w 1 0), .i (.w 1 1) (.w 1 1), .i (.w 1 2) (.w 1 2), .i (.w 1 3) (.w 1 3), .i (.w 2 0) (.w 3 0), .i (.w 2 1) (.w 3 1), .i (.w 2 2) (.w 3 2), .i (.w 2 3) (.w 3 3)]
theorem red64F_run : runTo Tryd.prog (RR tabT 1) 37 (flat (unloop (cutC (flat (cutC (flat (lpL Tryd.prog 75))))))) (redG 64) (redN 64 [true, false]) (redG 64) (redN 64 []) = some (.normal, red64F_tr, red64F_ob) := by kernel_rfl
def red64D_tr : List Ent := [.di 2 (.sub (.i64)) [.x 0, .c 1]]
def red64D_ob : List Ob := [.i (.x 0) (.x 2), .i (.o 0 0) (.o 0 0), .i (.o 0 1) (.o 0 1), .i (.o 0 2) (.o 0 2), .i (.o 0 3) (.o 0 3), .i (.o 0 4) (.o 0 4), .i (.o 0 5) (.o 0 5), .i (.o 0 6) (.o 0 6), .i (.o 0 7) (.o 0 7), .i (.o 0 8) (.o 0 8), .i (.o 0 9) (.o 0 9), .i (.o 0 10) (.o 0 10), .i (.o 0 11) (.o 0 11), .i (.o 0 12) (.o 0 12), .i (.o 0 13) (.o 0 13), .i (.o 0 14) (.o 0 14), .i (.o 0 15) (.o 0 15), .i (.o 0 16) (.o 0 16), .i (.o 0 17) (.o 0 17), .i (.o 0 18) (.o 0 18), .i (.o 0 19) (.o 0 19), .i (.o 0 20) (.o 0 20), .i (.o 0 21) (.o 0 21), .i (.o 0 22) (.o 0 22), .i (.o 0 23) (.o 0 23), .i (.o 0 24) (.o 0 24), .i (.o 0 25) (.o 0 25), .i (.o 0 26) (.o 0 26), .i (.o 0 27) (.o 0 27), .i (.o 0 28) (.o 0 28), .i (.o 0 29) (.o 0 29), .i (.o 0 30) (.o 0 30), .i (.o 0 31) (.o 0 31), .i (.o 0 32) (.o 0 32), .i (.o 0 33) (.o 0 33), .i (.o 0 34) (.o 0 34), .i (.o 0 35) (.o 0 35), .i (.o 0 36) (.o 0 36), .i (.o 0 37) (.o 0 37), .i (.o 0 38) (.o 0 38), .i (.o 0 39) (.o 0 39), .i (.o 0 40) (.o 0 40), .i (.o 0 41) (.o 0 41), .i (.o 0 42) (.o 0 42), .i (.o 0 43) (.o 0 43), .i (.o 0 44) (.o 0 44), .i (.o 0 45) (.o 0 45), .i (.o 0 46) (.o 0 46), .i (.o 0 47) (.o 0 47), .i (.o 0 48) (.o 0 48), .i (.o 0 49) (.o 0 49), .i (.o 0 50) (.o 0 50), .i (.o 0 51) (.o 0 51), .i (.o 0 52) (.o 0 52), .i (.o 0 53) (.o 0 53), .i (.o 0 54) (.o 0 54), .i (.o 0 55) (.o 0 55), .i (.o 0 56) (.o 0 56), .i (.o 0 57) (.o 0 57), .i (.o 0 58) (.o 0 58), .i (.o 0 59) (.o 0 59), .i (.o 0 60) (.o 0 60), .i (.o 0 61) (.o 0 61), .i (.o 0 62) (.o 0 62), .i (.o 0 63) (.o 0 63), .i (.w 1 0) (.w 1 0), .i (.w 1 1) (.w 1 1), .i (.w 1 2) (.w 1 2), .i (.w 1 3) (.w 1 3), .i (.w 2 0) (.w 2 0), .i (.w 2 1) (.w 2 1), .i (.w 2 2) (.w 2 2), .i (.w 2 3) (.w 2 3)]
theorem red64D_run : runTo Tryd.prog (RR tabT 1) 37 (cutA (flat (lpL Tryd.prog 75))) (redG 64) (redN 64 []) (redH 64) (redM 64 []) = some (.normal, red64D_tr, red64D_ob) := by kernel_rfl
def red64R_tr : List Ent := []
def red64R_mem : List Chunk := [⟨[.int .u8 (.o 0 0), .int .u8 (.o 0 1), .int .u8 (.o 0 2), .int .u8 (.o 0 3), .int .u8 (.o 0 4), .int .u8 (.o 0 5), .int .u8 (.o 0 6), .int .u8 (.o 0 7), .int .u8 (.o 0 8), .int .u8 (.o 0 9), .int .u8 (.o 0 10), .int .u8 (.o 0 11), .int .u8 (.o 0 12), .int .u8 (.o 0 13), .int .u8 (.o 0 14), .int .u8 (.o 0 15), .int .u8 (.o 0 16), .int .u8 (.o 0 17), .int .u8 (.o 0 18), .int .u8 (.o 0 19), .int .u8 (.o 0 20), .int .u8 (.o 0 21), .int .u8 (.o 0 22), .int .u8 (.o 0 23), .int .u8 (.o 0 24), .int .u8 (.o 0 25), .int .u8 (.o 0 26), .int .u8 (.o 0 27), .int .u8 (.o 0 28), .int .u8 (.o 0 29), .int .u8 (.o 0 30), .int .u8 (.o 0 31), .int .u8 (.o 0 32), .int .u8 (.o 0 33), .int .u8 (.o 0 34), .int .u8 (.o 0 35), .int .u8 (.o 0 36), .int .u8 (.o 0 37), .int .u8 (.o 0 38), .int .u8 (.o 0 39), .int .u8 (.o 0 40), .int .u8 (.o 0 41), .int .u8 (.o 0 42), .int .u8 (.o 0 43), .int .u8 (.o 0 44), .int .u8 (.o 0 45), .int .u8 (.o 0 46), .int .u8 (.o 0 47), .int .u8 (.o 0 48), .int .u8 (.o 0 49), .int .u8 (.o 0 50), .int .u8 (.o 0 51), .int .u8 (.o 0 52), .int .u8 (.o 0 53), .int .u8 (.o 0 54), .int .u8 (.o 0 55), .int .u8 (.o 0 56), .int .u8 (.o 0 57), .int .u8 (.o 0 58), .int .u8 (.o 0 59), .int .u8 (.o 0 60), .int .u8 (.o 0 61), .int .u8 (.o 0 62), .int .u8 (.o 0 63)], false⟩, ⟨[.int .u64 (.w 1 0), .int .u64 (.w 1 1), .int .u64 (.w 1 2), .int .u64 (.w 1 3)], true⟩, ⟨[.int .u64 (.w 2 0), .int .u64 (.w 2 1), .int .u64 (.w 2 2), .int .u64 (.w 2 3)], true⟩, ⟨[.int .u64 (.w 2 0), .int .u64 (.w 2 1), .int .u64 (.w 2 2), .int .u64 (.w 2 3)], true⟩]
theorem red64R_run : runRet Tryd.prog (RR tabT 1) 37 75 (poL Tryd.prog 75) (redH 64) (redM 64 []) = some ([.agg [.int .u64 (.w 2 0), .int .u64 (.w 2 1), .int .u64 (.w 2 2), .int .u64 (.w 2 3)]], red64R_tr, red64R_mem) := by kernel_rfl
theorem red64_c : RedC 64 Tryd.prog 75 := by
  intro w p n c m hro hc
  have hm0 : MRep (envN [n, m] []) (SofL [p] (red0 64).mem) w (adrL [p]) (red0 64).mem w := by
    refine mrep_of rfl (fun k q ch hq hch => ?_) (fun k k' q q' ch ch' hlt hq hq' _ _ => ?_)
    · match k, hq, hch with
      | 0, hq, hch =>
        simp only [List.getElem?_cons_zero, Option.some.injEq] at hq
        simp only [red0, List.getElem?_cons_zero, Option.some.injEq] at hch
        subst hq hch
        exact lies_octs (by decide) hro
      | k + 1, hq, _ => simp at hq
    · have h1 := (List.getElem?_eq_some_iff.1 hq').1
      simp only [List.length_cons, List.length_nil] at h1
      omega
  have hS : ∀ b j, SofL [p] (red0 64).mem b j → False := by
    rintro b j ⟨k, q, ch, _, hch, hw, _⟩
    match k, hch with
    | 0, hch => simp only [red0, List.getElem?_cons_zero, Option.some.injEq] at hch; subst hch; cases hw
    | k + 1, hch => simp [red0] at hch
  have hv : VRels (envN [n, m] []) (adrL [p]) (redA 64) [sliceV p 64 c, numV m] := by
    simp only [redA, VRels]
    refine ⟨_, _, rfl, ?_, _, _, rfl, numS_rel (ρ := envN [n, m] []) 1, rfl⟩
    simp only [VRel, sliceV]
    exact ⟨p.1, p.2, c, rfl, hc, rfl⟩
  have e256 : ∀ x : Nat, x < W4 → x % W4 = x := fun x hx => Nat.mod_eq_of_lt hx
  refine fn_invokes (ms := red0 64) (by kernel_rfl) hm0 (fun g c hgc => by simp [red0] at hgc) hv (of_decide_eq_true (by kernel_rfl)) fun ac hr => ?_
  refine fn_loop (by kernel_rfl) ?_
  generalize hR : bitsF 1 n (m % W4) (8 * 64) 0 = R
  refine to_head mix_ok (RR_ok tabT_ok _) red640_run (K := redO 64 n m R 64) hr (fun ρ ha hd => ⟨by simp only [red640_tr, Asms], ?_⟩) fun ρH α1 a1 w1 hK _ hr1 => ?_
  · have n0 : ρ.n 0 = n := ha.n 0 (by decide)
    have n1 : ρ.n 1 = m := ha.n 1 (by decide)
    refine ⟨⟨fun _ => 63, ρ.b, ρ.e, fun j => if j = 2 then 0 else ρ.n j, ρ.v⟩, rfl, ?_, ?_⟩
    · simp [red640_ob, Obs, Ob.ok, Sx.val, word]
    · exact ⟨Nat.le_refl _, n0, n1, rfl, (by decide : (0 : Nat) < W4), hR⟩
  simp only [SE.toExit, Exit.then, wps]
  refine loop_at (redO 64 n m R) α1 ?_ 64 ρH α1 a1 w1 hK (Ext.refl _ _) hr1
  intro k ρ α ac1 w1 hI hE hr
  obtain ⟨hk, n0, n1, i0, h2, hb⟩ := hI
  rw [cut_eq red_ok1]
  refine wps_app _ _ ?_
  cases k with
  | zero =>
    refine to_head mix_ok (RR_ok tabT_ok _) red64X_run (ms := redM 64 [false]) (K := fun ρH => ρH.n 2 = R) (hr.orc rfl rfl) (fun ρ' ha hd => ?_) fun ρH α' a' w' hK _ hr' => ?_
    · have j0 : ρ'.i 0 = ρ.i 0 := ha.i 0 (by decide)
      have m2 : ρ'.n 2 = ρ.n 2 := ha.n 2 (by decide)
      simp only [red64X_tr, Defs, Ent.def, Fb.sem, List.map_cons, List.map_nil, Sx.val, and_true, true_and] at hd
      refine ⟨by simp only [red64X_tr, Asms, Ent.asn, Sb.val, and_true]; rw [hd]; exact decide_eq_false (by omega), ρ', rfl, by simp only [red64X_ob, Obs, Ob.ok, and_true], ?_⟩
      rw [m2]; exact hb
    · simp only [SE.toExit, Exit.then]
      rw [if_pos rfl_idred]
      refine to_ret mix_ok (RR_ok tabT_ok _) red64R_run hr' fun ρ' ha hd => ⟨by simp only [red64R_tr, Asms], fun α'' w'' v he hv hm => ?_⟩
      have m2 : ρ'.n 2 = ρH.n 2 := ha.n 2 (by decide)
      exact ⟨by rw [numS_val (n := 2) hv, m2, hK], hm.fr.mono fun b j hbj => (hS b j hbj).elim⟩
  | succ i =>
    refine to_head mix_ok (RR_ok tabT_ok _) red64S_run (ms := redM 64 [true]) (K := redO 64 n m R (i + 1)) (hr.orc rfl rfl) (fun ρ' ha hd => ?_) fun ρH α' a' w' hK hE' hr' => ?_
    · have j0 : ρ'.i 0 = ρ.i 0 := ha.i 0 (by decide)
      have m0 : ρ'.n 0 = ρ.n 0 := ha.n 0 (by decide)
      have m1 : ρ'.n 1 = ρ.n 1 := ha.n 1 (by decide)
      have m2 : ρ'.n 2 = ρ.n 2 := ha.n 2 (by decide)
      simp only [red64S_tr, Defs, Ent.def, Fb.sem, List.map_cons, List.map_nil, Sx.val, and_true, true_and] at hd
      refine ⟨by simp only [red64S_tr, Asms, Ent.asn, Sb.val, and_true]; rw [hd]; exact decide_eq_true (by omega), ρ', rfl, by simp only [red64S_ob, Obs, Ob.ok, and_true], ?_⟩
      exact ⟨hk, by rw [m0, n0], by rw [m1, n1], by rw [j0, i0], by rw [m2]; exact h2, by rw [m2]; exact hb⟩
    · have hEE : Ext (redM 64 []).mem.length α1 α' := fun c hc => (hE' c hc hc).trans (hE c hc)
      clear hr hE hE' hb h2 i0 n0 n1 α ac1 w1 ρ
      obtain ⟨_, n0, n1, i0, h2, hb⟩ := hK
      simp only [SE.toExit, Exit.then, wps]
      refine wp_block (wp_flat ?_)
      rw [cut_eq red_ok2, unloop_eq red_ok3]
      refine wps_app _ _ ?_
      refine to_head mix_ok (RR_ok tabT_ok _) red64I_run (ms := redM 64 []) (K := redJ n m R i 8) (hr'.orc rfl rfl) (fun ρ' ha hd => ⟨by simp only [red64I_tr, Asms], ?_⟩) fun ρG α2 a2 w2 hK2 hE2 hr2 => ?_
      · have j0 : ρ'.i 0 = ρH.i 0 := ha.i 0 (by decide)
        have m0 : ρ'.n 0 = ρH.n 0 := ha.n 0 (by decide)
        have m1 : ρ'.n 1 = ρH.n 1 := ha.n 1 (by decide)
        have m2 : ρ'.n 2 = ρH.n 2 := ha.n 2 (by decide)
        refine ⟨⟨fun j => if j = 1 then 7 else ρ'.i j, ρ'.b, ρ'.e, ρ'.n, ρ'.v⟩, rfl, ?_, ?_⟩
        · simp [red64I_ob, Obs, Ob.ok, Sx.val]
        · refine ⟨Nat.le_refl _, by rw [← n0, ← m0], by rw [← n1, ← m1], ?_, rfl, by show ρ'.n 2 < W4; rw [m2]; exact h2, by show bitsF 1 n (m % W4) _ (ρ'.n 2) = R; rw [m2]; exact hb⟩
          show ρ'.i 0 = _
          rw [j0, i0]; omega
      simp only [SE.toExit, Exit.then, wps]
      refine loop_at (redJ n m R i) α2 ?_ 8 ρG α2 a2 w2 hK2 (Ext.refl _ _) hr2
      clear hr2 hr'
      intro j ρ α ac1 w1 hI hE3 hr
      have hE4 : Ext (redM 64 []).mem.length α1 α := fun c hc => (hE3 c hc).trans ((hE2 c hc hc).trans (hEE c hc))
      clear n0 n1 i0 h2 hb
      obtain ⟨hj, n0, n1, i0, i1, h2, hb⟩ := hI
      cases j with
      | zero =>
        refine to_head mix_ok (RR_ok tabT_ok _) red64Y_run (ms := redN 64 [false]) (K := redJ n m R i 0) (hr.orc rfl rfl) (fun ρ' ha hd => ?_) fun ρK α3 a3 w3 hK3 hE5 hr3 => ?_
        · have j1 : ρ'.i 1 = ρ.i 1 := ha.i 1 (by decide)
          have j0 : ρ'.i 0 = ρ.i 0 := ha.i 0 (by decide)
          have m0 : ρ'.n 0 = ρ.n 0 := ha.n 0 (by decide)
          have m1 : ρ'.n 1 = ρ.n 1 := ha.n 1 (by decide)
          have m2 : ρ'.n 2 = ρ.n 2 := ha.n 2 (by decide)
          simp only [red64Y_tr, Defs, Ent.def, Fb.sem, List.map_cons, List.map_nil, Sx.val, and_true, true_and] at hd
          refine ⟨by simp only [red64Y_tr, Asms, Ent.asn, Sb.val, and_true]; rw [hd]; exact decide_eq_false (by omega), ρ', rfl, by simp only [red64Y_ob, Obs, Ob.ok, and_true], ?_⟩
          exact ⟨hj, by rw [m0, n0], by rw [m1, n1], by rw [j0, i0], by rw [j1, i1], by rw [m2]; exact h2, by rw [m2]; exact hb⟩
        · simp only [SE.toExit]
          rw [if_pos rfl_idred2]
          rw [red_ok4]
          simp only [wps, Exit.inBlock]
          clear hr
          obtain ⟨_, n0', n1', i0', _, h2', hb'⟩ := hK3
          refine to_head mix_ok (RR_ok tabT_ok _) red64D_run (ms := redN 64 []) (K := redO 64 n m R i) (hr3.orc rfl rfl) (fun ρ' ha hd => ⟨by simp only [red64D_tr, Asms, Ent.asn, and_true], ?_⟩) fun ρF α4 a4 w4 hK4 hE6 hr4 => ⟨i, ρF, α4, Nat.lt_succ_self i, hK4, fun c hc => (hE6 c hc hc).trans ((hE5 c hc hc).trans (hE4 c hc)), hr4⟩
          have j0 : ρ'.i 0 = ρK.i 0 := ha.i 0 (by decide)
          have m0 : ρ'.n 0 = ρK.n 0 := ha.n 0 (by decide)
          have m1 : ρ'.n 1 = ρK.n 1 := ha.n 1 (by decide)
          have m2 : ρ'.n 2 = ρK.n 2 := ha.n 2 (by decide)
          simp only [red64D_tr, Defs, Ent.def, Fi.sem, List.map_cons, List.map_nil, Sx.val, and_true] at hd
          refine ⟨⟨fun _ => ρ'.i 2, ρ'.b, ρ'.e, ρ'.n, ρ'.v⟩, rfl, ?_, ?_⟩
          · simp [red64D_ob, Obs, Ob.ok, Sx.val]
          · refine ⟨by omega, by rw [← n0', ← m0], by rw [← n1', ← m1], ?_, by show ρ'.n 2 < W4; rw [m2]; exact h2', by show bitsF 1 n (m % W4) _ (ρ'.n 2) = R; rw [m2, ← hb']; rfl⟩
            show ρ'.i 2 = _
            rw [hd]; simp only [wr]; omega
      | succ j =>
        have ij : ρ.i 1 = (j : Int) := by omega
        have hplus : ∀ x : Nat, x % W4 = x → plusN x x (m % W4) < W4 := fun x _ => plusN_lt
        cases hbit : n.testBit (8 * i + j) with
        | true =>
          refine to_head mix_ok (RR_ok tabT_ok _) red64T_run (ms := redN 64 [true, true]) (K := redJ n m R i j) (hr.orc rfl rfl) (fun ρ' ha hd => ?_) fun ρK α3 a3 w3 hK3 hE5 hr3 => ⟨j, ρK, α3, Nat.lt_succ_self j, hK3, fun c hc => (hE5 c hc hc).trans (hE3 c hc), hr3⟩
          have j0 : ρ'.i 0 = ρ.i 0 := ha.i 0 (by decide)
          have j1 : ρ'.i 1 = ρ.i 1 := ha.i 1 (by decide)
          have m0 : ρ'.n 0 = ρ.n 0 := ha.n 0 (by decide)
          have m1 : ρ'.n 1 = ρ.n 1 := ha.n 1 (by decide)
          have m2 : ρ'.n 2 = ρ.n 2 := ha.n 2 (by decide)
          simp only [red64T_tr, Defs, Ent.def, Fb.sem, Fi.sem, Fn.sem, List.map_cons, List.map_nil, Sx.val, and_true, true_and, nbits, j0, j1, i0, ij, m0, m1, m2, n0, n1, e256 (ρ.n 2) h2, Int.toNat_natCast] at hd
          obtain ⟨d4, p5, p4, b4, d3, d2, b3, b2, b1, p3, b0⟩ := hd
          have t1 := bit8 (n := n) (i := i) (k := j) (by omega) d2 d3
          have h4 : ρ'.n 4 % W4 = 1 := by rw [p4]; decide +kernel
          rw [e256 (ρ'.n 3) (by rw [p3]; exact plusN_lt), p3, h4] at p5
          refine ⟨?_, ⟨fun j => if j = 1 then ρ'.i 4 else ρ'.i j, ρ'.b, ρ'.e, fun j => if j = 2 then ρ'.n 5 else ρ'.n j, ρ'.v⟩, rfl, ?_, ?_⟩
          · simp only [red64T_tr, Asms, Ent.asn, Sb.val, and_true, true_and]
            refine ⟨?_, ?_, ?_, ?_, ?_⟩
            · rw [b4, t1]; exact hbit
            · rw [b3]; exact decide_eq_true (by omega)
            · rw [b2]; exact decide_eq_true (by omega)
            · rw [b1]; exact decide_eq_true (by omega)
            · rw [b0]; exact decide_eq_true (by omega)
          · simp [red64T_ob, Obs, Ob.ok, Sx.val]
          · refine ⟨by omega, by rw [← n0, ← m0]; rfl, by rw [← n1, ← m1]; rfl, ?_, ?_, ?_, ?_⟩
            · show (if (0 : Nat) = 1 then ρ'.i 4 else ρ'.i 0) = _
              rw [if_neg (by decide), j0, i0]
            · show ρ'.i 4 = _
              rw [d4]; simp only [wr]; omega
            · show ρ'.n 5 < W4
              rw [p5]; exact plusN_lt
            · show bitsF 1 n (m % W4) (8 * i + j) (ρ'.n 5) = _
              rw [← hb, p5, show 8 * i + (j + 1) = 8 * i + j + 1 by omega]
              simp only [bitsF, hbit, if_true]
        | false =>
          refine to_head mix_ok (RR_ok tabT_ok _) red64F_run (ms := redN 64 [true, false]) (K := redJ n m R i j) (hr.orc rfl rfl) (fun ρ' ha hd => ?_) fun ρK α3 a3 w3 hK3 hE5 hr3 => ⟨j, ρK, α3, Nat.lt_succ_self j, hK3, fun c hc => (hE5 c hc hc).trans (hE3 c hc), hr3⟩
          have j0 : ρ'.i 0 = ρ.i 0 := ha.i 0 (by decide)
          have j1 : ρ'.i 1 = ρ.i 1 := ha.i 1 (by decide)
          have m0 : ρ'.n 0 = ρ.n 0 := ha.n 0 (by decide)
          have m1 : ρ'.n 1 = ρ.n 1 := ha.n 1 (by decide)
          have m2 : ρ'.n 2 = ρ.n 2 := ha.n 2 (by decide)
          simp only [red64F_tr, Defs, Ent.def, Fb.sem, Fi.sem, Fn.sem, List.map_cons, List.map_nil, Sx.val, and_true, true_and, nbits, j0, j1, i0, ij, m0, m1, m2, n0, n1, e256 (ρ.n 2) h2, Int.toNat_natCast] at hd
          obtain ⟨d4, b4, d3, d2, b3, b2, b1, p3, b0⟩ := hd
          have t1 := bit8 (n := n) (i := i) (k := j) (by omega) d2 d3
          refine ⟨?_, ⟨fun j => if j = 1 then ρ'.i 4 else ρ'.i j, ρ'.b, ρ'.e, fun j => if j = 2 then ρ'.n 3 else ρ'.n j, ρ'.v⟩, rfl, ?_, ?_⟩
          · simp only [red64F_tr, Asms, Ent.asn, Sb.val, and_true, true_and]
            refine ⟨?_, ?_, ?_, ?_, ?_⟩
            · rw [b4, t1]; exact hbit
            · rw [b3]; exact decide_eq_true (by omega)
            · rw [b2]; exact decide_eq_true (by omega)
            · rw [b1]; exact decide_eq_true (by omega)
            · rw [b0]; exact decide_eq_true (by omega)
          · simp [red64F_ob, Obs, Ob.ok, Sx.val]
          · refine ⟨by omega, by rw [← n0, ← m0]; rfl, by rw [← n1, ← m1]; rfl, ?_, ?_, ?_, ?_⟩
            · show (if (0 : Nat) = 1 then ρ'.i 4 else ρ'.i 0) = _
              rw [if_neg (by decide), j0, i0]
            · show ρ'.i 4 = _
              rw [d4]; simp only [wr]; omega
            · show ρ'.n 3 < W4
              rw [p3]; exact plusN_lt
            · show bitsF 1 n (m % W4) (8 * i + j) (ρ'.n 3) = _
              rw [← hb, p3, show 8 * i + (j + 1) = 8 * i + j + 1 by omega]
              simp only [bitsF, hbit]
              rfl
end Go.Proofs.YtolmkbojlpplfaaDoor
