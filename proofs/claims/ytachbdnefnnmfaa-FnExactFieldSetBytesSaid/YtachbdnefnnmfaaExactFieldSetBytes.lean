/- The law FnExactFieldSetBytes. No condition. -/
import Derived.Test.YtachbdnefnnmfaaLift2
import Derived.Test.YtachbdnefnnmfaaJoin
import Derived.Test.YtachbdnefnnmfaaTbg
namespace Go.Proofs.Ytachbdnefnnmfaa
open Go Go.ChangeShapes Go.WideShapes Go.ChangeAt Go.RowKit
set_option linter.unusedVariables false
set_option linter.unusedSimpArgs false
set_option maxRecDepth 100000

def setO_ms : Ms := ⟨[⟨[.int .u8 (.o 0 0), .int .u8 (.o 0 1), .int .u8 (.o 0 2), .int .u8 (.o 0 3), .int .u8 (.o 0 4), .int .u8 (.o 0 5), .int .u8 (.o 0 6), .int .u8 (.o 0 7), .int .u8 (.o 0 8), .int .u8 (.o 0 9), .int .u8 (.o 0 10), .int .u8 (.o 0 11), .int .u8 (.o 0 12), .int .u8 (.o 0 13), .int .u8 (.o 0 14), .int .u8 (.o 0 15), .int .u8 (.o 0 16), .int .u8 (.o 0 17), .int .u8 (.o 0 18), .int .u8 (.o 0 19), .int .u8 (.o 0 20), .int .u8 (.o 0 21), .int .u8 (.o 0 22), .int .u8 (.o 0 23), .int .u8 (.o 0 24), .int .u8 (.o 0 25), .int .u8 (.o 0 26), .int .u8 (.o 0 27), .int .u8 (.o 0 28), .int .u8 (.o 0 29), .int .u8 (.o 0 30), .int .u8 (.o 0 31)], true⟩, ⟨[.int .u8 (.o 0 0), .int .u8 (.o 0 1), .int .u8 (.o 0 2), .int .u8 (.o 0 3), .int .u8 (.o 0 4), .int .u8 (.o 0 5), .int .u8 (.o 0 6), .int .u8 (.o 0 7), .int .u8 (.o 0 8), .int .u8 (.o 0 9), .int .u8 (.o 0 10), .int .u8 (.o 0 11), .int .u8 (.o 0 12), .int .u8 (.o 0 13), .int .u8 (.o 0 14), .int .u8 (.o 0 15), .int .u8 (.o 0 16), .int .u8 (.o 0 17), .int .u8 (.o 0 18), .int .u8 (.o 0 19), .int .u8 (.o 0 20), .int .u8 (.o 0 21), .int .u8 (.o 0 22), .int .u8 (.o 0 23), .int .u8 (.o 0 24), .int .u8 (.o 0 25), .int .u8 (.o 0 26), .int .u8 (.o 0 27), .int .u8 (.o 0 28), .int .u8 (.o 0 29), .int .u8 (.o 0 30), .int .u8 (.o 0 31)], true⟩, ⟨[.int .u8 (.o 1 0), .int .u8 (.o 1 1), .int .u8 (.o 1 2), .int .u8 (.o 1 3), .int .u8 (.o 1 4), .int .u8 (.o 1 5), .int .u8 (.o 1 6), .int .u8 (.o 1 7), .int .u8 (.o 1 8), .int .u8 (.o 1 9), .int .u8 (.o 1 10), .int .u8 (.o 1 11), .int .u8 (.o 1 12), .int .u8 (.o 1 13), .int .u8 (.o 1 14), .int .u8 (.o 1 15), .int .u8 (.o 1 16), .int .u8 (.o 1 17), .int .u8 (.o 1 18), .int .u8 (.o 1 19), .int .u8 (.o 1 20), .int .u8 (.o 1 21), .int .u8 (.o 1 22), .int .u8 (.o 1 23), .int .u8 (.o 1 24), .int .u8 (.o 1 25), .int .u8 (.o 1 26), .int .u8 (.o 1 27), .int .u8 (.o 1 28), .int .u8 (.o 1 29), .int .u8 (.o 1 30), .int .u8 (.o 1 31)], true⟩, ⟨[.int .u8 (.o 0 0), .int .u8 (.o 0 1), .int .u8 (.o 0 2), .int .u8 (.o 0 3), .int .u8 (.o 0 4), .int .u8 (.o 0 5), .int .u8 (.o 0 6), .int .u8 (.o 0 7), .int .u8 (.o 0 8), .int .u8 (.o 0 9), .int .u8 (.o 0 10), .int .u8 (.o 0 11), .int .u8 (.o 0 12), .int .u8 (.o 0 13), .int .u8 (.o 0 14), .int .u8 (.o 0 15), .int .u8 (.o 0 16), .int .u8 (.o 0 17), .int .u8 (.o 0 18), .int .u8 (.o 0 19), .int .u8 (.o 0 20), .int .u8 (.o 0 21), .int .u8 (.o 0 22), .int .u8 (.o 0 23), .int .u8 (.o 0 24), .int .u8 (.o 0 25), .int .u8 (.o 0 26), .int .u8 (.o 0 27), .int .u8 (.o 0 28), .int .u8 (.o 0 29), .int .u8 (.o 0 30), .int .u8 (.o 0 31)], true⟩, ⟨[.int .u64 (.l 0 0), .int .u64 (.l 0 1), .int .u64 (.l 0 2), .int .u64 (.l 0 3), .int .u64 (.l 0 4)], true⟩, ⟨[.int .u8 (.o 1 0), .int .u8 (.o 1 1), .int .u8 (.o 1 2), .int .u8 (.o 1 3), .int .u8 (.o 1 4), .int .u8 (.o 1 5), .int .u8 (.o 1 6), .int .u8 (.o 1 7), .int .u8 (.o 1 8), .int .u8 (.o 1 9), .int .u8 (.o 1 10), .int .u8 (.o 1 11), .int .u8 (.o 1 12), .int .u8 (.o 1 13), .int .u8 (.o 1 14), .int .u8 (.o 1 15), .int .u8 (.o 1 16), .int .u8 (.o 1 17), .int .u8 (.o 1 18), .int .u8 (.o 1 19), .int .u8 (.o 1 20), .int .u8 (.o 1 21), .int .u8 (.o 1 22), .int .u8 (.o 1 23), .int .u8 (.o 1 24), .int .u8 (.o 1 25), .int .u8 (.o 1 26), .int .u8 (.o 1 27), .int .u8 (.o 1 28), .int .u8 (.o 1 29), .int .u8 (.o 1 30), .int .u8 (.o 1 31)], true⟩, ⟨[.int .u8 (.o 1 0), .int .u8 (.o 1 1), .int .u8 (.o 1 2), .int .u8 (.o 1 3), .int .u8 (.o 1 4), .int .u8 (.o 1 5), .int .u8 (.o 1 6), .int .u8 (.o 1 7), .int .u8 (.o 1 8), .int .u8 (.o 1 9), .int .u8 (.o 1 10), .int .u8 (.o 1 11), .int .u8 (.o 1 12), .int .u8 (.o 1 13), .int .u8 (.o 1 14), .int .u8 (.o 1 15), .int .u8 (.o 1 16), .int .u8 (.o 1 17), .int .u8 (.o 1 18), .int .u8 (.o 1 19), .int .u8 (.o 1 20), .int .u8 (.o 1 21), .int .u8 (.o 1 22), .int .u8 (.o 1 23), .int .u8 (.o 1 24), .int .u8 (.o 1 25), .int .u8 (.o 1 26), .int .u8 (.o 1 27), .int .u8 (.o 1 28), .int .u8 (.o 1 29), .int .u8 (.o 1 30), .int .u8 (.o 1 31)], true⟩, ⟨[.int .u8 (.o 1 0), .int .u8 (.o 1 1), .int .u8 (.o 1 2), .int .u8 (.o 1 3), .int .u8 (.o 1 4), .int .u8 (.o 1 5), .int .u8 (.o 1 6), .int .u8 (.o 1 7), .int .u8 (.o 1 8), .int .u8 (.o 1 9), .int .u8 (.o 1 10), .int .u8 (.o 1 11), .int .u8 (.o 1 12), .int .u8 (.o 1 13), .int .u8 (.o 1 14), .int .u8 (.o 1 15), .int .u8 (.o 1 16), .int .u8 (.o 1 17), .int .u8 (.o 1 18), .int .u8 (.o 1 19), .int .u8 (.o 1 20), .int .u8 (.o 1 21), .int .u8 (.o 1 22), .int .u8 (.o 1 23), .int .u8 (.o 1 24), .int .u8 (.o 1 25), .int .u8 (.o 1 26), .int .u8 (.o 1 27), .int .u8 (.o 1 28), .int .u8 (.o 1 29), .int .u8 (.o 1 30), .int .u8 (.o 1 31)], true⟩, ⟨[.int .u8 (.o 1 0), .int .u8 (.o 1 1), .int .u8 (.o 1 2), .int .u8 (.o 1 3), .int .u8 (.o 1 4), .int .u8 (.o 1 5), .int .u8 (.o 1 6), .int .u8 (.o 1 7), .int .u8 (.o 1 8), .int .u8 (.o 1 9), .int .u8 (.o 1 10), .int .u8 (.o 1 11), .int .u8 (.o 1 12), .int .u8 (.o 1 13), .int .u8 (.o 1 14), .int .u8 (.o 1 15), .int .u8 (.o 1 16), .int .u8 (.o 1 17), .int .u8 (.o 1 18), .int .u8 (.o 1 19), .int .u8 (.o 1 20), .int .u8 (.o 1 21), .int .u8 (.o 1 22), .int .u8 (.o 1 23), .int .u8 (.o 1 24), .int .u8 (.o 1 25), .int .u8 (.o 1 26), .int .u8 (.o 1 27), .int .u8 (.o 1 28), .int .u8 (.o 1 29), .int .u8 (.o 1 30), .int .u8 (.o 1 31)], true⟩, ⟨[.int .u8 (.o 0 0), .int .u8 (.o 0 1), .int .u8 (.o 0 2), .int .u8 (.o 0 3), .int .u8 (.o 0 4), .int .u8 (.o 0 5), .int .u8 (.o 0 6), .int .u8 (.o 0 7), .int .u8 (.o 0 8), .int .u8 (.o 0 9), .int .u8 (.o 0 10), .int .u8 (.o 0 11), .int .u8 (.o 0 12), .int .u8 (.o 0 13), .int .u8 (.o 0 14), .int .u8 (.o 0 15), .int .u8 (.o 0 16), .int .u8 (.o 0 17), .int .u8 (.o 0 18), .int .u8 (.o 0 19), .int .u8 (.o 0 20), .int .u8 (.o 0 21), .int .u8 (.o 0 22), .int .u8 (.o 0 23), .int .u8 (.o 0 24), .int .u8 (.o 0 25), .int .u8 (.o 0 26), .int .u8 (.o 0 27), .int .u8 (.o 0 28), .int .u8 (.o 0 29), .int .u8 (.o 0 30), .int .u8 (.o 0 31)], true⟩, ⟨[.int .u8 (.o 2 0), .int .u8 (.o 2 1), .int .u8 (.o 2 2), .int .u8 (.o 2 3), .int .u8 (.o 2 4), .int .u8 (.o 2 5), .int .u8 (.o 2 6), .int .u8 (.o 2 7), .int .u8 (.o 2 8), .int .u8 (.o 2 9), .int .u8 (.o 2 10), .int .u8 (.o 2 11), .int .u8 (.o 2 12), .int .u8 (.o 2 13), .int .u8 (.o 2 14), .int .u8 (.o 2 15), .int .u8 (.o 2 16), .int .u8 (.o 2 17), .int .u8 (.o 2 18), .int .u8 (.o 2 19), .int .u8 (.o 2 20), .int .u8 (.o 2 21), .int .u8 (.o 2 22), .int .u8 (.o 2 23), .int .u8 (.o 2 24), .int .u8 (.o 2 25), .int .u8 (.o 2 26), .int .u8 (.o 2 27), .int .u8 (.o 2 28), .int .u8 (.o 2 29), .int .u8 (.o 2 30), .int .u8 (.o 2 31)], true⟩, ⟨[.int .u8 (.o 2 0), .int .u8 (.o 2 1), .int .u8 (.o 2 2), .int .u8 (.o 2 3), .int .u8 (.o 2 4), .int .u8 (.o 2 5), .int .u8 (.o 2 6), .int .u8 (.o 2 7), .int .u8 (.o 2 8), .int .u8 (.o 2 9), .int .u8 (.o 2 10), .int .u8 (.o 2 11), .int .u8 (.o 2 12), .int .u8 (.o 2 13), .int .u8 (.o 2 14), .int .u8 (.o 2 15), .int .u8 (.o 2 16), .int .u8 (.o 2 17), .int .u8 (.o 2 18), .int .u8 (.o 2 19), .int .u8 (.o 2 20), .int .u8 (.o 2 21), .int .u8 (.o 2 22), .int .u8 (.o 2 23), .int .u8 (.o 2 24), .int .u8 (.o 2 25), .int .u8 (.o 2 26), .int .u8 (.o 2 27), .int .u8 (.o 2 28), .int .u8 (.o 2 29), .int .u8 (.o 2 30), .int .u8 (.o 2 31)], true⟩], [.asm (.x 2) true, .db 2 (.eqs) [.o 1 0, .o 1 1, .o 1 2, .o 1 3, .o 1 4, .o 1 5, .o 1 6, .o 1 7, .o 1 8, .o 1 9, .o 1 10, .o 1 11, .o 1 12, .o 1 13, .o 1 14, .o 1 15, .o 1 16, .o 1 17, .o 1 18, .o 1 19, .o 1 20, .o 1 21, .o 1 22, .o 1 23, .o 1 24, .o 1 25, .o 1 26, .o 1 27, .o 1 28, .o 1 29, .o 1 30, .o 1 31, .o 2 0, .o 2 1, .o 2 2, .o 2 3, .o 2 4, .o 2 5, .o 2 6, .o 2 7, .o 2 8, .o 2 9, .o 2 10, .o 2 11, .o 2 12, .o 2 13, .o 2 14, .o 2 15, .o 2 16, .o 2 17, .o 2 18, .o 2 19, .o 2 20, .o 2 21, .o 2 22, .o 2 23, .o 2 24, .o 2 25, .o 2 26, .o 2 27, .o 2 28, .o 2 29, .o 2 30, .o 2 31] [] [], .dn 2 (.elem) [] [] [0], .asm (.x 1) true, .db 1 (.neq) [.x 0, .c 32] [] [], .dn 1 (.canon) [0] [] [], .asm (.x 0) true, .db 0 (.neq) [.x 0, .c 32] [] [], .de 0 (.sb) [] [] [0]], 1, 3, 1, 3, [true, true], []⟩
theorem setO_run : runOk (body tabG 6 5) (msP 1 1 [true, true, true, true]) (argsN [.byt] 0 0 ++ [.sl 0]) (.bool (.c true)) setO_ms := ⟨by kernel_rfl, by kernel_rfl, by kernel_rfl, by kernel_rfl⟩
theorem setO_math (ρ : Env) (h : ρ.i 0 ≠ 32) (hd : Defs ρ setO_ms.tr) : Asms ρ setO_ms.tr ∧ (Sb.c true).val ρ = true := by
  have f0 : (ρ.e 0).fe = inF (ρ.n 0) := sbE_in (Defs.get hd (j := 8) (e := .de 0 (.sb) [] [] [0]) (by kernel_rfl))
  have b0 : ρ.b 0 = (ρ.i 0 != 32) := (Defs.get hd (j := 7) (e := .db 0 (.neq) [.x 0, .c 32] [] []) (by kernel_rfl))
  have v1 : ρ.n 1 = (ρ.e 0).fe.val := v_canon (Defs.get hd (j := 5) (e := .dn 1 (.canon) [0] [] []) (by kernel_rfl))
  have b1 : ρ.b 1 = (ρ.i 0 != 32) := (Defs.get hd (j := 4) (e := .db 1 (.neq) [.x 0, .c 32] [] []) (by kernel_rfl))
  have v2 : ρ.n 2 = (inF (ρ.n 0)).val := v_elem (Defs.get hd (j := 2) (e := .dn 2 (.elem) [] [] [0]) (by kernel_rfl))
  have b2 := b_oo (Defs.get hd (j := 1) (e := .db 2 .eqs (octX 1 0 32 ++ octX 2 0 32) [] []) (by kernel_rfl)) v1 v2
  have a2 : ρ.b 2 = true := by rw [b2]; exact decide_eq_true (by simp only [f0]; first | done | grind)
  have a1 : ρ.b 1 = true := by rw [b1]; exact bne_iff_ne.2 (by omega)
  have a0 : ρ.b 0 = true := by rw [b0]; exact bne_iff_ne.2 (by omega)
  refine ⟨by simp only [setO_ms, Asms, Ent.asn, Sb.val, a2, a1, a0, and_true], ?_⟩
  rfl
def setM_ms : Ms := ⟨[⟨[.int .u8 (.o 1 0), .int .u8 (.o 1 1), .int .u8 (.o 1 2), .int .u8 (.o 1 3), .int .u8 (.o 1 4), .int .u8 (.o 1 5), .int .u8 (.o 1 6), .int .u8 (.o 1 7), .int .u8 (.o 1 8), .int .u8 (.o 1 9), .int .u8 (.o 1 10), .int .u8 (.o 1 11), .int .u8 (.o 1 12), .int .u8 (.o 1 13), .int .u8 (.o 1 14), .int .u8 (.o 1 15), .int .u8 (.o 1 16), .int .u8 (.o 1 17), .int .u8 (.o 1 18), .int .u8 (.o 1 19), .int .u8 (.o 1 20), .int .u8 (.o 1 21), .int .u8 (.o 1 22), .int .u8 (.o 1 23), .int .u8 (.o 1 24), .int .u8 (.o 1 25), .int .u8 (.o 1 26), .int .u8 (.o 1 27), .int .u8 (.o 1 28), .int .u8 (.o 1 29), .int .u8 (.o 1 30), .int .u8 (.o 1 31)], false⟩, ⟨[.int .u8 (.o 0 0), .int .u8 (.o 0 1), .int .u8 (.o 0 2), .int .u8 (.o 0 3), .int .u8 (.o 0 4), .int .u8 (.o 0 5), .int .u8 (.o 0 6), .int .u8 (.o 0 7), .int .u8 (.o 0 8), .int .u8 (.o 0 9), .int .u8 (.o 0 10), .int .u8 (.o 0 11), .int .u8 (.o 0 12), .int .u8 (.o 0 13), .int .u8 (.o 0 14), .int .u8 (.o 0 15), .int .u8 (.o 0 16), .int .u8 (.o 0 17), .int .u8 (.o 0 18), .int .u8 (.o 0 19), .int .u8 (.o 0 20), .int .u8 (.o 0 21), .int .u8 (.o 0 22), .int .u8 (.o 0 23), .int .u8 (.o 0 24), .int .u8 (.o 0 25), .int .u8 (.o 0 26), .int .u8 (.o 0 27), .int .u8 (.o 0 28), .int .u8 (.o 0 29), .int .u8 (.o 0 30), .int .u8 (.o 0 31)], true⟩, ⟨[.int .u8 (.o 0 0), .int .u8 (.o 0 1), .int .u8 (.o 0 2), .int .u8 (.o 0 3), .int .u8 (.o 0 4), .int .u8 (.o 0 5), .int .u8 (.o 0 6), .int .u8 (.o 0 7), .int .u8 (.o 0 8), .int .u8 (.o 0 9), .int .u8 (.o 0 10), .int .u8 (.o 0 11), .int .u8 (.o 0 12), .int .u8 (.o 0 13), .int .u8 (.o 0 14), .int .u8 (.o 0 15), .int .u8 (.o 0 16), .int .u8 (.o 0 17), .int .u8 (.o 0 18), .int .u8 (.o 0 19), .int .u8 (.o 0 20), .int .u8 (.o 0 21), .int .u8 (.o 0 22), .int .u8 (.o 0 23), .int .u8 (.o 0 24), .int .u8 (.o 0 25), .int .u8 (.o 0 26), .int .u8 (.o 0 27), .int .u8 (.o 0 28), .int .u8 (.o 0 29), .int .u8 (.o 0 30), .int .u8 (.o 0 31)], true⟩, ⟨[.int .u8 (.o 2 0), .int .u8 (.o 2 1), .int .u8 (.o 2 2), .int .u8 (.o 2 3), .int .u8 (.o 2 4), .int .u8 (.o 2 5), .int .u8 (.o 2 6), .int .u8 (.o 2 7), .int .u8 (.o 2 8), .int .u8 (.o 2 9), .int .u8 (.o 2 10), .int .u8 (.o 2 11), .int .u8 (.o 2 12), .int .u8 (.o 2 13), .int .u8 (.o 2 14), .int .u8 (.o 2 15), .int .u8 (.o 2 16), .int .u8 (.o 2 17), .int .u8 (.o 2 18), .int .u8 (.o 2 19), .int .u8 (.o 2 20), .int .u8 (.o 2 21), .int .u8 (.o 2 22), .int .u8 (.o 2 23), .int .u8 (.o 2 24), .int .u8 (.o 2 25), .int .u8 (.o 2 26), .int .u8 (.o 2 27), .int .u8 (.o 2 28), .int .u8 (.o 2 29), .int .u8 (.o 2 30), .int .u8 (.o 2 31)], true⟩, ⟨[.int .u8 (.o 0 0), .int .u8 (.o 0 1), .int .u8 (.o 0 2), .int .u8 (.o 0 3), .int .u8 (.o 0 4), .int .u8 (.o 0 5), .int .u8 (.o 0 6), .int .u8 (.o 0 7), .int .u8 (.o 0 8), .int .u8 (.o 0 9), .int .u8 (.o 0 10), .int .u8 (.o 0 11), .int .u8 (.o 0 12), .int .u8 (.o 0 13), .int .u8 (.o 0 14), .int .u8 (.o 0 15), .int .u8 (.o 0 16), .int .u8 (.o 0 17), .int .u8 (.o 0 18), .int .u8 (.o 0 19), .int .u8 (.o 0 20), .int .u8 (.o 0 21), .int .u8 (.o 0 22), .int .u8 (.o 0 23), .int .u8 (.o 0 24), .int .u8 (.o 0 25), .int .u8 (.o 0 26), .int .u8 (.o 0 27), .int .u8 (.o 0 28), .int .u8 (.o 0 29), .int .u8 (.o 0 30), .int .u8 (.o 0 31)], true⟩, ⟨[.int .u64 (.l 1 0), .int .u64 (.l 1 1), .int .u64 (.l 1 2), .int .u64 (.l 1 3), .int .u64 (.l 1 4)], true⟩, ⟨[.int .u8 (.o 2 0), .int .u8 (.o 2 1), .int .u8 (.o 2 2), .int .u8 (.o 2 3), .int .u8 (.o 2 4), .int .u8 (.o 2 5), .int .u8 (.o 2 6), .int .u8 (.o 2 7), .int .u8 (.o 2 8), .int .u8 (.o 2 9), .int .u8 (.o 2 10), .int .u8 (.o 2 11), .int .u8 (.o 2 12), .int .u8 (.o 2 13), .int .u8 (.o 2 14), .int .u8 (.o 2 15), .int .u8 (.o 2 16), .int .u8 (.o 2 17), .int .u8 (.o 2 18), .int .u8 (.o 2 19), .int .u8 (.o 2 20), .int .u8 (.o 2 21), .int .u8 (.o 2 22), .int .u8 (.o 2 23), .int .u8 (.o 2 24), .int .u8 (.o 2 25), .int .u8 (.o 2 26), .int .u8 (.o 2 27), .int .u8 (.o 2 28), .int .u8 (.o 2 29), .int .u8 (.o 2 30), .int .u8 (.o 2 31)], true⟩, ⟨[.int .u8 (.o 2 0), .int .u8 (.o 2 1), .int .u8 (.o 2 2), .int .u8 (.o 2 3), .int .u8 (.o 2 4), .int .u8 (.o 2 5), .int .u8 (.o 2 6), .int .u8 (.o 2 7), .int .u8 (.o 2 8), .int .u8 (.o 2 9), .int .u8 (.o 2 10), .int .u8 (.o 2 11), .int .u8 (.o 2 12), .int .u8 (.o 2 13), .int .u8 (.o 2 14), .int .u8 (.o 2 15), .int .u8 (.o 2 16), .int .u8 (.o 2 17), .int .u8 (.o 2 18), .int .u8 (.o 2 19), .int .u8 (.o 2 20), .int .u8 (.o 2 21), .int .u8 (.o 2 22), .int .u8 (.o 2 23), .int .u8 (.o 2 24), .int .u8 (.o 2 25), .int .u8 (.o 2 26), .int .u8 (.o 2 27), .int .u8 (.o 2 28), .int .u8 (.o 2 29), .int .u8 (.o 2 30), .int .u8 (.o 2 31)], true⟩, ⟨[.int .u8 (.o 2 0), .int .u8 (.o 2 1), .int .u8 (.o 2 2), .int .u8 (.o 2 3), .int .u8 (.o 2 4), .int .u8 (.o 2 5), .int .u8 (.o 2 6), .int .u8 (.o 2 7), .int .u8 (.o 2 8), .int .u8 (.o 2 9), .int .u8 (.o 2 10), .int .u8 (.o 2 11), .int .u8 (.o 2 12), .int .u8 (.o 2 13), .int .u8 (.o 2 14), .int .u8 (.o 2 15), .int .u8 (.o 2 16), .int .u8 (.o 2 17), .int .u8 (.o 2 18), .int .u8 (.o 2 19), .int .u8 (.o 2 20), .int .u8 (.o 2 21), .int .u8 (.o 2 22), .int .u8 (.o 2 23), .int .u8 (.o 2 24), .int .u8 (.o 2 25), .int .u8 (.o 2 26), .int .u8 (.o 2 27), .int .u8 (.o 2 28), .int .u8 (.o 2 29), .int .u8 (.o 2 30), .int .u8 (.o 2 31)], true⟩, ⟨[.int .u8 (.o 2 0), .int .u8 (.o 2 1), .int .u8 (.o 2 2), .int .u8 (.o 2 3), .int .u8 (.o 2 4), .int .u8 (.o 2 5), .int .u8 (.o 2 6), .int .u8 (.o 2 7), .int .u8 (.o 2 8), .int .u8 (.o 2 9), .int .u8 (.o 2 10), .int .u8 (.o 2 11), .int .u8 (.o 2 12), .int .u8 (.o 2 13), .int .u8 (.o 2 14), .int .u8 (.o 2 15), .int .u8 (.o 2 16), .int .u8 (.o 2 17), .int .u8 (.o 2 18), .int .u8 (.o 2 19), .int .u8 (.o 2 20), .int .u8 (.o 2 21), .int .u8 (.o 2 22), .int .u8 (.o 2 23), .int .u8 (.o 2 24), .int .u8 (.o 2 25), .int .u8 (.o 2 26), .int .u8 (.o 2 27), .int .u8 (.o 2 28), .int .u8 (.o 2 29), .int .u8 (.o 2 30), .int .u8 (.o 2 31)], true⟩, ⟨[.int .u8 (.o 0 0), .int .u8 (.o 0 1), .int .u8 (.o 0 2), .int .u8 (.o 0 3), .int .u8 (.o 0 4), .int .u8 (.o 0 5), .int .u8 (.o 0 6), .int .u8 (.o 0 7), .int .u8 (.o 0 8), .int .u8 (.o 0 9), .int .u8 (.o 0 10), .int .u8 (.o 0 11), .int .u8 (.o 0 12), .int .u8 (.o 0 13), .int .u8 (.o 0 14), .int .u8 (.o 0 15), .int .u8 (.o 0 16), .int .u8 (.o 0 17), .int .u8 (.o 0 18), .int .u8 (.o 0 19), .int .u8 (.o 0 20), .int .u8 (.o 0 21), .int .u8 (.o 0 22), .int .u8 (.o 0 23), .int .u8 (.o 0 24), .int .u8 (.o 0 25), .int .u8 (.o 0 26), .int .u8 (.o 0 27), .int .u8 (.o 0 28), .int .u8 (.o 0 29), .int .u8 (.o 0 30), .int .u8 (.o 0 31)], true⟩, ⟨[.int .u8 (.o 3 0), .int .u8 (.o 3 1), .int .u8 (.o 3 2), .int .u8 (.o 3 3), .int .u8 (.o 3 4), .int .u8 (.o 3 5), .int .u8 (.o 3 6), .int .u8 (.o 3 7), .int .u8 (.o 3 8), .int .u8 (.o 3 9), .int .u8 (.o 3 10), .int .u8 (.o 3 11), .int .u8 (.o 3 12), .int .u8 (.o 3 13), .int .u8 (.o 3 14), .int .u8 (.o 3 15), .int .u8 (.o 3 16), .int .u8 (.o 3 17), .int .u8 (.o 3 18), .int .u8 (.o 3 19), .int .u8 (.o 3 20), .int .u8 (.o 3 21), .int .u8 (.o 3 22), .int .u8 (.o 3 23), .int .u8 (.o 3 24), .int .u8 (.o 3 25), .int .u8 (.o 3 26), .int .u8 (.o 3 27), .int .u8 (.o 3 28), .int .u8 (.o 3 29), .int .u8 (.o 3 30), .int .u8 (.o 3 31)], true⟩, ⟨[.int .u8 (.o 1 0), .int .u8 (.o 1 1), .int .u8 (.o 1 2), .int .u8 (.o 1 3), .int .u8 (.o 1 4), .int .u8 (.o 1 5), .int .u8 (.o 1 6), .int .u8 (.o 1 7), .int .u8 (.o 1 8), .int .u8 (.o 1 9), .int .u8 (.o 1 10), .int .u8 (.o 1 11), .int .u8 (.o 1 12), .int .u8 (.o 1 13), .int .u8 (.o 1 14), .int .u8 (.o 1 15), .int .u8 (.o 1 16), .int .u8 (.o 1 17), .int .u8 (.o 1 18), .int .u8 (.o 1 19), .int .u8 (.o 1 20), .int .u8 (.o 1 21), .int .u8 (.o 1 22), .int .u8 (.o 1 23), .int .u8 (.o 1 24), .int .u8 (.o 1 25), .int .u8 (.o 1 26), .int .u8 (.o 1 27), .int .u8 (.o 1 28), .int .u8 (.o 1 29), .int .u8 (.o 1 30), .int .u8 (.o 1 31)], true⟩, ⟨[.int .u8 (.o 3 0), .int .u8 (.o 3 1), .int .u8 (.o 3 2), .int .u8 (.o 3 3), .int .u8 (.o 3 4), .int .u8 (.o 3 5), .int .u8 (.o 3 6), .int .u8 (.o 3 7), .int .u8 (.o 3 8), .int .u8 (.o 3 9), .int .u8 (.o 3 10), .int .u8 (.o 3 11), .int .u8 (.o 3 12), .int .u8 (.o 3 13), .int .u8 (.o 3 14), .int .u8 (.o 3 15), .int .u8 (.o 3 16), .int .u8 (.o 3 17), .int .u8 (.o 3 18), .int .u8 (.o 3 19), .int .u8 (.o 3 20), .int .u8 (.o 3 21), .int .u8 (.o 3 22), .int .u8 (.o 3 23), .int .u8 (.o 3 24), .int .u8 (.o 3 25), .int .u8 (.o 3 26), .int .u8 (.o 3 27), .int .u8 (.o 3 28), .int .u8 (.o 3 29), .int .u8 (.o 3 30), .int .u8 (.o 3 31)], true⟩], [.asm (.x 0) true, .db 0 (.eqs) [.o 2 0, .o 2 1, .o 2 2, .o 2 3, .o 2 4, .o 2 5, .o 2 6, .o 2 7, .o 2 8, .o 2 9, .o 2 10, .o 2 11, .o 2 12, .o 2 13, .o 2 14, .o 2 15, .o 2 16, .o 2 17, .o 2 18, .o 2 19, .o 2 20, .o 2 21, .o 2 22, .o 2 23, .o 2 24, .o 2 25, .o 2 26, .o 2 27, .o 2 28, .o 2 29, .o 2 30, .o 2 31, .o 3 0, .o 3 1, .o 3 2, .o 3 3, .o 3 4, .o 3 5, .o 3 6, .o 3 7, .o 3 8, .o 3 9, .o 3 10, .o 3 11, .o 3 12, .o 3 13, .o 3 14, .o 3 15, .o 3 16, .o 3 17, .o 3 18, .o 3 19, .o 3 20, .o 3 21, .o 3 22, .o 3 23, .o 3 24, .o 3 25, .o 3 26, .o 3 27, .o 3 28, .o 3 29, .o 3 30, .o 3 31] [] [], .dn 3 (.elem) [] [] [1], .dn 2 (.canon) [1] [] [], .de 1 (.sb) [] [] [1], .de 0 (.sb) [] [] [0]], 0, 1, 2, 4, [], []⟩
theorem setM_run : runOk (body tabG 6 5) (⟨[⟨octsS 1 0 32, false⟩], [], 0, 0, 0, 2, [true], []⟩) (argsN [.byt] 0 0 ++ [.slice 0 0 32 32]) (.bool (.c true)) setM_ms := ⟨by kernel_rfl, by kernel_rfl, by kernel_rfl, by kernel_rfl⟩
theorem setM_math (ρ : Env)  (hd : Defs ρ setM_ms.tr) : Asms ρ setM_ms.tr ∧ (Sb.c true).val ρ = true := by
  have f0 : (ρ.e 0).fe = inF (ρ.n 0) := sbE_in (Defs.get hd (j := 5) (e := .de 0 (.sb) [] [] [0]) (by kernel_rfl))
  have f1 : (ρ.e 1).fe = inF (ρ.n 1) := sbE_in (Defs.get hd (j := 4) (e := .de 1 (.sb) [] [] [1]) (by kernel_rfl))
  have v2 : ρ.n 2 = (ρ.e 1).fe.val := v_canon (Defs.get hd (j := 3) (e := .dn 2 (.canon) [1] [] []) (by kernel_rfl))
  have v3 : ρ.n 3 = (inF (ρ.n 1)).val := v_elem (Defs.get hd (j := 2) (e := .dn 3 (.elem) [] [] [1]) (by kernel_rfl))
  have b0 := b_oo (Defs.get hd (j := 1) (e := .db 0 .eqs (octX 2 0 32 ++ octX 3 0 32) [] []) (by kernel_rfl)) v2 v3
  have a0 : ρ.b 0 = true := by rw [b0]; exact decide_eq_true (by simp only [f1, f0]; first | done | grind)
  refine ⟨by simp only [setM_ms, Asms, Ent.asn, Sb.val, a0, and_true], ?_⟩
  rfl

theorem setO_c (N0 : Nat) (a : Option Addr) (n c : Nat) (hn : n ≠ 32) (hin : inR .i64 (n : Nat)) (W : World) : Invokes Try.prog 5 #[bytesV N0, .slice a n c] W fun r w' => r = .bool true ∧ Fr (fun _ _ => False) W w' := by
  have hf : NFits [.byt] [N0] [] [bytesV N0] := by simp [NFits]
  have hv : VRels (envN [N0] [(n : Nat)]) (fun _ => none) (argsN [.byt] 0 0 ++ [.sl 0]) [bytesV N0, .slice a n c] := by
    have h1 : VRels (envN [N0] [(n : Nat)]) (fun _ => none) (argsN [.byt] 0 0) [bytesV N0] :=
      argsN_ok hf (fun j m hj => by rw [Nat.zero_add]; exact envN_n hj) (fun j x hj => by simp at hj)
    simp only [argsN, List.cons_append, List.nil_append, VRels] at h1 ⊢
    obtain ⟨u, us, e, hr, _⟩ := h1
    obtain ⟨rfl, rfl⟩ := List.cons.inj e
    refine ⟨_, _, rfl, hr, _, _, rfl, ?_, rfl⟩
    simp only [VRel]
    exact ⟨a, n, c, rfl, rfl, hin⟩
  refine (run_calls (body_ok tabG_ok 6 _) setO_run MRep.none (fun g c hgc => by simp [msP] at hgc) hv fun ρ' ha hd => ?_).mono ?_
  · exact (setO_math ρ' (by rw [show ρ'.i 0 = (n : Nat) from (ha.i 0 (by decide))]; omega) hd).1
  · rintro v w' ⟨ρ', α', ha, hd, _, hv, hm⟩
    simp only [VRel, Sb.val] at hv
    exact ⟨hv, hm.fr⟩
theorem setM_c (N0 N1 : Nat) (q : Nat × Nat) (c : Nat) (hc : 32 ≤ c) (W : World) (hro : RoN 32 W q N1) : Invokes Try.prog 5 #[bytesV N0, .slice (some ⟨q.1, q.2, none⟩) 32 c] W fun r w' => r = .bool true ∧ Fr (fun _ _ => False) W w' := by
  have hf : NFits [.byt] [N0] [] [bytesV N0] := by simp [NFits]
  have hm : MRep (envN [N0, N1] []) (SofL [q] [⟨octsS 1 0 32, false⟩]) W (adrL [q]) [⟨octsS 1 0 32, false⟩] W := by
    refine mrep_of rfl ?_ ?_
    · intro i p ch h1 h2
      match i with
      | 0 =>
        simp only [List.getElem?_cons_zero, Option.some.injEq] at h1 h2
        subst h1 h2
        exact lies_octs (by decide) (by rw [show (envN [N0, N1] []).n 1 = N1 from rfl]; exact hro)
      | i + 1 => simp at h1
    · intro i j p p' ch ch' hij h1 h2
      exfalso
      have k1 := (List.getElem?_eq_some_iff.1 h1).1
      have k2 := (List.getElem?_eq_some_iff.1 h2).1
      simp only [List.length_cons, List.length_nil] at k1 k2
      omega
  have hv : VRels (envN [N0, N1] []) (adrL [q]) (argsN [.byt] 0 0 ++ [.slice 0 0 32 32]) [bytesV N0, .slice (some ⟨q.1, q.2, none⟩) 32 c] := by
    have h1 : VRels (envN [N0, N1] []) (adrL [q]) (argsN [.byt] 0 0) [bytesV N0] :=
      argsN_ok hf (fun j m hj => by
        rw [Nat.zero_add]
        match j with
        | 0 => simp only [List.getElem?_cons_zero, Option.some.injEq] at hj; exact hj ▸ rfl
        | j + 1 => simp at hj) (fun j x hj => by simp at hj)
    simp only [argsN, List.cons_append, List.nil_append, VRels] at h1 ⊢
    obtain ⟨u, us, e, hr, _⟩ := h1
    obtain ⟨rfl, rfl⟩ := List.cons.inj e
    refine ⟨_, _, rfl, hr, _, _, rfl, ?_, rfl⟩
    simp only [VRel]
    exact ⟨q.1, q.2, c, rfl, hc, rfl⟩
  refine (run_calls (body_ok tabG_ok 6 _) setM_run hm (fun g c hgc => by simp at hgc) hv fun ρ' ha hd => ?_).mono ?_
  · exact (setM_math ρ' hd).1
  · rintro v w' ⟨ρ', α', ha, hd, _, hv, hm'⟩
    simp only [VRel, Sb.val] at hv
    refine ⟨hv, hm'.fr.mono ?_⟩
    rintro b j ⟨i, p, ch, h1, h2, h3, _⟩
    exfalso
    match i with
    | 0 =>
      simp only [List.getElem?_cons_zero, Option.some.injEq] at h2
      subst h2
      cases h3
    | i + 1 => simp at h1
theorem underS : Try.prog.underlying 26 = some (.slice 5) := by kernel_rfl
theorem open_sl {H : Type} {enc : TypeId × Value → H} {W : World} {base b0 : Nat} {v : Value} {d : DataW H} {p : List MemPlace} (hv0 : Value.okWide Try.prog W .any b0 26 v) (h : DataW.Trod enc Try.prog W base (fun _ => true) true 26 v d p) :
    (∃ a n c, v = .slice a n c ∧ n ≠ 32 ∧ inR .i64 (n : Nat)) ∨ ∃ q c N, 32 ≤ c ∧ v = .slice (some ⟨q.1, q.2, none⟩) 32 c ∧ RoN 32 W q N := by
  obtain ⟨a0, l0, c0, rfl⟩ := Go.WideShapes.okWide_slice underS hv0
  obtain ⟨fuel, hf⟩ := h
  rcases open_ints underS under5 cells5 hf with ⟨h1, _⟩ | ⟨a, len, cap, zs, h1, hb, hl, hm, hz, _, hc, hw⟩
  · have hv : Value.slice a0 l0 c0 = .slice none 0 0 := by
      simpa [Value.cells] using h1
    rw [hv]
    exact .inl ⟨none, 0, 0, rfl, by decide, by decide, by decide⟩
  · have hv : Value.slice a0 l0 c0 = .slice (some a) len cap := by
      simpa [Value.cells] using h1
    simp only [if_true] at hz
    by_cases h32 : len = 32
    · subst h32
      obtain ⟨b, off, rfl, hcell⟩ := ints_at hc (by omega)
      refine .inr ⟨(b, off), cap, ofB (zs.take 32), hl, hv, fun j hj => ?_⟩
      have hjl : j < zs.length := by omega
      have hzb : ∀ y ∈ zs.take 32, 0 ≤ y ∧ y < 256 := fun y hy => by
        have := bounds_u8 (hw y (List.mem_of_mem_take hy)); omega
      have hg : (zs.take 32)[j]? = some (zs.getD j 0) := by
        rw [List.getElem?_take_of_lt hj, List.getD, List.getElem?_eq_getElem hjl]; rfl
      rw [ofB_octet hzb hg]
      exact hcell j hjl
    · refine .inl ⟨some a, len, cap, hv, h32, ?_⟩
      have : maxLen ≤ 9223372036854775807 := by decide
      simp only [inR, lo, hi]
      omega

theorem setX_lifted (os : Os) (started : os.Started) (H : Type) (enc : TypeId × Value → H) :
    ReturnsInHanded {} Try.checked os 5 .any (Rows.fnExactFieldSetBytesSpec.pre6 enc Try.prog Try.f5 Rows.fnExactFieldSetBytesRow.domain false) (Rows.fnExactFieldSetBytesSpec.post enc Try.prog Try.f5 false true false false) := by
  refine returnsInHanded_of_change (C := Try.checked) own_ok started (by kernel_rfl) Try.func5
    (ChangeSpec.witness6 (enc := enc) (C := Try.checked) false ⟨#[], #[bytesV 0, .slice none 0 0], []⟩ 8 (by kernel_rfl) (by kernel_rfl) (by kernel_rfl) (by kernel_rfl)) ?_
  intro W base args ds gs before hval0 hW hcnd _
  have hval : ∀ (j : Nat) t v, Try.f5.params[j]? = some t → args[j]? = some v → Value.okWide Try.prog W .any base t v := hval0
  have hW' := hW
  obtain ⟨p, q, hA0, hV, rfl, hfz, hnd⟩ := hW
  have hA : DataW.TrodAll enc Try.prog W 0 (fun _ => true) true Try.f5.params.toList args.toList ds p := hA0
  rw [Try.params5] at hA hval
  obtain ⟨v0, vs0, d0, ds0, p0, q0, hargs, rfl, rfl, h0, r0⟩ := trodAll_cons hA
  obtain ⟨v1, vs1, d1, ds1, p1, q1, rfl, rfl, rfl, h1, r1⟩ := trodAll_cons r0
  obtain ⟨rfl, rfl, rfl⟩ := trodAll_nil r1
  obtain rfl : args = #[v0, v1] := by cases args; simp_all
  obtain ⟨rfl, rfl⟩ := trodVars_none hV
  obtain ⟨N0, _, rfl⟩ := open_bytes (hval 0 22 v0 rfl rfl) h0
  have lt0 : ∀ x ∈ p0, x.block < W.heap.size := by obtain ⟨m, hm⟩ := h0; exact DataW.trod_lt m _ _ _ hm
  have lt1 : ∀ x ∈ p1, x.block < W.heap.size := by obtain ⟨m, hm⟩ := h1; exact DataW.trod_lt m _ _ _ hm
  clear hA0 hval0
  have key : Invokes Try.prog 5 #[bytesV N0, v1] W fun r w' => r = .bool true ∧ Fr (fun _ _ => False) W w' := by
    rcases open_sl (hval 1 26 v1 rfl rfl) h1 with ⟨a, n, c, rfl, hn, hin⟩ | ⟨q, c, N1, hc, rfl, hro⟩
    · exact setO_c N0 a n c hn hin W
    · exact setM_c N0 N1 q c hc W hro
  refine (calls_of (by kernel_rfl) key).mono fun e W' ⟨v, he, hb, hf⟩ => ?_
  subst he
  subst hb
  have bel := hf.below
  exact ⟨_, rfl, _, _, _, [], _, [], hW', trodAll_mk1 (shut_bool under4 _), (trodAll_cons_mk (Below.trod laid_ok (by kernel_rfl) (of_decide_eq_true (by kernel_rfl)) h0 bel lt0) (trodAll_cons_mk (Below.trod laid_ok (by kernel_rfl) (of_decide_eq_true (by kernel_rfl)) h1 bel lt1) trodAll_mk0)), rfl, bel.frame _, fun h => by cases h⟩

theorem setX_named : Try.pinned.checked.prog.funcNamed Rows.fnExactFieldSetBytesRow.func = some 5 := by kernel_rfl
theorem setX_k1 : (Rows.fnExactFieldSetBytesRow.wf (OpenSpec.ofChange Rows.fnExactFieldSetBytesSpec) && laidOutB Try.prog && mapsRowed Try.prog && Try.f5.params.all (Try.prog.readableRec ·) && namedTie Try.prog Rows.fnExactFieldSetBytesRow.named Rows.fnExactFieldSetBytesSpec.vars) = true := by kernel_rfl
theorem setX_k2 : ((Rows.fnExactFieldSetBytesRow.stops == []) && (Try.prog.stops == []) && (Rows.fnExactFieldSetBytesRow.knobs == []) && (Try.prog.stopKnobs == [])) = true := by kernel_rfl
theorem setX_k3 : (Rows.fnExactFieldSetBytesRow.inPlace == Try.prog.inPlace 5) = true := by kernel_rfl
theorem setX_k4 : (Rows.fnExactFieldSetBytesRow.unfollowed == Try.prog.unfollowed 5) = true := by kernel_rfl
theorem setX_k5 : (Rows.fnExactFieldSetBytesRow.recurses == Try.prog.recurses 5) = true := by kernel_rfl
theorem setX_k6 : (Rows.fnExactFieldSetBytesRow.named == Try.prog.varsNamed 5) = true := by kernel_rfl
theorem setX_k7 : ((Rows.fnExactFieldSetBytesRow.maps == (Try.f5.params.toList ++ Rows.fnExactFieldSetBytesSpec.plain.varTypes Try.prog).any (Try.prog.mapsRec ·)) && (Rows.fnExactFieldSetBytesRow.ifaces == (Try.f5.params.toList ++ Rows.fnExactFieldSetBytesSpec.plain.varTypes Try.prog).any (Try.prog.ifacesRec ·)) && (Rows.fnExactFieldSetBytesRow.mapsOut == Try.prog.mapsAmong Try.f5.resultTypes.toList) && (Rows.fnExactFieldSetBytesRow.loops == (Try.f5.params.toList ++ Rows.fnExactFieldSetBytesSpec.plain.varTypes Try.prog).any (Try.prog.loopsFrom ·)) && (Rows.fnExactFieldSetBytesRow.wideKeys == (Try.f5.params.toList ++ Rows.fnExactFieldSetBytesSpec.plain.varTypes Try.prog ++ Try.f5.resultTypes.toList).any (Try.prog.wideKeysFrom ·))) = true := by kernel_rfl
theorem setX_k8 : (Rows.fnExactFieldSetBytesSpec.vars.all (Try.prog.varReadable ·) && Try.f5.resultTypes.all (fun t => Try.prog.readableRec t && decide (t < Try.prog.types.size)) && (Rows.fnExactFieldSetBytesRow.ifacesOut == Try.f5.resultTypes.toList.any (Try.prog.ifacesRec ·)) && (Rows.fnExactFieldSetBytesRow.loopsOut == Try.f5.resultTypes.toList.any (Try.prog.loopsFrom ·)) && (Rows.fnExactFieldSetBytesRow.plainKeys == Try.prog.plainKeys) && Rows.fnExactFieldSetBytesRow.shortTexts.isNone && Try.prog.stopsHeard) = true := by kernel_rfl
theorem setX_k9 : ((Rows.fnExactFieldSetBytesRow.kinds == (if Rows.fnExactFieldSetBytesRow.domain.isEmpty then [] else Try.f5.params.toList.map fun t => match Try.prog.underlying t with | some (.int k) => some k | _ => none)) && (Rows.fnExactFieldSetBytesRow.pinned == Rows.fnExactFieldSetBytesRow.pinnedBy)) = true := by kernel_rfl
theorem setX_k10 : ((Rows.fnExactFieldSetBytesRow.veiled == (Try.f5.params.toList ++ Rows.fnExactFieldSetBytesSpec.plain.varTypes Try.prog ++ Try.f5.resultTypes.toList).any (Try.prog.veiledRec ·)) && Rows.fnExactFieldSetBytesRow.veiledFits Try.prog Try.f5.params.toList (Try.f5.params.toList ++ Rows.fnExactFieldSetBytesSpec.plain.varTypes Try.prog ++ Try.f5.resultTypes.toList)) = true := by kernel_rfl
theorem setX_holds : Rows.FnExactFieldSetBytesSaid :=
  OpenClaim.holds_of_wide 5 Try.f5 rfl rfl rfl rfl rfl rfl rfl ⟨rfl, rfl, rfl, rfl, rfl⟩ rfl rfl rfl rfl rfl setX_named Try.func5
    (joined_of mayEnter_ok lifts_ok make_ok rfl rfl setX_k1 setX_k2 setX_k3 setX_k4 setX_k5 setX_k6 setX_k7 setX_k8 setX_k9 setX_k10)
    (of_decide_eq_true (by kernel_rfl)) (by unfold Func.isWrapper; first | (rw [if_pos (by decide +kernel)]; kernel_rfl) | (rw [if_neg (by decide +kernel)]; exact ⟨rfl, rfl⟩))
    (fun os started H enc _ => setX_lifted os started H enc)
end Go.Proofs.Ytachbdnefnnmfaa
