/- The law FnPointSign, with what its package variables hold tied to the program's text. No condition. -/
import Derived.Test.YtolmkbojlpplfaaDoorLift2
import Derived.Test.YtolmkbojlpplfaaDoorJoinp
import Derived.Test.YtolmkbojlpplfaaDoorLaw3
import Derived.Test.YtolmkbojlpplfaaDoorTbd
import Derived.Test.YtolmkbojlpplfaaDoorVv
import Derived.Test.YtolmkbojlpplfaaDoorCards
import Derived.Test.YtolmkbojlpplfaaDoorTie
import Derived.OpenVars
import Derived.Stop.Joined
import Derived.Test.YtolmkbojlpplfaaDoorPg
namespace Go.Proofs.YtolmkbojlpplfaaDoor
open Go Go.ChangeShapes Go.WideShapes Go.ChangeAt Go.RowKit
set_option linter.unusedVariables false
set_option linter.unusedSimpArgs false
set_option maxRecDepth 100000

noncomputable def sgT_ms : Ms := ⟨[⟨[.ptr 1 0], false⟩, ⟨(limbs 0), false⟩, ⟨[.ptr 3 0], false⟩, ⟨(limbs 1), false⟩, ⟨[.ptr 5 0], false⟩, ⟨(limbs 2), false⟩, ⟨(octsS 0 0 32), true⟩, ⟨[.int .u8 (.o 0 0), .int .u8 (.o 0 1), .int .u8 (.o 0 2), .int .u8 (.o 0 3), .int .u8 (.o 0 4), .int .u8 (.o 0 5), .int .u8 (.o 0 6), .int .u8 (.o 0 7), .int .u8 (.o 0 8), .int .u8 (.o 0 9), .int .u8 (.o 0 10), .int .u8 (.o 0 11), .int .u8 (.o 0 12), .int .u8 (.o 0 13), .int .u8 (.o 0 14), .int .u8 (.o 0 15), .int .u8 (.o 0 16), .int .u8 (.o 0 17), .int .u8 (.o 0 18), .int .u8 (.o 0 19), .int .u8 (.o 0 20), .int .u8 (.o 0 21), .int .u8 (.o 0 22), .int .u8 (.o 0 23), .int .u8 (.o 0 24), .int .u8 (.o 0 25), .int .u8 (.o 0 26), .int .u8 (.o 0 27), .int .u8 (.o 0 28), .int .u8 (.o 0 29), .int .u8 (.o 0 30), .int .u8 (.x 0)], true⟩, ⟨(octsS 0 0 32), true⟩, ⟨(octsS 5 0 32), true⟩, ⟨(octsS 0 0 32), true⟩, ⟨(limbs 7 ++ limbs 8 ++ limbs 9 ++ limbs 10), true⟩, ⟨(limbs 11 ++ limbs 8 ++ limbs 9 ++ limbs 12), true⟩, ⟨[.ptr 11 0], true⟩, ⟨(octsS 5 0 32), true⟩, ⟨(octsS 14 0 32), true⟩, ⟨(octsS 8 0 32), true⟩, ⟨(limbs 13 ++ limbs 14 ++ limbs 15 ++ limbs 16), true⟩, ⟨(octsS 9 0 32), true⟩, ⟨(octsS 8 0 32), true⟩, ⟨(octsS 14 0 32), true⟩, ⟨(octsS 8 0 32), true⟩, ⟨(limbs 25 ++ limbs 26 ++ limbs 27 ++ limbs 28), true⟩], [.db 13 (.eqs) (octX 5 0 32 ++ octX 14 0 32) [] [], .dn 14 (.fx "encP" encP) [25, 26, 27] [] [], .asm (.x 12) true, .db 12 (.eql) [.w 13 0, .c 1] [] [], .dn 13 (.fx "iniN" iniN) [25, 26] [] [], .de 28 (.fx "pTf" pTf) [] [] [9], .de 27 (.fx "pZf" pZf) [] [] [9], .de 26 (.fx "pYf" pYf) [] [] [9], .de 25 (.fx "pXf" pXf) [] [] [9], .asm (.x 11) true, .db 11 (.fx "ptf" ptf) [] [9] [], .asm (.x 10) true, .db 10 (.eql) [.w 12 0, .c 1] [] [], .dn 12 (.fx "isVf" isVf) [0, 1, 2] [] [], .de 24 (.fx "pTf" pTf) [] [] [8], .de 23 (.fx "pZf" pZf) [] [] [8], .de 22 (.fx "pYf" pYf) [] [] [8], .de 21 (.fx "pXf" pXf) [] [] [8], .asm (.x 9) true, .db 9 (.fx "ptf" ptf) [] [8] [], .asm (.x 8) true, .db 8 (.eql) [.w 11 0, .c 1] [] [], .dn 11 (.fx "isVf" isVf) [0, 1, 2] [] [], .de 20 (.fx "iTf" iTf) [] [] [], .de 19 (.fx "iZf" iZf) [] [] [], .de 18 (.fx "iYf" iYf) [] [] [], .de 17 (.fx "iXf" iXf) [] [] [], .asm (.x 7) true, .db 7 (.eql) [.w 10 0, .c 1] [] [], .dn 10 (.fx "isVf" isVf) [0, 1, 2] [] [], .dn 9 (.of) [] [.o 0 0, .o 0 1, .o 0 2, .o 0 3, .o 0 4, .o 0 5, .o 0 6, .o 0 7, .o 0 8, .o 0 9, .o 0 10, .o 0 11, .o 0 12, .o 0 13, .o 0 14, .o 0 15, .o 0 16, .o 0 17, .o 0 18, .o 0 19, .o 0 20, .o 0 21, .o 0 22, .o 0 23, .o 0 24, .o 0 25, .o 0 26, .o 0 27, .o 0 28, .o 0 29, .o 0 30, .x 0] [], .dn 8 (.fx "encP" encP) [13, 14, 15] [] [], .asm (.x 6) true, .db 6 (.eql) [.w 7 0, .c 1] [] [], .dn 7 (.fx "iniN" iniN) [13, 14] [] [], .de 16 (.fx "iTf" iTf) [] [] [], .de 15 (.fx "iZf" iZf) [] [] [], .de 14 (.fx "iYf" iYf) [] [] [], .de 13 (.fx "iXf" iXf) [] [] [], .asm (.x 5) true, .db 5 (.eql) [.w 6 0, .c 1] [] [], .dn 6 (.fx "isVf" isVf) [0, 1, 2] [] [], .dn 5 (.fx "encP" encP) [11, 8, 9] [] [], .asm (.x 4) true, .db 4 (.eql) [.w 4 0, .c 1] [] [], .dn 4 (.fx "iniN" iniN) [11, 8] [] [], .de 12 (.sub) [0, 10] [] [], .de 11 (.sub) [0, 7] [] [], .asm (.x 3) true, .db 3 (.eql) [.w 3 0, .c 1] [] [], .dn 3 (.fx "iniN" iniN) [7, 8] [] [], .de 10 (.fx "pTf" pTf) [] [] [0], .de 9 (.fx "pZf" pZf) [] [] [0], .de 8 (.fx "pYf" pYf) [] [] [0], .de 7 (.fx "pXf" pXf) [] [] [0], .asm (.x 2) true, .db 2 (.fx "ptf" ptf) [] [0] [], .asm (.x 1) true, .db 1 (.eql) [.w 2 0, .c 1] [] [], .dn 2 (.fx "isVf" isVf) [0, 1, 2] [] [], .de 6 (.fx "iTf" iTf) [] [] [], .de 5 (.fx "iZf" iZf) [] [] [], .de 4 (.fx "iYf" iYf) [] [] [], .de 3 (.fx "iXf" iXf) [] [] [], .asm (.x 0) true, .db 0 (.eql) [.w 1 0, .c 1] [] [], .dn 1 (.fx "isVf" isVf) [0, 1, 2] [] [], .di 0 (.xor (.u8)) [.o 0 31, .c 128]], 1, 14, 29, 15, [true, true, true, true], [(0, 0), (2, 2), (1, 4)]⟩
theorem sgT_run : runOk (body tabQ 8 4) (msV 1 0 [true, true, true, true, true, true, true]) (argsN [.byt] 0 0) (.bool (.x 13)) sgT_ms := ⟨by kernel_rfl, by kernel_rfl, by kernel_rfl, by kernel_rfl⟩
theorem sgT_math (ρ : Env) (hv : [ρ.e 0, ρ.e 1, ρ.e 2] = esV) (hp0 : ptB (ρ.n 0) = true) (hd : Defs ρ sgT_ms.tr) : Asms ρ sgT_ms.tr ∧ (Sb.x 13).val ρ = true := by
  have f0 := fe_zero hv
  have i0 : ρ.i 0 = wr .u8 ((ub .u8 ((octet (ρ.n 0) 31 : Nat) : Int) ^^^ ub .u8 128 : Nat) : Int) := (Defs.get hd (j := 67) (e := .di 0 (.xor (.u8)) [.o 0 31, .c 128]) (by kernel_rfl))
  have a0 : ρ.b 0 = true := isv_t hv (Defs.get hd (j := 66) (e := .dn 1 (.fx "isVf" isVf) [0, 1, 2] [] []) (by kernel_rfl)) (Defs.get hd (j := 65) (e := .db 0 (.eql) [.w 1 0, .c 1] [] []) (by kernel_rfl))
  have c3 := co_id (k := 3) (Defs.get hd (j := 63) (e := .de 3 (.fx "iXf" iXf) [] [] []) (by kernel_rfl)) (Defs.get hd (j := 62) (e := .de 4 (.fx "iYf" iYf) [] [] []) (by kernel_rfl)) (Defs.get hd (j := 61) (e := .de 5 (.fx "iZf" iZf) [] [] []) (by kernel_rfl)) (Defs.get hd (j := 60) (e := .de 6 (.fx "iTf" iTf) [] [] []) (by kernel_rfl))
  have a1 : ρ.b 1 = true := isv_t hv (Defs.get hd (j := 59) (e := .dn 2 (.fx "isVf" isVf) [0, 1, 2] [] []) (by kernel_rfl)) (Defs.get hd (j := 58) (e := .db 1 (.eql) [.w 2 0, .c 1] [] []) (by kernel_rfl))
  have hd0 : decP (ρ.n 0) = decP (ρ.n 0) := rfl
  have a2 : ρ.b 2 = true := (pt_t (Defs.get hd (j := 56) (e := .db 2 (.fx "ptf" ptf) [] [0] []) (by kernel_rfl))).trans hp0
  have c7 := co_ps (k := 7) hp0 hd0 (Defs.get hd (j := 54) (e := .de 7 (.fx "pXf" pXf) [] [] [0]) (by kernel_rfl)) (Defs.get hd (j := 53) (e := .de 8 (.fx "pYf" pYf) [] [] [0]) (by kernel_rfl)) (Defs.get hd (j := 52) (e := .de 9 (.fx "pZf" pZf) [] [] [0]) (by kernel_rfl)) (Defs.get hd (j := 51) (e := .de 10 (.fx "pTf" pTf) [] [] [0]) (by kernel_rfl))
  have a3 : ρ.b 3 = true := ini_t (co_ne c7.1) (Defs.get hd (j := 50) (e := .dn 3 (.fx "iniN" iniN) [7, 8] [] []) (by kernel_rfl)) (Defs.get hd (j := 49) (e := .db 3 (.eql) [.w 3 0, .c 1] [] []) (by kernel_rfl))
  have f11 : (ρ.e 11).fe = (ρ.e 0).fe - (ρ.e 7).fe := by rw [show ρ.e 11 = subE (ρ.e 0) (ρ.e 7) from (Defs.get hd (j := 47) (e := .de 11 (.sub) [0, 7] [] []) (by kernel_rfl)), subE_fe]
  have f12 : (ρ.e 12).fe = (ρ.e 0).fe - (ρ.e 10).fe := by rw [show ρ.e 12 = subE (ρ.e 0) (ρ.e 10) from (Defs.get hd (j := 46) (e := .de 12 (.sub) [0, 10] [] []) (by kernel_rfl)), subE_fe]
  have c11 : Co4 (ρ.e 11).fe (ρ.e 8).fe (ρ.e 9).fe (ρ.e 12).fe ((decP (ρ.n 0)).neg) := by rw [f11, f12, f0]; exact co_neg c7
  have a4 : ρ.b 4 = true := ini_t (co_ne c11.1) (Defs.get hd (j := 45) (e := .dn 4 (.fx "iniN" iniN) [11, 8] [] []) (by kernel_rfl)) (Defs.get hd (j := 44) (e := .db 4 (.eql) [.w 4 0, .c 1] [] []) (by kernel_rfl))
  have e5 := e_encP (Defs.get hd (j := 42) (e := .dn 5 (.fx "encP" encP) [11, 8, 9] [] []) (by kernel_rfl)) c11.1
  have a5 : ρ.b 5 = true := isv_t hv (Defs.get hd (j := 41) (e := .dn 6 (.fx "isVf" isVf) [0, 1, 2] [] []) (by kernel_rfl)) (Defs.get hd (j := 40) (e := .db 5 (.eql) [.w 6 0, .c 1] [] []) (by kernel_rfl))
  have c13 := co_id (k := 13) (Defs.get hd (j := 38) (e := .de 13 (.fx "iXf" iXf) [] [] []) (by kernel_rfl)) (Defs.get hd (j := 37) (e := .de 14 (.fx "iYf" iYf) [] [] []) (by kernel_rfl)) (Defs.get hd (j := 36) (e := .de 15 (.fx "iZf" iZf) [] [] []) (by kernel_rfl)) (Defs.get hd (j := 35) (e := .de 16 (.fx "iTf" iTf) [] [] []) (by kernel_rfl))
  have a6 : ρ.b 6 = true := ini_t (co_ne c13.1) (Defs.get hd (j := 34) (e := .dn 7 (.fx "iniN" iniN) [13, 14] [] []) (by kernel_rfl)) (Defs.get hd (j := 33) (e := .db 6 (.eql) [.w 7 0, .c 1] [] []) (by kernel_rfl))
  have e8 := e_encP (Defs.get hd (j := 31) (e := .dn 8 (.fx "encP" encP) [13, 14, 15] [] []) (by kernel_rfl)) c13.1
  have fl9 := flip_e (Defs.get hd (j := 30) (e := .dn 9 .of [] (octX 0 0 31 ++ [Sx.x 0]) []) (by kernel_rfl)) i0
  have a7 : ρ.b 7 = true := isv_t hv (Defs.get hd (j := 29) (e := .dn 10 (.fx "isVf" isVf) [0, 1, 2] [] []) (by kernel_rfl)) (Defs.get hd (j := 28) (e := .db 7 (.eql) [.w 10 0, .c 1] [] []) (by kernel_rfl))
  have c17 := co_id (k := 17) (Defs.get hd (j := 26) (e := .de 17 (.fx "iXf" iXf) [] [] []) (by kernel_rfl)) (Defs.get hd (j := 25) (e := .de 18 (.fx "iYf" iYf) [] [] []) (by kernel_rfl)) (Defs.get hd (j := 24) (e := .de 19 (.fx "iZf" iZf) [] [] []) (by kernel_rfl)) (Defs.get hd (j := 23) (e := .de 20 (.fx "iTf" iTf) [] [] []) (by kernel_rfl))
  have a8 : ρ.b 8 = true := isv_t hv (Defs.get hd (j := 22) (e := .dn 11 (.fx "isVf" isVf) [0, 1, 2] [] []) (by kernel_rfl)) (Defs.get hd (j := 21) (e := .db 8 (.eql) [.w 11 0, .c 1] [] []) (by kernel_rfl))
  have hp8 := ptB_of e8
  have hd8 := decP_of e8
  have a9 : ρ.b 9 = true := (pt_t (Defs.get hd (j := 19) (e := .db 9 (.fx "ptf" ptf) [] [8] []) (by kernel_rfl))).trans hp8
  have c21 := co_ps (k := 21) hp8 hd8 (Defs.get hd (j := 17) (e := .de 21 (.fx "pXf" pXf) [] [] [8]) (by kernel_rfl)) (Defs.get hd (j := 16) (e := .de 22 (.fx "pYf" pYf) [] [] [8]) (by kernel_rfl)) (Defs.get hd (j := 15) (e := .de 23 (.fx "pZf" pZf) [] [] [8]) (by kernel_rfl)) (Defs.get hd (j := 14) (e := .de 24 (.fx "pTf" pTf) [] [] [8]) (by kernel_rfl))
  have a10 : ρ.b 10 = true := isv_t hv (Defs.get hd (j := 13) (e := .dn 12 (.fx "isVf" isVf) [0, 1, 2] [] []) (by kernel_rfl)) (Defs.get hd (j := 12) (e := .db 10 (.eql) [.w 12 0, .c 1] [] []) (by kernel_rfl))
  obtain ⟨hp9, hd9⟩ := flip_dec fl9.1 fl9.2 hp0
  have a11 : ρ.b 11 = true := (pt_t (Defs.get hd (j := 10) (e := .db 11 (.fx "ptf" ptf) [] [9] []) (by kernel_rfl))).trans hp9
  have c25 := co_ps (k := 25) hp9 hd9 (Defs.get hd (j := 8) (e := .de 25 (.fx "pXf" pXf) [] [] [9]) (by kernel_rfl)) (Defs.get hd (j := 7) (e := .de 26 (.fx "pYf" pYf) [] [] [9]) (by kernel_rfl)) (Defs.get hd (j := 6) (e := .de 27 (.fx "pZf" pZf) [] [] [9]) (by kernel_rfl)) (Defs.get hd (j := 5) (e := .de 28 (.fx "pTf" pTf) [] [] [9]) (by kernel_rfl))
  have a12 : ρ.b 12 = true := ini_t (co_ne c25.1) (Defs.get hd (j := 4) (e := .dn 13 (.fx "iniN" iniN) [25, 26] [] []) (by kernel_rfl)) (Defs.get hd (j := 3) (e := .db 12 (.eql) [.w 13 0, .c 1] [] []) (by kernel_rfl))
  have e14 := e_encP (Defs.get hd (j := 1) (e := .dn 14 (.fx "encP" encP) [25, 26, 27] [] []) (by kernel_rfl)) c25.1
  have b13 := b_ee (Defs.get hd (j := 0) (e := .db 13 .eqs (octX 5 0 32 ++ octX 14 0 32) [] []) (by kernel_rfl)) e5 e14
  have a13 : ρ.b 13 = true := ee_t (Defs.get hd (j := 0) (e := .db 13 .eqs (octX 5 0 32 ++ octX 14 0 32) [] []) (by kernel_rfl)) e5 e14 (rfl)
  refine ⟨by simp only [sgT_ms, Asms, Ent.asn, Sb.val, a0, a1, a2, a3, a4, a5, a6, a7, a8, a9, a10, a11, a12, and_true], ?_⟩
  exact a13
noncomputable def sgF_ms : Ms := ⟨[⟨[.ptr 1 0], false⟩, ⟨(limbs 0), false⟩, ⟨[.ptr 3 0], false⟩, ⟨(limbs 1), false⟩, ⟨[.ptr 5 0], false⟩, ⟨(limbs 2), false⟩, ⟨(octsS 0 0 32), true⟩, ⟨[.int .u8 (.o 0 0), .int .u8 (.o 0 1), .int .u8 (.o 0 2), .int .u8 (.o 0 3), .int .u8 (.o 0 4), .int .u8 (.o 0 5), .int .u8 (.o 0 6), .int .u8 (.o 0 7), .int .u8 (.o 0 8), .int .u8 (.o 0 9), .int .u8 (.o 0 10), .int .u8 (.o 0 11), .int .u8 (.o 0 12), .int .u8 (.o 0 13), .int .u8 (.o 0 14), .int .u8 (.o 0 15), .int .u8 (.o 0 16), .int .u8 (.o 0 17), .int .u8 (.o 0 18), .int .u8 (.o 0 19), .int .u8 (.o 0 20), .int .u8 (.o 0 21), .int .u8 (.o 0 22), .int .u8 (.o 0 23), .int .u8 (.o 0 24), .int .u8 (.o 0 25), .int .u8 (.o 0 26), .int .u8 (.o 0 27), .int .u8 (.o 0 28), .int .u8 (.o 0 29), .int .u8 (.o 0 30), .int .u8 (.x 0)], true⟩, ⟨(octsS 0 0 32), true⟩, ⟨[.int .u8 (.c 0), .int .u8 (.c 0), .int .u8 (.c 0), .int .u8 (.c 0), .int .u8 (.c 0), .int .u8 (.c 0), .int .u8 (.c 0), .int .u8 (.c 0), .int .u8 (.c 0), .int .u8 (.c 0), .int .u8 (.c 0), .int .u8 (.c 0), .int .u8 (.c 0), .int .u8 (.c 0), .int .u8 (.c 0), .int .u8 (.c 0), .int .u8 (.c 0), .int .u8 (.c 0), .int .u8 (.c 0), .int .u8 (.c 0), .int .u8 (.c 0), .int .u8 (.c 0), .int .u8 (.c 0), .int .u8 (.c 0), .int .u8 (.c 0), .int .u8 (.c 0), .int .u8 (.c 0), .int .u8 (.c 0), .int .u8 (.c 0), .int .u8 (.c 0), .int .u8 (.c 0), .int .u8 (.c 0)], true⟩, ⟨(octsS 0 0 32), true⟩, ⟨(limbs 3 ++ limbs 4 ++ limbs 5 ++ limbs 6), true⟩, ⟨[.int .u8 (.c 0), .int .u8 (.c 0), .int .u8 (.c 0), .int .u8 (.c 0), .int .u8 (.c 0), .int .u8 (.c 0), .int .u8 (.c 0), .int .u8 (.c 0), .int .u8 (.c 0), .int .u8 (.c 0), .int .u8 (.c 0), .int .u8 (.c 0), .int .u8 (.c 0), .int .u8 (.c 0), .int .u8 (.c 0), .int .u8 (.c 0), .int .u8 (.c 0), .int .u8 (.c 0), .int .u8 (.c 0), .int .u8 (.c 0), .int .u8 (.c 0), .int .u8 (.c 0), .int .u8 (.c 0), .int .u8 (.c 0), .int .u8 (.c 0), .int .u8 (.c 0), .int .u8 (.c 0), .int .u8 (.c 0), .int .u8 (.c 0), .int .u8 (.c 0), .int .u8 (.c 0), .int .u8 (.c 0)], true⟩, ⟨(octsS 11 0 32), true⟩, ⟨(octsS 5 0 32), true⟩, ⟨(limbs 7 ++ limbs 8 ++ limbs 9 ++ limbs 10), true⟩, ⟨(octsS 6 0 32), true⟩, ⟨(octsS 5 0 32), true⟩, ⟨(octsS 11 0 32), true⟩, ⟨(octsS 5 0 32), true⟩, ⟨(limbs 15 ++ limbs 16 ++ limbs 17 ++ limbs 18), true⟩, ⟨(octsS 0 0 32), true⟩, ⟨(octsS 0 0 32), true⟩, ⟨[.int .u8 (.c 0), .int .u8 (.c 0), .int .u8 (.c 0), .int .u8 (.c 0), .int .u8 (.c 0), .int .u8 (.c 0), .int .u8 (.c 0), .int .u8 (.c 0), .int .u8 (.c 0), .int .u8 (.c 0), .int .u8 (.c 0), .int .u8 (.c 0), .int .u8 (.c 0), .int .u8 (.c 0), .int .u8 (.c 0), .int .u8 (.c 0), .int .u8 (.c 0), .int .u8 (.c 0), .int .u8 (.c 0), .int .u8 (.c 0), .int .u8 (.c 0), .int .u8 (.c 0), .int .u8 (.c 0), .int .u8 (.c 0), .int .u8 (.c 0), .int .u8 (.c 0), .int .u8 (.c 0), .int .u8 (.c 0), .int .u8 (.c 0), .int .u8 (.c 0), .int .u8 (.c 0), .int .u8 (.c 0)], true⟩, ⟨[.int .u64 (.c 0), .int .u64 (.c 0), .int .u64 (.c 0), .int .u64 (.c 0), .int .u64 (.c 0), .int .u64 (.c 0), .int .u64 (.c 0), .int .u64 (.c 0), .int .u64 (.c 0), .int .u64 (.c 0), .int .u64 (.c 0), .int .u64 (.c 0)], true⟩, ⟨[.int .u8 (.c 0), .int .u8 (.c 0), .int .u8 (.c 0), .int .u8 (.c 0), .int .u8 (.c 0), .int .u8 (.c 0), .int .u8 (.c 0), .int .u8 (.c 0), .int .u8 (.c 0), .int .u8 (.c 0), .int .u8 (.c 0), .int .u8 (.c 0), .int .u8 (.c 0), .int .u8 (.c 0), .int .u8 (.c 0), .int .u8 (.c 0), .int .u8 (.c 0), .int .u8 (.c 0), .int .u8 (.c 0), .int .u8 (.c 0), .int .u8 (.c 0), .int .u8 (.c 0), .int .u8 (.c 0), .int .u8 (.c 0), .int .u8 (.c 0), .int .u8 (.c 0), .int .u8 (.c 0), .int .u8 (.c 0), .int .u8 (.c 0), .int .u8 (.c 0), .int .u8 (.c 0), .int .u8 (.c 0)], true⟩], [.asm (.x 11) false, .db 11 (.fx "ptf" ptf) [] [0] [], .dn 11 (.fx "encP" encP) [15, 16, 17] [] [], .asm (.x 10) true, .db 10 (.eql) [.w 10 0, .c 1] [] [], .dn 10 (.fx "iniN" iniN) [15, 16] [] [], .asm (.x 9) false, .db 9 (.fx "ptf" ptf) [] [6] [], .asm (.x 8) true, .db 8 (.eql) [.w 9 0, .c 1] [] [], .dn 9 (.fx "isVf" isVf) [0, 1, 2] [] [], .de 18 (.fx "pTf" pTf) [] [] [5], .de 17 (.fx "pZf" pZf) [] [] [5], .de 16 (.fx "pYf" pYf) [] [] [5], .de 15 (.fx "pXf" pXf) [] [] [5], .asm (.x 7) true, .db 7 (.fx "ptf" ptf) [] [5] [], .asm (.x 6) true, .db 6 (.eql) [.w 8 0, .c 1] [] [], .dn 8 (.fx "isVf" isVf) [0, 1, 2] [] [], .de 14 (.fx "iTf" iTf) [] [] [], .de 13 (.fx "iZf" iZf) [] [] [], .de 12 (.fx "iYf" iYf) [] [] [], .de 11 (.fx "iXf" iXf) [] [] [], .asm (.x 5) true, .db 5 (.eql) [.w 7 0, .c 1] [] [], .dn 7 (.fx "isVf" isVf) [0, 1, 2] [] [], .dn 6 (.of) [] [.o 0 0, .o 0 1, .o 0 2, .o 0 3, .o 0 4, .o 0 5, .o 0 6, .o 0 7, .o 0 8, .o 0 9, .o 0 10, .o 0 11, .o 0 12, .o 0 13, .o 0 14, .o 0 15, .o 0 16, .o 0 17, .o 0 18, .o 0 19, .o 0 20, .o 0 21, .o 0 22, .o 0 23, .o 0 24, .o 0 25, .o 0 26, .o 0 27, .o 0 28, .o 0 29, .o 0 30, .x 0] [], .dn 5 (.fx "encP" encP) [7, 8, 9] [] [], .asm (.x 4) true, .db 4 (.eql) [.w 4 0, .c 1] [] [], .dn 4 (.fx "iniN" iniN) [7, 8] [] [], .de 10 (.fx "iTf" iTf) [] [] [], .de 9 (.fx "iZf" iZf) [] [] [], .de 8 (.fx "iYf" iYf) [] [] [], .de 7 (.fx "iXf" iXf) [] [] [], .asm (.x 3) true, .db 3 (.eql) [.w 3 0, .c 1] [] [], .dn 3 (.fx "isVf" isVf) [0, 1, 2] [] [], .asm (.x 2) false, .db 2 (.fx "ptf" ptf) [] [0] [], .asm (.x 1) true, .db 1 (.eql) [.w 2 0, .c 1] [] [], .dn 2 (.fx "isVf" isVf) [0, 1, 2] [] [], .de 6 (.fx "iTf" iTf) [] [] [], .de 5 (.fx "iZf" iZf) [] [] [], .de 4 (.fx "iYf" iYf) [] [] [], .de 3 (.fx "iXf" iXf) [] [] [], .asm (.x 0) true, .db 0 (.eql) [.w 1 0, .c 1] [] [], .dn 1 (.fx "isVf" isVf) [0, 1, 2] [] [], .di 0 (.xor (.u8)) [.o 0 31, .c 128]], 1, 12, 19, 12, [false, false], [(0, 0), (2, 2), (1, 4)]⟩
theorem sgF_run : runOk (body tabQ 8 4) (msV 1 0 [false, true, false, false, false, false]) (argsN [.byt] 0 0) (.bool (.c true)) sgF_ms := ⟨by kernel_rfl, by kernel_rfl, by kernel_rfl, by kernel_rfl⟩
theorem sgF_math (ρ : Env) (hv : [ρ.e 0, ρ.e 1, ρ.e 2] = esV) (hf0 : ptB (ρ.n 0) = false) (hd : Defs ρ sgF_ms.tr) : Asms ρ sgF_ms.tr ∧ (Sb.c true).val ρ = true := by
  have f0 := fe_zero hv
  have i0 : ρ.i 0 = wr .u8 ((ub .u8 ((octet (ρ.n 0) 31 : Nat) : Int) ^^^ ub .u8 128 : Nat) : Int) := (Defs.get hd (j := 51) (e := .di 0 (.xor (.u8)) [.o 0 31, .c 128]) (by kernel_rfl))
  have a0 : ρ.b 0 = true := isv_t hv (Defs.get hd (j := 50) (e := .dn 1 (.fx "isVf" isVf) [0, 1, 2] [] []) (by kernel_rfl)) (Defs.get hd (j := 49) (e := .db 0 (.eql) [.w 1 0, .c 1] [] []) (by kernel_rfl))
  have c3 := co_id (k := 3) (Defs.get hd (j := 47) (e := .de 3 (.fx "iXf" iXf) [] [] []) (by kernel_rfl)) (Defs.get hd (j := 46) (e := .de 4 (.fx "iYf" iYf) [] [] []) (by kernel_rfl)) (Defs.get hd (j := 45) (e := .de 5 (.fx "iZf" iZf) [] [] []) (by kernel_rfl)) (Defs.get hd (j := 44) (e := .de 6 (.fx "iTf" iTf) [] [] []) (by kernel_rfl))
  have a1 : ρ.b 1 = true := isv_t hv (Defs.get hd (j := 43) (e := .dn 2 (.fx "isVf" isVf) [0, 1, 2] [] []) (by kernel_rfl)) (Defs.get hd (j := 42) (e := .db 1 (.eql) [.w 2 0, .c 1] [] []) (by kernel_rfl))
  have a2 : ρ.b 2 = false := (pt_t (Defs.get hd (j := 40) (e := .db 2 (.fx "ptf" ptf) [] [0] []) (by kernel_rfl))).trans hf0
  have a3 : ρ.b 3 = true := isv_t hv (Defs.get hd (j := 38) (e := .dn 3 (.fx "isVf" isVf) [0, 1, 2] [] []) (by kernel_rfl)) (Defs.get hd (j := 37) (e := .db 3 (.eql) [.w 3 0, .c 1] [] []) (by kernel_rfl))
  have c7 := co_id (k := 7) (Defs.get hd (j := 35) (e := .de 7 (.fx "iXf" iXf) [] [] []) (by kernel_rfl)) (Defs.get hd (j := 34) (e := .de 8 (.fx "iYf" iYf) [] [] []) (by kernel_rfl)) (Defs.get hd (j := 33) (e := .de 9 (.fx "iZf" iZf) [] [] []) (by kernel_rfl)) (Defs.get hd (j := 32) (e := .de 10 (.fx "iTf" iTf) [] [] []) (by kernel_rfl))
  have a4 : ρ.b 4 = true := ini_t (co_ne c7.1) (Defs.get hd (j := 31) (e := .dn 4 (.fx "iniN" iniN) [7, 8] [] []) (by kernel_rfl)) (Defs.get hd (j := 30) (e := .db 4 (.eql) [.w 4 0, .c 1] [] []) (by kernel_rfl))
  have e5 := e_encP (Defs.get hd (j := 28) (e := .dn 5 (.fx "encP" encP) [7, 8, 9] [] []) (by kernel_rfl)) c7.1
  have fl6 := flip_e (Defs.get hd (j := 27) (e := .dn 6 .of [] (octX 0 0 31 ++ [Sx.x 0]) []) (by kernel_rfl)) i0
  have a5 : ρ.b 5 = true := isv_t hv (Defs.get hd (j := 26) (e := .dn 7 (.fx "isVf" isVf) [0, 1, 2] [] []) (by kernel_rfl)) (Defs.get hd (j := 25) (e := .db 5 (.eql) [.w 7 0, .c 1] [] []) (by kernel_rfl))
  have c11 := co_id (k := 11) (Defs.get hd (j := 23) (e := .de 11 (.fx "iXf" iXf) [] [] []) (by kernel_rfl)) (Defs.get hd (j := 22) (e := .de 12 (.fx "iYf" iYf) [] [] []) (by kernel_rfl)) (Defs.get hd (j := 21) (e := .de 13 (.fx "iZf" iZf) [] [] []) (by kernel_rfl)) (Defs.get hd (j := 20) (e := .de 14 (.fx "iTf" iTf) [] [] []) (by kernel_rfl))
  have a6 : ρ.b 6 = true := isv_t hv (Defs.get hd (j := 19) (e := .dn 8 (.fx "isVf" isVf) [0, 1, 2] [] []) (by kernel_rfl)) (Defs.get hd (j := 18) (e := .db 6 (.eql) [.w 8 0, .c 1] [] []) (by kernel_rfl))
  have hp5 := ptB_of e5
  have hd5 := decP_of e5
  have a7 : ρ.b 7 = true := (pt_t (Defs.get hd (j := 16) (e := .db 7 (.fx "ptf" ptf) [] [5] []) (by kernel_rfl))).trans hp5
  have c15 := co_ps (k := 15) hp5 hd5 (Defs.get hd (j := 14) (e := .de 15 (.fx "pXf" pXf) [] [] [5]) (by kernel_rfl)) (Defs.get hd (j := 13) (e := .de 16 (.fx "pYf" pYf) [] [] [5]) (by kernel_rfl)) (Defs.get hd (j := 12) (e := .de 17 (.fx "pZf" pZf) [] [] [5]) (by kernel_rfl)) (Defs.get hd (j := 11) (e := .de 18 (.fx "pTf" pTf) [] [] [5]) (by kernel_rfl))
  have a8 : ρ.b 8 = true := isv_t hv (Defs.get hd (j := 10) (e := .dn 9 (.fx "isVf" isVf) [0, 1, 2] [] []) (by kernel_rfl)) (Defs.get hd (j := 9) (e := .db 8 (.eql) [.w 9 0, .c 1] [] []) (by kernel_rfl))
  have hf6 := flip_no fl6.1 hf0
  have a9 : ρ.b 9 = false := (pt_t (Defs.get hd (j := 7) (e := .db 9 (.fx "ptf" ptf) [] [6] []) (by kernel_rfl))).trans hf6
  have a10 : ρ.b 10 = true := ini_t (co_ne c15.1) (Defs.get hd (j := 5) (e := .dn 10 (.fx "iniN" iniN) [15, 16] [] []) (by kernel_rfl)) (Defs.get hd (j := 4) (e := .db 10 (.eql) [.w 10 0, .c 1] [] []) (by kernel_rfl))
  have e11 := e_encP (Defs.get hd (j := 2) (e := .dn 11 (.fx "encP" encP) [15, 16, 17] [] []) (by kernel_rfl)) c15.1
  have a11 : ρ.b 11 = false := (pt_t (Defs.get hd (j := 1) (e := .db 11 (.fx "ptf" ptf) [] [0] []) (by kernel_rfl))).trans hf0
  refine ⟨by simp only [sgF_ms, Asms, Ent.asn, Sb.val, a0, a1, a2, a3, a4, a5, a6, a7, a8, a9, a10, a11, and_true], ?_⟩
  rfl

theorem sgX_c (N0 : Nat) (W : World) (hL : laidMet Tryd.prog laidV W) : Invokes Tryd.prog 4 #[bytesV N0] W fun r w' => r = .bool true ∧ Fr (fun _ _ => False) W w' := by
  have hf : NFits [.byt] [N0] [] [bytesV N0] := by simp [NFits]
  cases h0 : ptB N0 with
  | true => exact runV tabQ_ok sgT_run hf (fun ρ ha hd => sgT_math ρ (hvV ha) (by rw [show ρ.n 0 = N0 from ha.n 0 (by decide)]; exact h0) hd) W hL
  | false => exact runV tabQ_ok sgF_run hf (fun ρ ha hd => sgF_math ρ (hvV ha) (by rw [show ρ.n 0 = N0 from ha.n 0 (by decide)]; exact h0) hd) W hL

theorem sgX_met (os : Os) (args : Array Value) : laidMetH Tryd.prog Rows.fnPointSignRow.laid ((World.doorLaid Tryd.prog 400 os).forCall (fun _ _ => 0) ⟨#[], args, []⟩).memory :=
  laidMetH_of_parts3 (fuel := 8) (laidMet_of_run' 8 (by kernel_rfl) (by kernel_rfl)) (by kernel_rfl) (by kernel_rfl)
theorem sgX_lifted (os : Os) (started : os.Started) (H : Type) (enc : TypeId × Value → H) :
    ReturnsInHanded {} Tryd.checked os 4 .any (fun w args => (Rows.fnPointSignSpec.pre enc Tryd.prog Tryd.f4 [] false w args ∧ laidMetH Tryd.prog Rows.fnPointSignRow.laid w) ∧ sizedMet enc Tryd.prog Tryd.f4 (OpenSpec.ofChange Rows.fnPointSignSpec) false w args)
      (Rows.fnPointSignSpec.post enc Tryd.prog Tryd.f4 false true false false) := by
  refine returnsInHanded_of_change_and (C := Tryd.checked) (X := fun w _ => laidMetH Tryd.prog Rows.fnPointSignRow.laid w) (fun _ _ _ hh h => h.of_heap hh) own_ok started (by kernel_rfl) Tryd.func4
    (ChangeSpec.witness_shaped (enc := enc) (C := Tryd.checked) (os := os) (X := fun w _ => laidMetH Tryd.prog Rows.fnPointSignRow.laid w) false (World.doorLaid Tryd.prog 400 os) #[bytesV 0] 8 rfl (World.shaped_of_RefB (by kernel_rfl) (by kernel_rfl)) (by kernel_rfl) (by kernel_rfl) (by kernel_rfl) (sgX_met os _)) ?_
  intro W base args ds gs before hval0 hW _ _ hL _
  have hval : ∀ (j : Nat) t v, Tryd.f4.params[j]? = some t → args[j]? = some v → Value.okWide Tryd.prog W .any base t v := hval0
  have hW' := hW
  obtain ⟨p, q, hA0, hV0, rfl, hfz, hnd⟩ := hW
  have hA : DataW.TrodAll enc Tryd.prog W 0 (fun _ => true) true Tryd.f4.params.toList args.toList ds p := hA0
  have hV : DataW.TrodVars enc Tryd.prog W (fun _ => true) Rows.fnPointSignSpec.vars gs q := hV0
  rw [Tryd.params4] at hA hval
  obtain ⟨v0, vs0, d0, ds0, p0, q0, hargs, rfl, rfl, h0, r0⟩ := trodAll_cons hA
  obtain ⟨rfl, rfl, rfl⟩ := trodAll_nil r0
  obtain rfl : args = #[v0] := by cases args; simp_all
  obtain ⟨g0, g1, g2, rfl⟩ : ∃ g0 g1 g2, gs = [g0, g1, g2] := by
    exact vars_three hV
  obtain ⟨N0, _, rfl⟩ := open_bytes (hval 0 22 v0 rfl rfl) h0
  have lt0 : ∀ x ∈ p0, x.block < W.heap.size := by obtain ⟨m, hm⟩ := h0; exact DataW.trod_lt m _ _ _ hm
  clear hA0 hval0
  rw [MakeChecks.laidMetH_plain _ _ _ (by kernel_rfl)] at hL
  have hL' : laidMet Tryd.prog laidV W := hL
  refine (calls_of (by kernel_rfl) (sgX_c N0 W hL')).mono fun e W' ⟨v, he, hb, hf⟩ => ?_
  subst he
  subst hb
  have bel := hf.below
  exact ⟨_, rfl, _, _, _, [], _, _, hW', trodAll_mk1 (shut_bool under4 _), (trodAll_cons_mk (Below.trod laid_ok (by kernel_rfl) (of_decide_eq_true (by kernel_rfl)) h0 bel lt0) trodAll_mk0), Below.trodVars laid_ok bel (by kernel_rfl) hV, bel.frame _, fun h => by cases h⟩

theorem sgX_named : Tryd.pinned.checked.prog.funcNamed Rows.fnPointSignRow.func = some 4 := by kernel_rfl
theorem sgX_k1 : (Rows.fnPointSignRow.wf (OpenSpec.ofChange Rows.fnPointSignSpec) && laidOutB Tryd.prog && mapsRowed Tryd.prog && Tryd.f4.params.all (Tryd.prog.readableRec ·) && namedTie Tryd.prog Rows.fnPointSignRow.named Rows.fnPointSignSpec.vars) = true := by kernel_rfl
theorem sgX_k2 : ((Rows.fnPointSignRow.stops == []) && (Tryd.prog.stops == []) && (Rows.fnPointSignRow.knobs == []) && (Tryd.prog.stopKnobs == [])) = true := by kernel_rfl
theorem sgX_k3 : (Rows.fnPointSignRow.inPlace == Tryd.prog.inPlace 4) = true := by kernel_rfl
theorem sgX_k4 : (Rows.fnPointSignRow.unfollowed == Tryd.prog.unfollowed 4) = true := by kernel_rfl
theorem sgX_k5 : (Rows.fnPointSignRow.recurses == Tryd.prog.recurses 4) = true := by kernel_rfl
theorem sgX_k6 : (Rows.fnPointSignRow.named == Tryd.prog.varsNamed 4) = true := by kernel_rfl
theorem sgX_k7 : ((Rows.fnPointSignRow.maps == (Tryd.f4.params.toList ++ Rows.fnPointSignSpec.plain.varTypes Tryd.prog).any (Tryd.prog.mapsRec ·)) && (Rows.fnPointSignRow.ifaces == (Tryd.f4.params.toList ++ Rows.fnPointSignSpec.plain.varTypes Tryd.prog).any (Tryd.prog.ifacesRec ·)) && (Rows.fnPointSignRow.mapsOut == Tryd.prog.mapsAmong Tryd.f4.resultTypes.toList) && (Rows.fnPointSignRow.loops == (Tryd.f4.params.toList ++ Rows.fnPointSignSpec.plain.varTypes Tryd.prog).any (Tryd.prog.loopsFrom ·)) && (Rows.fnPointSignRow.wideKeys == (Tryd.f4.params.toList ++ Rows.fnPointSignSpec.plain.varTypes Tryd.prog ++ Tryd.f4.resultTypes.toList).any (Tryd.prog.wideKeysFrom ·))) = true := by kernel_rfl
theorem sgX_k8 : (Rows.fnPointSignSpec.vars.all (Tryd.prog.varReadable ·) && Tryd.f4.resultTypes.all (fun t => Tryd.prog.readableRec t && decide (t < Tryd.prog.types.size)) && (Rows.fnPointSignRow.ifacesOut == Tryd.f4.resultTypes.toList.any (Tryd.prog.ifacesRec ·)) && (Rows.fnPointSignRow.loopsOut == Tryd.f4.resultTypes.toList.any (Tryd.prog.loopsFrom ·)) && (Rows.fnPointSignRow.plainKeys == Tryd.prog.plainKeys) && Rows.fnPointSignRow.shortTexts.isNone && Tryd.prog.stopsHeard) = true := by kernel_rfl
theorem sgX_k9 : ((Rows.fnPointSignRow.kinds == (if Rows.fnPointSignRow.domain.isEmpty then [] else Tryd.f4.params.toList.map fun t => match Tryd.prog.underlying t with | some (.int k) => some k | _ => none)) && (Rows.fnPointSignRow.pinned == Rows.fnPointSignRow.pinnedBy)) = true := by kernel_rfl
theorem sgX_k10 : ((Rows.fnPointSignRow.veiled == (Tryd.f4.params.toList ++ Rows.fnPointSignSpec.plain.varTypes Tryd.prog ++ Tryd.f4.resultTypes.toList).any (Tryd.prog.veiledRec ·)) && Rows.fnPointSignRow.veiledFits Tryd.prog Tryd.f4.params.toList (Tryd.f4.params.toList ++ Rows.fnPointSignSpec.plain.varTypes Tryd.prog ++ Tryd.f4.resultTypes.toList)) = true := by kernel_rfl
theorem sgX_holds : Rows.FnPointSignSaid :=
  OpenClaim.holds_of_wide 4 Tryd.f4 rfl rfl rfl rfl rfl rfl rfl ⟨rfl, rfl, rfl, rfl, rfl⟩ rfl rfl rfl rfl rfl sgX_named Tryd.func4
    (joined_of mayEnter_ok lifts_ok make_ok rfl rfl sgX_k1 sgX_k2 sgX_k3 sgX_k4 sgX_k5 sgX_k6 sgX_k7 sgX_k8 sgX_k9 sgX_k10)
    (of_decide_eq_true (by kernel_rfl)) (by unfold Func.isWrapper; first | (rw [if_pos (by decide +kernel)]; kernel_rfl) | (rw [if_neg (by decide +kernel)]; exact ⟨rfl, rfl⟩))
    (fun os started H enc _ => sgX_lifted os started H enc)
theorem sgX_stand (j : Nat) (t : TypeId) (ht : Tryd.f4.params[j]? = some t) : Tryd.prog.wantsStandIn t = false := by
  rw [Tryd.params4] at ht
  match j, ht with
  | 0, ht => obtain rfl : 22 = t := Option.some.inj ht; exact (show Tryd.prog.wantsStandIn 22 = false by kernel_rfl)
  | j + 1, ht => simp at ht
/-- The tied card. -/
theorem sgX_card : Rows.FnPointSignCardSaid :=
  Claim7.holds_tied_plain_at .later [] [.widerDeep, .widerDeep, .widerDeep] true (true, "6e5399b3dacc77f24a64d83cce517e1d6c1168836c0ca0a600446d7d5350a287") false
    sgX_holds (fun _ h => by cases h) (by kernel_rfl) (fun _ h => by cases h) fnPointSign_row_tie rfl ⟨rfl, rfl⟩ (by kernel_rfl) rfl
    (fun f fn hf hfn => by
      obtain rfl : f = 4 := Option.some.inj ((show Tryd.prog.funcNamed Rows.fnPointSignRow.func = some 4 by kernel_rfl).symm.trans hf) |>.symm
      obtain rfl : fn = Tryd.f4 := (Option.some.inj (Tryd.func4.symm.trans hfn)).symm
      exact ⟨by kernel_rfl, sgX_stand⟩)
    (by kernel_rfl)
end Go.Proofs.YtolmkbojlpplfaaDoor
