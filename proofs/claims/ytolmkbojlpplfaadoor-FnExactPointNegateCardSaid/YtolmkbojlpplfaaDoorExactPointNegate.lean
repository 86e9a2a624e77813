/- The law FnExactPointNegate, with what its package variables hold tied to the program's text. No condition. -/
import Derived.Test.YtolmkbojlpplfaaDoorLift2
import Derived.Test.YtolmkbojlpplfaaDoorJoinp
import Derived.Test.YtolmkbojlpplfaaDoorLaw3
import Derived.Test.YtolmkbojlpplfaaDoorTbd
import Derived.Test.YtolmkbojlpplfaaDoorVv
import Derived.Test.YtolmkbojlpplfaaDoorCards
import Derived.Test.YtolmkbojlpplfaaDoorTie
import Derived.OpenVars
import Derived.Stop.Joined
import Derived.Test.YtolmkbojlpplfaaDoorPf
namespace Go.Proofs.YtolmkbojlpplfaaDoor
open Go Go.ChangeShapes Go.WideShapes Go.ChangeAt Go.RowKit
set_option linter.unusedVariables false
set_option linter.unusedSimpArgs false
set_option maxRecDepth 100000

noncomputable def ngT_ms : Ms := ⟨[⟨[.ptr 1 0], false⟩, ⟨(limbs 0), false⟩, ⟨[.ptr 3 0], false⟩, ⟨(limbs 1), false⟩, ⟨[.ptr 5 0], false⟩, ⟨(limbs 2), false⟩, ⟨(octsS 0 0 32), true⟩, ⟨(octsS 0 0 32), true⟩, ⟨(octsS 5 0 32), true⟩, ⟨(octsS 0 0 32), true⟩, ⟨(limbs 7 ++ limbs 8 ++ limbs 9 ++ limbs 10), true⟩, ⟨(limbs 11 ++ limbs 8 ++ limbs 9 ++ limbs 12), true⟩, ⟨[.ptr 10 0], true⟩, ⟨(octsS 5 0 32), true⟩, ⟨(octsS 0 0 32), true⟩, ⟨(octsS 12 0 32), true⟩, ⟨(wrdsS 6 0 4 ++ wrdsS 7 0 4 ++ [.int .u64 (.c 1), .int .u64 (.c 0), .int .u64 (.c 0), .int .u64 (.c 0)]), true⟩, ⟨(wrdsS 6 0 4 ++ wrdsS 7 0 4 ++ [.int .u64 (.c 1), .int .u64 (.c 0), .int .u64 (.c 0), .int .u64 (.c 0)]), true⟩, ⟨(wrdsS 10 0 4 ++ wrdsS 7 0 4 ++ [.int .u64 (.c 1), .int .u64 (.c 0), .int .u64 (.c 0), .int .u64 (.c 0)]), true⟩, ⟨(wrdsS 6 0 4), true⟩, ⟨(wrdsS 10 0 4), true⟩, ⟨[.int .u64 (.c 18446744073709551597), .int .u64 (.c 18446744073709551615), .int .u64 (.c 18446744073709551615), .int .u64 (.c 9223372036854775807)], true⟩, ⟨(octsS 12 0 32), true⟩], [.asm (.x 7) true, .db 7 (.eqs) (octX 5 0 32 ++ octX 12 0 32) [] [], .dn 12 (.fx "encN" encN) [] [] [10, 7, 11], .asm (.x 6) true, .db 6 (.fx "inP" inP) [] [10, 7, 11] [], .dn 11 (.ofw) [] [.c 1, .c 0, .c 0, .c 0] [], .dn 10 (.minus) [] [] [8, 6, 9], .dn 9 (.ofw) [] [.c 18446744073709551597, .c 18446744073709551615, .c 18446744073709551615, .c 9223372036854775807] [], .dn 8 (.ofw) [] [.c 0, .c 0, .c 0, .c 0] [], .dn 7 (.elem) [] [] [0], .dn 6 (.fx "dXf" dXf) [] [] [0], .asm (.x 5) true, .db 5 (.fx "ptf" ptf) [] [0] [], .dn 5 (.fx "encP" encP) [11, 8, 9] [] [], .asm (.x 4) true, .db 4 (.eql) [.w 4 0, .c 1] [] [], .dn 4 (.fx "iniN" iniN) [11, 8] [] [], .de 12 (.sub) [0, 10] [] [], .de 11 (.sub) [0, 7] [] [], .asm (.x 3) true, .db 3 (.eql) [.w 3 0, .c 1] [] [], .dn 3 (.fx "iniN" iniN) [7, 8] [] [], .de 10 (.fx "pTf" pTf) [] [] [0], .de 9 (.fx "pZf" pZf) [] [] [0], .de 8 (.fx "pYf" pYf) [] [] [0], .de 7 (.fx "pXf" pXf) [] [] [0], .asm (.x 2) true, .db 2 (.fx "ptf" ptf) [] [0] [], .asm (.x 1) true, .db 1 (.eql) [.w 2 0, .c 1] [] [], .dn 2 (.fx "isVf" isVf) [0, 1, 2] [] [], .de 6 (.fx "iTf" iTf) [] [] [], .de 5 (.fx "iZf" iZf) [] [] [], .de 4 (.fx "iYf" iYf) [] [] [], .de 3 (.fx "iXf" iXf) [] [] [], .asm (.x 0) true, .db 0 (.eql) [.w 1 0, .c 1] [] [], .dn 1 (.fx "isVf" isVf) [0, 1, 2] [] []], 0, 8, 13, 13, [true, true, true], [(0, 0), (2, 2), (1, 4)]⟩
theorem ngT_run : runOk (body tabQ 8 3) (msV 1 0 [true, true, true, true, true, true]) (argsN [.byt] 0 0) (.bool (.c true)) ngT_ms := ⟨by kernel_rfl, by kernel_rfl, by kernel_rfl, by kernel_rfl⟩
theorem ngT_math (ρ : Env) (hv : [ρ.e 0, ρ.e 1, ρ.e 2] = esV) (hp0 : ptB (ρ.n 0) = true) (hd : Defs ρ ngT_ms.tr) : Asms ρ ngT_ms.tr ∧ (Sb.c true).val ρ = true := by
  have f0 := fe_zero hv
  have a0 : ρ.b 0 = true := isv_t hv (Defs.get hd (j := 37) (e := .dn 1 (.fx "isVf" isVf) [0, 1, 2] [] []) (by kernel_rfl)) (Defs.get hd (j := 36) (e := .db 0 (.eql) [.w 1 0, .c 1] [] []) (by kernel_rfl))
  have c3 := co_id (k := 3) (Defs.get hd (j := 34) (e := .de 3 (.fx "iXf" iXf) [] [] []) (by kernel_rfl)) (Defs.get hd (j := 33) (e := .de 4 (.fx "iYf" iYf) [] [] []) (by kernel_rfl)) (Defs.get hd (j := 32) (e := .de 5 (.fx "iZf" iZf) [] [] []) (by kernel_rfl)) (Defs.get hd (j := 31) (e := .de 6 (.fx "iTf" iTf) [] [] []) (by kernel_rfl))
  have a1 : ρ.b 1 = true := isv_t hv (Defs.get hd (j := 30) (e := .dn 2 (.fx "isVf" isVf) [0, 1, 2] [] []) (by kernel_rfl)) (Defs.get hd (j := 29) (e := .db 1 (.eql) [.w 2 0, .c 1] [] []) (by kernel_rfl))
  have hd0 : decP (ρ.n 0) = decP (ρ.n 0) := rfl
  have a2 : ρ.b 2 = true := (pt_t (Defs.get hd (j := 27) (e := .db 2 (.fx "ptf" ptf) [] [0] []) (by kernel_rfl))).trans hp0
  have c7 := co_ps (k := 7) hp0 hd0 (Defs.get hd (j := 25) (e := .de 7 (.fx "pXf" pXf) [] [] [0]) (by kernel_rfl)) (Defs.get hd (j := 24) (e := .de 8 (.fx "pYf" pYf) [] [] [0]) (by kernel_rfl)) (Defs.get hd (j := 23) (e := .de 9 (.fx "pZf" pZf) [] [] [0]) (by kernel_rfl)) (Defs.get hd (j := 22) (e := .de 10 (.fx "pTf" pTf) [] [] [0]) (by kernel_rfl))
  have a3 : ρ.b 3 = true := ini_t (co_ne c7.1) (Defs.get hd (j := 21) (e := .dn 3 (.fx "iniN" iniN) [7, 8] [] []) (by kernel_rfl)) (Defs.get hd (j := 20) (e := .db 3 (.eql) [.w 3 0, .c 1] [] []) (by kernel_rfl))
  have f11 : (ρ.e 11).fe = (ρ.e 0).fe - (ρ.e 7).fe := by rw [show ρ.e 11 = subE (ρ.e 0) (ρ.e 7) from (Defs.get hd (j := 18) (e := .de 11 (.sub) [0, 7] [] []) (by kernel_rfl)), subE_fe]
  have f12 : (ρ.e 12).fe = (ρ.e 0).fe - (ρ.e 10).fe := by rw [show ρ.e 12 = subE (ρ.e 0) (ρ.e 10) from (Defs.get hd (j := 17) (e := .de 12 (.sub) [0, 10] [] []) (by kernel_rfl)), subE_fe]
  have c11 : Co4 (ρ.e 11).fe (ρ.e 8).fe (ρ.e 9).fe (ρ.e 12).fe ((decP (ρ.n 0)).neg) := by rw [f11, f12, f0]; exact co_neg c7
  have a4 : ρ.b 4 = true := ini_t (co_ne c11.1) (Defs.get hd (j := 16) (e := .dn 4 (.fx "iniN" iniN) [11, 8] [] []) (by kernel_rfl)) (Defs.get hd (j := 15) (e := .db 4 (.eql) [.w 4 0, .c 1] [] []) (by kernel_rfl))
  have e5 := e_encP (Defs.get hd (j := 13) (e := .dn 5 (.fx "encP" encP) [11, 8, 9] [] []) (by kernel_rfl)) c11.1
  have a5 : ρ.b 5 = true := (pt_t (Defs.get hd (j := 12) (e := .db 5 (.fx "ptf" ptf) [] [0] []) (by kernel_rfl))).trans hp0
  have v6 := v_dX (Defs.get hd (j := 10) (e := .dn 6 (.fx "dXf" dXf) [] [] [0]) (by kernel_rfl)) hp0 hd0
  have v7 := v_dY (Defs.get hd (j := 9) (e := .dn 7 (.elem) [] [] [0]) (by kernel_rfl)) hp0 hd0
  have v8 : ρ.n 8 = (0 : F).val := by rw [show ρ.n 8 = ofW [0, 0, 0, 0] from (Defs.get hd (j := 8) (e := .dn 8 (.ofw) [] [.c 0, .c 0, .c 0, .c 0] []) (by kernel_rfl))]; decide +kernel
  have v9 : ρ.n 9 % W4 = pP := by rw [show ρ.n 9 = ofW [18446744073709551597, 18446744073709551615, 18446744073709551615, 9223372036854775807] from (Defs.get hd (j := 7) (e := .dn 9 (.ofw) [] [.c 18446744073709551597, .c 18446744073709551615, .c 18446744073709551615, .c 9223372036854775807] []) (by kernel_rfl))]; decide +kernel
  have v10 := v_minus (Defs.get hd (j := 6) (e := .dn 10 (.minus) [] [] [8, 6, 9]) (by kernel_rfl)) v8 v6 v9
  have v11 : ρ.n 11 = (1 : F).val := by rw [show ρ.n 11 = ofW [1, 0, 0, 0] from (Defs.get hd (j := 5) (e := .dn 11 (.ofw) [] [.c 1, .c 0, .c 0, .c 0] []) (by kernel_rfl))]; decide +kernel
  have a6 : ρ.b 6 = true := inP_t (Defs.get hd (j := 4) (e := .db 6 (.fx "inP" inP) [] [10, 7, 11] []) (by kernel_rfl)) v10 v7 v11
  have e12 := e_encN (Defs.get hd (j := 2) (e := .dn 12 (.fx "encN" encN) [] [] [10, 7, 11]) (by kernel_rfl)) v10 v7 v11 (co_negN (co_pt rfl rfl rfl))
  have b7 := b_ee (Defs.get hd (j := 1) (e := .db 7 .eqs (octX 5 0 32 ++ octX 12 0 32) [] []) (by kernel_rfl)) e5 e12
  have a7 : ρ.b 7 = true := ee_t (Defs.get hd (j := 1) (e := .db 7 .eqs (octX 5 0 32 ++ octX 12 0 32) [] []) (by kernel_rfl)) e5 e12 (rfl)
  refine ⟨by simp only [ngT_ms, Asms, Ent.asn, Sb.val, a0, a1, a2, a3, a4, a5, a6, a7, and_true], ?_⟩
  rfl
noncomputable def ngF_ms : Ms := ⟨[⟨[.ptr 1 0], false⟩, ⟨(limbs 0), false⟩, ⟨[.ptr 3 0], false⟩, ⟨(limbs 1), false⟩, ⟨[.ptr 5 0], false⟩, ⟨(limbs 2), false⟩, ⟨(octsS 0 0 32), true⟩, ⟨(octsS 0 0 32), true⟩, ⟨[.int .u8 (.c 0), .int .u8 (.c 0), .int .u8 (.c 0), .int .u8 (.c 0), .int .u8 (.c 0), .int .u8 (.c 0), .int .u8 (.c 0), .int .u8 (.c 0), .int .u8 (.c 0), .int .u8 (.c 0), .int .u8 (.c 0), .int .u8 (.c 0), .int .u8 (.c 0), .int .u8 (.c 0), .int .u8 (.c 0), .int .u8 (.c 0), .int .u8 (.c 0), .int .u8 (.c 0), .int .u8 (.c 0), .int .u8 (.c 0), .int .u8 (.c 0), .int .u8 (.c 0), .int .u8 (.c 0), .int .u8 (.c 0), .int .u8 (.c 0), .int .u8 (.c 0), .int .u8 (.c 0), .int .u8 (.c 0), .int .u8 (.c 0), .int .u8 (.c 0), .int .u8 (.c 0), .int .u8 (.c 0)], true⟩, ⟨(octsS 0 0 32), true⟩, ⟨(limbs 3 ++ limbs 4 ++ limbs 5 ++ limbs 6), true⟩, ⟨[.int .u8 (.c 0), .int .u8 (.c 0), .int .u8 (.c 0), .int .u8 (.c 0), .int .u8 (.c 0), .int .u8 (.c 0), .int .u8 (.c 0), .int .u8 (.c 0), .int .u8 (.c 0), .int .u8 (.c 0), .int .u8 (.c 0), .int .u8 (.c 0), .int .u8 (.c 0), .int .u8 (.c 0), .int .u8 (.c 0), .int .u8 (.c 0), .int .u8 (.c 0), .int .u8 (.c 0), .int .u8 (.c 0), .int .u8 (.c 0), .int .u8 (.c 0), .int .u8 (.c 0), .int .u8 (.c 0), .int .u8 (.c 0), .int .u8 (.c 0), .int .u8 (.c 0), .int .u8 (.c 0), .int .u8 (.c 0), .int .u8 (.c 0), .int .u8 (.c 0), .int .u8 (.c 0), .int .u8 (.c 0)], true⟩, ⟨(octsS 0 0 32), true⟩, ⟨[.int .u8 (.c 0), .int .u8 (.c 0), .int .u8 (.c 0), .int .u8 (.c 0), .int .u8 (.c 0), .int .u8 (.c 0), .int .u8 (.c 0), .int .u8 (.c 0), .int .u8 (.c 0), .int .u8 (.c 0), .int .u8 (.c 0), .int .u8 (.c 0), .int .u8 (.c 0), .int .u8 (.c 0), .int .u8 (.c 0), .int .u8 (.c 0), .int .u8 (.c 0), .int .u8 (.c 0), .int .u8 (.c 0), .int .u8 (.c 0), .int .u8 (.c 0), .int .u8 (.c 0), .int .u8 (.c 0), .int .u8 (.c 0), .int .u8 (.c 0), .int .u8 (.c 0), .int .u8 (.c 0), .int .u8 (.c 0), .int .u8 (.c 0), .int .u8 (.c 0), .int .u8 (.c 0), .int .u8 (.c 0)], true⟩, ⟨[.int .u64 (.c 0), .int .u64 (.c 0), .int .u64 (.c 0), .int .u64 (.c 0), .int .u64 (.c 0), .int .u64 (.c 0), .int .u64 (.c 0), .int .u64 (.c 0), .int .u64 (.c 0), .int .u64 (.c 0), .int .u64 (.c 0), .int .u64 (.c 0)], true⟩, ⟨[.int .u8 (.c 0), .int .u8 (.c 0), .int .u8 (.c 0), .int .u8 (.c 0), .int .u8 (.c 0), .int .u8 (.c 0), .int .u8 (.c 0), .int .u8 (.c 0), .int .u8 (.c 0), .int .u8 (.c 0), .int .u8 (.c 0), .int .u8 (.c 0), .int .u8 (.c 0), .int .u8 (.c 0), .int .u8 (.c 0), .int .u8 (.c 0), .int .u8 (.c 0), .int .u8 (.c 0), .int .u8 (.c 0), .int .u8 (.c 0), .int .u8 (.c 0), .int .u8 (.c 0), .int .u8 (.c 0), .int .u8 (.c 0), .int .u8 (.c 0), .int .u8 (.c 0), .int .u8 (.c 0), .int .u8 (.c 0), .int .u8 (.c 0), .int .u8 (.c 0), .int .u8 (.c 0), .int .u8 (.c 0)], true⟩], [.asm (.x 3) false, .db 3 (.fx "ptf" ptf) [] [0] [], .asm (.x 2) false, .db 2 (.fx "ptf" ptf) [] [0] [], .asm (.x 1) true, .db 1 (.eql) [.w 2 0, .c 1] [] [], .dn 2 (.fx "isVf" isVf) [0, 1, 2] [] [], .de 6 (.fx "iTf" iTf) [] [] [], .de 5 (.fx "iZf" iZf) [] [] [], .de 4 (.fx "iYf" iYf) [] [] [], .de 3 (.fx "iXf" iXf) [] [] [], .asm (.x 0) true, .db 0 (.eql) [.w 1 0, .c 1] [] [], .dn 1 (.fx "isVf" isVf) [0, 1, 2] [] []], 0, 4, 7, 3, [], [(0, 0), (2, 2), (1, 4)]⟩
theorem ngF_run : runOk (body tabQ 8 3) (msV 1 0 [false, false]) (argsN [.byt] 0 0) (.bool (.c true)) ngF_ms := ⟨by kernel_rfl, by kernel_rfl, by kernel_rfl, by kernel_rfl⟩
theorem ngF_math (ρ : Env) (hv : [ρ.e 0, ρ.e 1, ρ.e 2] = esV) (hf0 : ptB (ρ.n 0) = false) (hd : Defs ρ ngF_ms.tr) : Asms ρ ngF_ms.tr ∧ (Sb.c true).val ρ = true := by
  have f0 := fe_zero hv
  have a0 : ρ.b 0 = true := isv_t hv (Defs.get hd (j := 13) (e := .dn 1 (.fx "isVf" isVf) [0, 1, 2] [] []) (by kernel_rfl)) (Defs.get hd (j := 12) (e := .db 0 (.eql) [.w 1 0, .c 1] [] []) (by kernel_rfl))
  have c3 := co_id (k := 3) (Defs.get hd (j := 10) (e := .de 3 (.fx "iXf" iXf) [] [] []) (by kernel_rfl)) (Defs.get hd (j := 9) (e := .de 4 (.fx "iYf" iYf) [] [] []) (by kernel_rfl)) (Defs.get hd (j := 8) (e := .de 5 (.fx "iZf" iZf) [] [] []) (by kernel_rfl)) (Defs.get hd (j := 7) (e := .de 6 (.fx "iTf" iTf) [] [] []) (by kernel_rfl))
  have a1 : ρ.b 1 = true := isv_t hv (Defs.get hd (j := 6) (e := .dn 2 (.fx "isVf" isVf) [0, 1, 2] [] []) (by kernel_rfl)) (Defs.get hd (j := 5) (e := .db 1 (.eql) [.w 2 0, .c 1] [] []) (by kernel_rfl))
  have a2 : ρ.b 2 = false := (pt_t (Defs.get hd (j := 3) (e := .db 2 (.fx "ptf" ptf) [] [0] []) (by kernel_rfl))).trans hf0
  have a3 : ρ.b 3 = false := (pt_t (Defs.get hd (j := 1) (e := .db 3 (.fx "ptf" ptf) [] [0] []) (by kernel_rfl))).trans hf0
  refine ⟨by simp only [ngF_ms, Asms, Ent.asn, Sb.val, a0, a1, a2, a3, and_true], ?_⟩
  rfl

theorem ngX_c (N0 : Nat) (W : World) (hL : laidMet Tryd.prog laidV W) : Invokes Tryd.prog 3 #[bytesV N0] W fun r w' => r = .bool true ∧ Fr (fun _ _ => False) W w' := by
  have hf : NFits [.byt] [N0] [] [bytesV N0] := by simp [NFits]
  cases h0 : ptB N0 with
  | true => exact runV tabQ_ok ngT_run hf (fun ρ ha hd => ngT_math ρ (hvV ha) (by rw [show ρ.n 0 = N0 from ha.n 0 (by decide)]; exact h0) hd) W hL
  | false => exact runV tabQ_ok ngF_run hf (fun ρ ha hd => ngF_math ρ (hvV ha) (by rw [show ρ.n 0 = N0 from ha.n 0 (by decide)]; exact h0) hd) W hL

theorem ngX_met (os : Os) (args : Array Value) : laidMetH Tryd.prog Rows.fnExactPointNegateRow.laid ((World.doorLaid Tryd.prog 400 os).forCall (fun _ _ => 0) ⟨#[], args, []⟩).memory :=
  laidMetH_of_parts3 (fuel := 8) (laidMet_of_run' 8 (by kernel_rfl) (by kernel_rfl)) (by kernel_rfl) (by kernel_rfl)
theorem ngX_lifted (os : Os) (started : os.Started) (H : Type) (enc : TypeId × Value → H) :
    ReturnsInHanded {} Tryd.checked os 3 .any (fun w args => (Rows.fnExactPointNegateSpec.pre enc Tryd.prog Tryd.f3 [] false w args ∧ laidMetH Tryd.prog Rows.fnExactPointNegateRow.laid w) ∧ sizedMet enc Tryd.prog Tryd.f3 (OpenSpec.ofChange Rows.fnExactPointNegateSpec) false w args)
      (Rows.fnExactPointNegateSpec.post enc Tryd.prog Tryd.f3 false true false false) := by
  refine returnsInHanded_of_change_and (C := Tryd.checked) (X := fun w _ => laidMetH Tryd.prog Rows.fnExactPointNegateRow.laid w) (fun _ _ _ hh h => h.of_heap hh) own_ok started (by kernel_rfl) Tryd.func3
    (ChangeSpec.witness_shaped (enc := enc) (C := Tryd.checked) (os := os) (X := fun w _ => laidMetH Tryd.prog Rows.fnExactPointNegateRow.laid w) false (World.doorLaid Tryd.prog 400 os) #[bytesV 0] 8 rfl (World.shaped_of_RefB (by kernel_rfl) (by kernel_rfl)) (by kernel_rfl) (by kernel_rfl) (by kernel_rfl) (ngX_met os _)) ?_
  intro W base args ds gs before hval0 hW _ _ hL _
  have hval : ∀ (j : Nat) t v, Tryd.f3.params[j]? = some t → args[j]? = some v → Value.okWide Tryd.prog W .any base t v := hval0
  have hW' := hW
  obtain ⟨p, q, hA0, hV0, rfl, hfz, hnd⟩ := hW
  have hA : DataW.TrodAll enc Tryd.prog W 0 (fun _ => true) true Tryd.f3.params.toList args.toList ds p := hA0
  have hV : DataW.TrodVars enc Tryd.prog W (fun _ => true) Rows.fnExactPointNegateSpec.vars gs q := hV0
  rw [Tryd.params3] at hA hval
  obtain ⟨v0, vs0, d0, ds0, p0, q0, hargs, rfl, rfl, h0, r0⟩ := trodAll_cons hA
  obtain ⟨rfl, rfl, rfl⟩ := trodAll_nil r0
  obtain rfl : args = #[v0] := by cases args; simp_all
  obtain ⟨g0, g1, g2, rfl⟩ : ∃ g0 g1 g2, gs = [g0, g1, g2] := by
    exact vars_three hV
  obtain ⟨N0, _, rfl⟩ := open_bytes (hval 0 22 v0 rfl rfl) h0
  have lt0 : ∀ x ∈ p0, x.block < W.heap.size := by obtain ⟨m, hm⟩ := h0; exact DataW.trod_lt m _ _ _ hm
  clear hA0 hval0
  rw [MakeChecks.laidMetH_plain _ _ _ (by kernel_rfl)] at hL
  have hL' : laidMet Tryd.prog laidV W := hL
  refine (calls_of (by kernel_rfl) (ngX_c N0 W hL')).mono fun e W' ⟨v, he, hb, hf⟩ => ?_
  subst he
  subst hb
  have bel := hf.below
  exact ⟨_, rfl, _, _, _, [], _, _, hW', trodAll_mk1 (shut_bool under4 _), (trodAll_cons_mk (Below.trod laid_ok (by kernel_rfl) (of_decide_eq_true (by kernel_rfl)) h0 bel lt0) trodAll_mk0), Below.trodVars laid_ok bel (by kernel_rfl) hV, bel.frame _, fun h => by cases h⟩

theorem ngX_named : Tryd.pinned.checked.prog.funcNamed Rows.fnExactPointNegateRow.func = some 3 := by kernel_rfl
theorem ngX_k1 : (Rows.fnExactPointNegateRow.wf (OpenSpec.ofChange Rows.fnExactPointNegateSpec) && laidOutB Tryd.prog && mapsRowed Tryd.prog && Tryd.f3.params.all (Tryd.prog.readableRec ·) && namedTie Tryd.prog Rows.fnExactPointNegateRow.named Rows.fnExactPointNegateSpec.vars) = true := by kernel_rfl
theorem ngX_k2 : ((Rows.fnExactPointNegateRow.stops == []) && (Tryd.prog.stops == []) && (Rows.fnExactPointNegateRow.knobs == []) && (Tryd.prog.stopKnobs == [])) = true := by kernel_rfl
theorem ngX_k3 : (Rows.fnExactPointNegateRow.inPlace == Tryd.prog.inPlace 3) = true := by kernel_rfl
theorem ngX_k4 : (Rows.fnExactPointNegateRow.unfollowed == Tryd.prog.unfollowed 3) = true := by kernel_rfl
theorem ngX_k5 : (Rows.fnExactPointNegateRow.recurses == Tryd.prog.recurses 3) = true := by kernel_rfl
theorem ngX_k6 : (Rows.fnExactPointNegateRow.named == Tryd.prog.varsNamed 3) = true := by kernel_rfl
theorem ngX_k7 : ((Rows.fnExactPointNegateRow.maps == (Tryd.f3.params.toList ++ Rows.fnExactPointNegateSpec.plain.varTypes Tryd.prog).any (Tryd.prog.mapsRec ·)) && (Rows.fnExactPointNegateRow.ifaces == (Tryd.f3.params.toList ++ Rows.fnExactPointNegateSpec.plain.varTypes Tryd.prog).any (Tryd.prog.ifacesRec ·)) && (Rows.fnExactPointNegateRow.mapsOut == Tryd.prog.mapsAmong Tryd.f3.resultTypes.toList) && (Rows.fnExactPointNegateRow.loops == (Tryd.f3.params.toList ++ Rows.fnExactPointNegateSpec.plain.varTypes Tryd.prog).any (Tryd.prog.loopsFrom ·)) && (Rows.fnExactPointNegateRow.wideKeys == (Tryd.f3.params.toList ++ Rows.fnExactPointNegateSpec.plain.varTypes Tryd.prog ++ Tryd.f3.resultTypes.toList).any (Tryd.prog.wideKeysFrom ·))) = true := by kernel_rfl
theorem ngX_k8 : (Rows.fnExactPointNegateSpec.vars.all (Tryd.prog.varReadable ·) && Tryd.f3.resultTypes.all (fun t => Tryd.prog.readableRec t && decide (t < Tryd.prog.types.size)) && (Rows.fnExactPointNegateRow.ifacesOut == Tryd.f3.resultTypes.toList.any (Tryd.prog.ifacesRec ·)) && (Rows.fnExactPointNegateRow.loopsOut == Tryd.f3.resultTypes.toList.any (Tryd.prog.loopsFrom ·)) && (Rows.fnExactPointNegateRow.plainKeys == Tryd.prog.plainKeys) && Rows.fnExactPointNegateRow.shortTexts.isNone && Tryd.prog.stopsHeard) = true := by kernel_rfl
theorem ngX_k9 : ((Rows.fnExactPointNegateRow.kinds == (if Rows.fnExactPointNegateRow.domain.isEmpty then [] else Tryd.f3.params.toList.map fun t => match Tryd.prog.underlying t with | some (.int k) => some k | _ => none)) && (Rows.fnExactPointNegateRow.pinned == Rows.fnExactPointNegateRow.pinnedBy)) = true := by kernel_rfl
theorem ngX_k10 : ((Rows.fnExactPointNegateRow.veiled == (Tryd.f3.params.toList ++ Rows.fnExactPointNegateSpec.plain.varTypes Tryd.prog ++ Tryd.f3.resultTypes.toList).any (Tryd.prog.veiledRec ·)) && Rows.fnExactPointNegateRow.veiledFits Tryd.prog Tryd.f3.params.toList (Tryd.f3.params.toList ++ Rows.fnExactPointNegateSpec.plain.varTypes Tryd.prog ++ Tryd.f3.resultTypes.toList)) = true := by kernel_rfl
theorem ngX_holds : Rows.FnExactPointNegateSaid :=
  OpenClaim.holds_of_wide 3 Tryd.f3 rfl rfl rfl rfl rfl rfl rfl ⟨rfl, rfl, rfl, rfl, rfl⟩ rfl rfl rfl rfl rfl ngX_named Tryd.func3
    (joined_of mayEnter_ok lifts_ok make_ok rfl rfl ngX_k1 ngX_k2 ngX_k3 ngX_k4 ngX_k5 ngX_k6 ngX_k7 ngX_k8 ngX_k9 ngX_k10)
    (of_decide_eq_true (by kernel_rfl)) (by unfold Func.isWrapper; first | (rw [if_pos (by decide +kernel)]; kernel_rfl) | (rw [if_neg (by decide +kernel)]; exact ⟨rfl, rfl⟩))
    (fun os started H enc _ => ngX_lifted os started H enc)
theorem ngX_stand (j : Nat) (t : TypeId) (ht : Tryd.f3.params[j]? = some t) : Tryd.prog.wantsStandIn t = false := by
  rw [Tryd.params3] at ht
  match j, ht with
  | 0, ht => obtain rfl : 22 = t := Option.some.inj ht; exact (show Tryd.prog.wantsStandIn 22 = false by kernel_rfl)
  | j + 1, ht => simp at ht
/-- The tied card. -/
theorem ngX_card : Rows.FnExactPointNegateCardSaid :=
  Claim7.holds_tied_plain_at .later [] [.widerDeep, .widerDeep, .widerDeep] true (true, "6e5399b3dacc77f24a64d83cce517e1d6c1168836c0ca0a600446d7d5350a287") false
    ngX_holds (fun _ h => by cases h) (by kernel_rfl) (fun _ h => by cases h) fnExactPointNegate_row_tie rfl ⟨rfl, rfl⟩ (by kernel_rfl) rfl
    (fun f fn hf hfn => by
      obtain rfl : f = 3 := Option.some.inj ((show Tryd.prog.funcNamed Rows.fnExactPointNegateRow.func = some 3 by kernel_rfl).symm.trans hf) |>.symm
      obtain rfl : fn = Tryd.f3 := (Option.some.inj (Tryd.func3.symm.trans hfn)).symm
      exact ⟨by kernel_rfl, ngX_stand⟩)
    (by kernel_rfl)
end Go.Proofs.YtolmkbojlpplfaaDoor
