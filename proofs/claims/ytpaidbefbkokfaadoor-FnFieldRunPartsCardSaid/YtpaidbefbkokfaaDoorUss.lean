/- fieldUses and isRegister as rules. No condition. -/
import Derived.Test.YtpaidbefbkokfaaDoorStq
import Derived.Test.YtpaidbefbkokfaaDoorFr2
namespace Go.Proofs.YtpaidbefbkokfaaDoor
open Go Go.RowKit
set_option linter.unusedVariables false
set_option linter.unusedSimpArgs false
set_option maxRecDepth 100000

def isKf : List Int → List Nat → List Bool → Bool
  | [k], _, _ => isK k
  | _, _, _ => false
def usXf : List Int → List Nat → List Bool → Bool
  | [k], _, _ => usX k
  | _, _, _ => false
def usYf : List Int → List Nat → List Bool → Bool
  | [k], _, _ => usY k
  | _, _, _ => false
def regF : List Int → List Nat → List Bool → Bool
  | [i, n], _, _ => decide (0 ≤ i) && decide (i < n)
  | _, _, _ => false
def us0_ms : Ms := ⟨[], [], 0, 0, 0, 0, [], []⟩
theorem us0_run : runOk (body tabB 1 7) (msP 0 0 []) ([.int .i64 (.c 0)]) (.tuple [.bool (.c true), .bool (.c true), .bool (.c true)]) us0_ms := ⟨by kernel_rfl, by kernel_rfl, by kernel_rfl, by kernel_rfl⟩
def us1_ms : Ms := ⟨[], [], 0, 0, 0, 0, [], []⟩
theorem us1_run : runOk (body tabB 1 7) (msP 0 0 []) ([.int .i64 (.c 1)]) (.tuple [.bool (.c true), .bool (.c true), .bool (.c true)]) us1_ms := ⟨by kernel_rfl, by kernel_rfl, by kernel_rfl, by kernel_rfl⟩
def us2_ms : Ms := ⟨[], [], 0, 0, 0, 0, [], []⟩
theorem us2_run : runOk (body tabB 1 7) (msP 0 0 []) ([.int .i64 (.c 2)]) (.tuple [.bool (.c true), .bool (.c true), .bool (.c true)]) us2_ms := ⟨by kernel_rfl, by kernel_rfl, by kernel_rfl, by kernel_rfl⟩
def us3_ms : Ms := ⟨[], [], 0, 0, 0, 0, [], []⟩
theorem us3_run : runOk (body tabB 1 7) (msP 0 0 []) ([.int .i64 (.c 3)]) (.tuple [.bool (.c true), .bool (.c true), .bool (.c false)]) us3_ms := ⟨by kernel_rfl, by kernel_rfl, by kernel_rfl, by kernel_rfl⟩
def us4_ms : Ms := ⟨[], [], 0, 0, 0, 0, [], []⟩
theorem us4_run : runOk (body tabB 1 7) (msP 0 0 []) ([.int .i64 (.c 4)]) (.tuple [.bool (.c true), .bool (.c true), .bool (.c false)]) us4_ms := ⟨by kernel_rfl, by kernel_rfl, by kernel_rfl, by kernel_rfl⟩
def us5_ms : Ms := ⟨[], [], 0, 0, 0, 0, [], []⟩
theorem us5_run : runOk (body tabB 1 7) (msP 0 0 []) ([.int .i64 (.c 5)]) (.tuple [.bool (.c true), .bool (.c true), .bool (.c false)]) us5_ms := ⟨by kernel_rfl, by kernel_rfl, by kernel_rfl, by kernel_rfl⟩
def us6_ms : Ms := ⟨[], [], 0, 0, 0, 0, [], []⟩
theorem us6_run : runOk (body tabB 1 7) (msP 0 0 []) ([.int .i64 (.c 6)]) (.tuple [.bool (.c true), .bool (.c true), .bool (.c false)]) us6_ms := ⟨by kernel_rfl, by kernel_rfl, by kernel_rfl, by kernel_rfl⟩
def us7_ms : Ms := ⟨[], [], 0, 0, 0, 0, [], []⟩
theorem us7_run : runOk (body tabB 1 7) (msP 0 0 []) ([.int .i64 (.c 7)]) (.tuple [.bool (.c true), .bool (.c true), .bool (.c false)]) us7_ms := ⟨by kernel_rfl, by kernel_rfl, by kernel_rfl, by kernel_rfl⟩
def us8_ms : Ms := ⟨[], [], 0, 0, 0, 0, [], []⟩
theorem us8_run : runOk (body tabB 1 7) (msP 0 0 []) ([.int .i64 (.c 8)]) (.tuple [.bool (.c true), .bool (.c true), .bool (.c false)]) us8_ms := ⟨by kernel_rfl, by kernel_rfl, by kernel_rfl, by kernel_rfl⟩
def us9_ms : Ms := ⟨[], [], 0, 0, 0, 0, [], []⟩
theorem us9_run : runOk (body tabB 1 7) (msP 0 0 []) ([.int .i64 (.c 9)]) (.tuple [.bool (.c true), .bool (.c true), .bool (.c true)]) us9_ms := ⟨by kernel_rfl, by kernel_rfl, by kernel_rfl, by kernel_rfl⟩
def us10_ms : Ms := ⟨[], [], 0, 0, 0, 0, [], []⟩
theorem us10_run : runOk (body tabB 1 7) (msP 0 0 []) ([.int .i64 (.c 10)]) (.tuple [.bool (.c true), .bool (.c true), .bool (.c true)]) us10_ms := ⟨by kernel_rfl, by kernel_rfl, by kernel_rfl, by kernel_rfl⟩
def us11_ms : Ms := ⟨[], [], 0, 0, 0, 0, [], []⟩
theorem us11_run : runOk (body tabB 1 7) (msP 0 0 []) ([.int .i64 (.c 11)]) (.tuple [.bool (.c true), .bool (.c true), .bool (.c false)]) us11_ms := ⟨by kernel_rfl, by kernel_rfl, by kernel_rfl, by kernel_rfl⟩
def us12_ms : Ms := ⟨[], [], 0, 0, 0, 0, [], []⟩
theorem us12_run : runOk (body tabB 1 7) (msP 0 0 []) ([.int .i64 (.c 12)]) (.tuple [.bool (.c true), .bool (.c true), .bool (.c false)]) us12_ms := ⟨by kernel_rfl, by kernel_rfl, by kernel_rfl, by kernel_rfl⟩
def us13_ms : Ms := ⟨[], [], 0, 0, 0, 0, [], []⟩
theorem us13_run : runOk (body tabB 1 7) (msP 0 0 []) ([.int .i64 (.c 13)]) (.tuple [.bool (.c true), .bool (.c false), .bool (.c false)]) us13_ms := ⟨by kernel_rfl, by kernel_rfl, by kernel_rfl, by kernel_rfl⟩
def us14_ms : Ms := ⟨[], [], 0, 0, 0, 0, [], []⟩
theorem us14_run : runOk (body tabB 1 7) (msP 0 0 []) ([.int .i64 (.c 14)]) (.tuple [.bool (.c true), .bool (.c false), .bool (.c false)]) us14_ms := ⟨by kernel_rfl, by kernel_rfl, by kernel_rfl, by kernel_rfl⟩
def us15_ms : Ms := ⟨[], [], 0, 0, 0, 0, [], []⟩
theorem us15_run : runOk (body tabB 1 7) (msP 0 0 []) ([.int .i64 (.c 15)]) (.tuple [.bool (.c true), .bool (.c true), .bool (.c false)]) us15_ms := ⟨by kernel_rfl, by kernel_rfl, by kernel_rfl, by kernel_rfl⟩
def usN_ms : Ms := ⟨[], [.asm (.x 15) false, .db 15 (.eql) [.x 0, .c 14] [] [], .asm (.x 14) false, .db 14 (.eql) [.x 0, .c 13] [] [], .asm (.x 13) false, .db 13 (.eql) [.x 0, .c 15] [] [], .asm (.x 12) false, .db 12 (.eql) [.x 0, .c 12] [] [], .asm (.x 11) false, .db 11 (.eql) [.x 0, .c 11] [] [], .asm (.x 10) false, .db 10 (.eql) [.x 0, .c 8] [] [], .asm (.x 9) false, .db 9 (.eql) [.x 0, .c 7] [] [], .asm (.x 8) false, .db 8 (.eql) [.x 0, .c 6] [] [], .asm (.x 7) false, .db 7 (.eql) [.x 0, .c 5] [] [], .asm (.x 6) false, .db 6 (.eql) [.x 0, .c 4] [] [], .asm (.x 5) false, .db 5 (.eql) [.x 0, .c 3] [] [], .asm (.x 4) false, .db 4 (.eql) [.x 0, .c 10] [] [], .asm (.x 3) false, .db 3 (.eql) [.x 0, .c 9] [] [], .asm (.x 2) false, .db 2 (.eql) [.x 0, .c 2] [] [], .asm (.x 1) false, .db 1 (.eql) [.x 0, .c 1] [] [], .asm (.x 0) false, .db 0 (.eql) [.x 0, .c 0] [] []], 1, 16, 0, 0, [false], []⟩
theorem usN_run : runOk (body tabB 1 7) (msP 0 1 (List.replicate 17 false)) (argsN [.int .i64] 0 0) (.tuple [.bool (.c false), .bool (.c false), .bool (.c false)]) usN_ms := ⟨by kernel_rfl, by kernel_rfl, by kernel_rfl, by kernel_rfl⟩
def isT_ms : Ms := ⟨[], [.db 1 (.lss) [.x 0, .x 1] [] [], .asm (.x 0) true, .db 0 (.geq) [.x 0, .c 0] [] []], 2, 2, 0, 0, [], []⟩
theorem isT_run : runOk (body tabB 1 8) (msP 0 2 [true]) (argsN [.int .i64, .int .i64] 0 0) (.bool (.x 1)) isT_ms := ⟨by kernel_rfl, by kernel_rfl, by kernel_rfl, by kernel_rfl⟩
def isF_ms : Ms := ⟨[], [.asm (.x 0) false, .db 0 (.geq) [.x 0, .c 0] [] []], 2, 1, 0, 0, [], []⟩
theorem isF_run : runOk (body tabB 1 8) (msP 0 2 [false]) (argsN [.int .i64, .int .i64] 0 0) (.bool (.c false)) isF_ms := ⟨by kernel_rfl, by kernel_rfl, by kernel_rfl, by kernel_rfl⟩
theorem us_const {k : Int} {x y z : Bool} {ms' : Ms} (h : runOk (body tabB 1 7) (msP 0 0 []) [.int .i64 (.c k)] (.tuple [.bool (.c x), .bool (.c y), .bool (.c z)]) ms') (ht : ms'.tr = []) (hk : inR .i64 k) (w : World) :
    Invokes Tryd.prog 7 #[.int .i64 k] w fun v w' => v = .tuple #[.bool x, .bool y, .bool z] ∧ Fr (fun _ _ => False) w w' := by
  have hv : VRels (envN [] []) (fun _ => none) [.int .i64 (.c k)] [.int .i64 k] := by
    simp only [VRels, VRel]
    exact ⟨_, _, rfl, ⟨rfl, hk⟩, rfl⟩
  refine (run_calls (body_ok tabB_ok 1 _) h MRep.none (fun g c hgc => by simp [msP] at hgc) hv fun ρ' ha hd => by rw [ht]; trivial).mono ?_
  rintro v w' ⟨ρ', α', ha, hd, _, hv, hm⟩
  refine ⟨?_, hm.fr⟩
  simp only [VRel, VRels, Sb.val] at hv
  obtain ⟨us, rfl, u0, t0, rfl, rfl, u1, t1, rfl, rfl, u2, t2, rfl, rfl, rfl⟩ := hv
  rfl
theorem use_c : NumC Tryd.prog 7 [.int .i64] [.bool (.fx "isKf" isKf), .bool (.fx "usXf" usXf), .bool (.fx "usYf" usYf)] .tup (fun _ _ => True) := by
  intro w ns xs vs hf _
  refine ⟨fun r hr => by simp only [List.mem_cons, List.not_mem_nil, or_false] at hr; rcases hr with rfl | rfl | rfl <;> trivial, ?_⟩
  obtain ⟨k, rfl, rfl, rfl, hk⟩ : ∃ k, ns = [] ∧ xs = [k] ∧ vs = [.int .i64 k] ∧ inR .i64 k := by
    match ns, xs, hf with
    | [], [k], h => simp only [NFits] at h; obtain ⟨us, rfl, h1, rfl⟩ := h; exact ⟨k, rfl, rfl, rfl, h1⟩
    | [], [], h => simp [NFits] at h
    | [], _ :: _ :: _, h => simp [NFits] at h
    | _ :: _, xs, h => cases xs <;> simp [NFits] at h
  have goal : shape .tup ([NR.bool (.fx "isKf" isKf), NR.bool (.fx "usXf" usXf), NR.bool (.fx "usYf" usYf)].map (NR.val [] [k])) = .tuple #[.bool (isK k), .bool (usX k), .bool (usY k)] := rfl
  rw [goal]
  by_cases hk' : k = 0 ∨ k = 1 ∨ k = 2 ∨ k = 3 ∨ k = 4 ∨ k = 5 ∨ k = 6 ∨ k = 7 ∨ k = 8 ∨ k = 9 ∨ k = 10 ∨ k = 11 ∨ k = 12 ∨ k = 13 ∨ k = 14 ∨ k = 15
  · rcases hk' with rfl | rfl | rfl | rfl | rfl | rfl | rfl | rfl | rfl | rfl | rfl | rfl | rfl | rfl | rfl | rfl
    · exact us_const us0_run rfl hk w
    · exact us_const us1_run rfl hk w
    · exact us_const us2_run rfl hk w
    · exact us_const us3_run rfl hk w
    · exact us_const us4_run rfl hk w
    · exact us_const us5_run rfl hk w
    · exact us_const us6_run rfl hk w
    · exact us_const us7_run rfl hk w
    · exact us_const us8_run rfl hk w
    · exact us_const us9_run rfl hk w
    · exact us_const us10_run rfl hk w
    · exact us_const us11_run rfl hk w
    · exact us_const us12_run rfl hk w
    · exact us_const us13_run rfl hk w
    · exact us_const us14_run rfl hk w
    · exact us_const us15_run rfl hk w
  · have e1 : isK k = false := by simp only [isK]; exact decide_eq_false (by omega)
    have e2 : usX k = false := by simp only [usX, Bool.or_eq_false_iff, decide_eq_false_iff_not]; omega
    have e3 : usY k = false := by simp only [usY, Bool.or_eq_false_iff, decide_eq_false_iff_not]; omega
    rw [e1, e2, e3]
    refine num_of_run (body_ok tabB_ok 1 _) usN_run hf (fun ρ ha hd => ⟨?_, fun α v hv => ?_⟩) w
    · have i0 : ρ.i 0 = k := ha.i 0 (by decide)
      simp only [usN_ms, Defs, Ent.def, Fb.sem, List.map_cons, List.map_nil, Sx.val, and_true, true_and, i0] at hd
      simp only [usN_ms, Asms, Ent.asn, Sb.val, and_true, true_and]
      obtain ⟨d15, d14, d13, d12, d11, d10, d9, d8, d7, d6, d5, d4, d3, d2, d1, d0⟩ := hd
      simp only [d0, d1, d2, d3, d4, d5, d6, d7, d8, d9, d10, d11, d12, d13, d14, d15, beq_eq_false_iff_ne, ne_eq]
      omega
    · simp only [VRel, VRels, Sb.val] at hv
      obtain ⟨us, rfl, u0, t0, rfl, rfl, u1, t1, rfl, rfl, u2, t2, rfl, rfl, rfl⟩ := hv
      rfl
theorem reg_c : NumC Tryd.prog 8 [.int .i64, .int .i64] [.bool (.fx "regF" regF)] .one (fun _ _ => True) := by
  intro w ns xs vs hf _
  refine ⟨fun r hr => by simp at hr; subst hr; trivial, ?_⟩
  obtain ⟨i, n, rfl, rfl⟩ : ∃ i n, ns = [] ∧ xs = [i, n] := by
    match ns, xs, hf with
    | [], [i, n], h => exact ⟨i, n, rfl, rfl⟩
    | [], [], h => simp [NFits] at h
    | [], [_], h => simp [NFits] at h
    | [], _ :: _ :: _ :: _, h => simp [NFits] at h
    | _ :: _, [], h => simp [NFits] at h
    | _ :: _, [_], h => simp [NFits] at h
    | _ :: _, [_, _], h => simp [NFits] at h
    | _ :: _, _ :: _ :: _ :: _, h => simp [NFits] at h
  have goal : shape .one ([NR.bool (.fx "regF" regF)].map (NR.val [] [i, n])) = .bool (decide (0 ≤ i) && decide (i < n)) := rfl
  rw [goal]
  by_cases h0 : 0 ≤ i
  · refine num_of_run (body_ok tabB_ok 1 _) isT_run hf (fun ρ ha hd => ⟨?_, fun α v hv => ?_⟩) w
    · have i0 : ρ.i 0 = i := ha.i 0 (by decide)
      simp only [isT_ms, Defs, Ent.def, Fb.sem, List.map_cons, List.map_nil, Sx.val, and_true, true_and, i0] at hd
      simp only [isT_ms, Asms, Ent.asn, Sb.val, and_true, true_and]
      rw [hd.2]; exact decide_eq_true h0
    · have i0 : ρ.i 0 = i := ha.i 0 (by decide)
      have i1 : ρ.i 1 = n := ha.i 1 (by decide)
      simp only [isT_ms, Defs, Ent.def, Fb.sem, List.map_cons, List.map_nil, Sx.val, and_true, true_and, i0, i1] at hd
      simp only [VRel, Sb.val] at hv
      rw [hv, hd.1, decide_eq_true h0, Bool.true_and]
  · refine num_of_run (body_ok tabB_ok 1 _) isF_run hf (fun ρ ha hd => ⟨?_, fun α v hv => ?_⟩) w
    · have i0 : ρ.i 0 = i := ha.i 0 (by decide)
      simp only [isF_ms, Defs, Ent.def, Fb.sem, List.map_cons, List.map_nil, Sx.val, and_true, true_and, i0] at hd
      simp only [isF_ms, Asms, Ent.asn, Sb.val, and_true, true_and]
      rw [hd]; exact decide_eq_false h0
    · simp only [VRel, Sb.val] at hv
      rw [hv, decide_eq_false h0, Bool.false_and]
def tabU : List (Nat × Rule) := (7, numRule [.int .i64] [.bool (.fx "isKf" isKf), .bool (.fx "usXf" usXf), .bool (.fx "usYf" usYf)] .tup noChkN) :: (8, numRule [.int .i64, .int .i64] [.bool (.fx "regF" regF)] .one noChkN) :: tabW6
theorem tabU_ok : TabOk tabU := .cons (numRule_ok use_c fun _ _ _ _ _ _ => trivial) (.cons (numRule_ok reg_c fun _ _ _ _ _ _ => trivial) tabW6_ok)
end Go.Proofs.YtpaidbefbkokfaaDoor
