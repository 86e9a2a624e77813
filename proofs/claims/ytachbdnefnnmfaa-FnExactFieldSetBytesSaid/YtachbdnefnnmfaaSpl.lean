/- squares, lower and compareBytes: loops over numbers. No condition. -/
import Derived.Test.YtachbdnefnnmfaaSpc
import Derived.Test.YtachbdnefnnmfaaSb
namespace Go.Proofs.Ytachbdnefnnmfaa
open Go Go.RowKit
set_option linter.unusedVariables false
set_option linter.unusedSimpArgs false
set_option maxRecDepth 100000

def tabT : List (Nat × Rule) := (59, numRule [.num, .num, .num] [.num .times] .one noChkN) :: (48, octRule) :: tabP
theorem tabT_ok : TabOk tabT := .cons (numRule_ok times_c fun _ _ _ _ _ _ => trivial) (.cons (octRule_ok oct_c) tabP_ok)

/-! ### squares -/
def sqsH : Tm := tmS 6 [(1, .int .i64 (.x 0)), (2, .ptr 0 0), (4, .ptr 1 0), (5, .int .i64 (.x 1))]
def sqsM (o : List Bool) : Ms := ⟨[⟨wrdsS 0 0 4, true⟩, ⟨anys 4, true⟩], [], 2, 0, 0, 1, o, []⟩
def sqs0_tr : List Ent := []
def sqs0_ob : List Ob := [.i (.x 0) (.x 0), .i (.x 1) (.c 0), .i (.w 0 0) (.w 0 0), .i (.w 0 1) (.w 0 1), .i (.w 0 2) (.w 0 2), .i (.w 0 3) (.w 0 3)]
theorem sqs0_run : runTo Try.prog (RR tabT 1) 16 (prL Try.prog 56) (argsTm (Tm.full 12) 0 (argsN [.num, .int .i64] 0 0)) (msP 1 1 []) (sqsH) (sqsM []) = some (.normal, sqs0_tr, sqs0_ob) := by kernel_rfl
def sqsX_tr : List Ent := [.asm (.x 0) false, .db 0 (.lss) [.x 1, .x 0] [] []]
def sqsX_ob : List Ob := [.i (.x 0) (.x 0), .i (.x 1) (.x 1), .i (.w 0 0) (.w 0 0), .i (.w 0 1) (.w 0 1), .i (.w 0 2) (.w 0 2), .i (.w 0 3) (.w 0 3)]
theorem sqsX_run : runTo Try.prog (RR tabT 1) 16 (flat (lpL Try.prog 56)) (sqsH) (sqsM [false]) (sqsH) (sqsM []) = some (.exit 0, sqsX_tr, sqsX_ob) := by kernel_rfl
def sqsS_tr : List Ent := [.di 2 (.add (.i64)) [.x 1, .c 1], .dn 2 (.times) [] [] [0, 0, 1], .dn 1 (.ofw) [] [.c 18446744073709551597, .c 18446744073709551615, .c 18446744073709551615, .c 9223372036854775807] [], .asm (.x 0) true, .db 0 (.lss) [.x 1, .x 0] [] []]
def sqsS_ob : List Ob := [.i (.x 0) (.x 0), .i (.x 1) (.x 2), .i (.w 0 0) (.w 2 0), .i (.w 0 1) (.w 2 1), .i (.w 0 2) (.w 2 2), .i (.w 0 3) (.w 2 3)]
theorem sqsS_run : runTo Try.prog (RR tabT 1) 16 (flat (lpL Try.prog 56)) (sqsH) (sqsM [true]) (sqsH) (sqsM []) = some (.normal, sqsS_tr, sqsS_ob) := by kernel_rfl
def sqsR_tr : List Ent := []
def sqsR_mem : List Chunk := [⟨[.int .u64 (.w 0 0), .int .u64 (.w 0 1), .int .u64 (.w 0 2), .int .u64 (.w 0 3)], true⟩, ⟨[.int .u64 (.w 0 0), .int .u64 (.w 0 1), .int .u64 (.w 0 2), .int .u64 (.w 0 3)], true⟩]
theorem sqsR_run : runRet Try.prog (RR tabT 1) 16 56 (poL Try.prog 56) (sqsH) (sqsM []) = some ([.agg [.int .u64 (.w 0 0), .int .u64 (.w 0 1), .int .u64 (.w 0 2), .int .u64 (.w 0 3)]], sqsR_tr, sqsR_mem) := by kernel_rfl

theorem sqsN_mod (a : Nat) : ∀ k, sqsN a (k + 1) = sqsN (timesN a a pP) k := fun k => rfl
theorem bitsF_lt (a b m : Nat) : ∀ k o, o < W4 → bitsF a b m k o < W4
  | 0, o, h => h
  | k + 1, o, h => by
    simp only [bitsF]
    refine bitsF_lt a b m k _ ?_
    split
    · exact plusN_lt
    · exact plusN_lt
theorem timesN_lt (a b m : Nat) : timesN a b m < W4 := bitsF_lt a b m 256 0 (by decide)
theorem rfl_idsqs : (0 : Nat) = idL Try.prog 56 := by kernel_rfl
def sqsI (N : Int) (R : Nat) (k : Nat) (ρ : Env) : Prop := ρ.i 0 = N ∧ 0 ≤ ρ.i 1 ∧ ρ.i 1 ≤ 9223372036854775807 ∧ (k : Int) = (N - ρ.i 1).toNat ∧ ρ.n 0 < W4 ∧ sqsN (ρ.n 0) k = R
theorem sqs_c : NumC Try.prog 56 [.num, .int .i64] [.num .sqs] .one (fun _ _ => True) := by
  intro w ns xs vs hf _
  refine ⟨fun r hr => by simp at hr; subst hr; trivial, ?_⟩
  obtain ⟨a, N, rfl, rfl, hN⟩ : ∃ a N, ns = [a] ∧ xs = [N] ∧ inR .i64 N := by
    match ns, xs, hf with
    | [a], [N], h => simp only [NFits] at h; obtain ⟨_, _, _, _, h2, _⟩ := h; exact ⟨a, N, rfl, rfl, h2⟩
    | [], _, h => simp [NFits] at h
    | [a], [], h => simp [NFits] at h
    | [a], _ :: _ :: _, h => simp [NFits] at h
    | a :: b :: l, xs, h => cases xs <;> simp [NFits] at h
  have goal : (shape .one ([NR.num .sqs].map (NR.val [a] [N]))) = numV (sqsN (a % W4) N.toNat) := rfl
  rw [goal]
  have hf' : NFits [.num, .int .i64] [a % W4] [N] vs := by simpa only [NFits, numV_mod] using hf
  have hA := mod_lt4 a
  generalize a % W4 = a at *
  simp only [inR, lo, hi] at hN
  refine fn_invokes (S := fun _ _ => False) (w0 := w) (ρ := envN [a] [N]) (α := fun _ => none) (ms := msP 1 1 []) (by kernel_rfl) MRep.none (fun g c hgc => by simp [msP] at hgc) (numArgs hf') (of_decide_eq_true (by kernel_rfl)) fun ac hr => ?_
  refine fn_loop (by kernel_rfl) ?_
  refine to_head mix_ok (RR_ok tabT_ok _) sqs0_run (K := sqsI N (sqsN a N.toNat) N.toNat) hr (fun ρ ha hd => ⟨by simp only [sqs0_tr, Asms], ?_⟩) fun ρH α1 a1 w1 hK _ hr1 => ?_
  · have n0 : ρ.n 0 = a := ha.n 0 (by decide)
    have i0 : ρ.i 0 = N := ha.i 0 (by decide)
    refine ⟨⟨fun j => if j = 1 then 0 else ρ.i j, ρ.b, ρ.e, ρ.n, ρ.v⟩, rfl, ?_, ?_⟩
    · simp [sqs0_ob, Obs, Ob.ok, Sx.val]
    · refine ⟨i0, Int.le_refl _, by show (0 : Int) ≤ _; omega, ?_, by rw [n0]; exact hA, by rw [n0]⟩
      show ((N.toNat : Nat) : Int) = ((N - 0).toNat : Nat)
      rw [Int.sub_zero]
  simp only [SE.toExit, Exit.then, wps]
  refine loop_at (sqsI N (sqsN a N.toNat)) α1 ?_ N.toNat ρH α1 a1 w1 hK (Ext.refl _ _) hr1
  intro k ρ α ac1 w1 hI hE hr
  obtain ⟨i0, i1, i1', ik, h0, hb⟩ := hI
  cases k with
  | zero =>
    refine to_head mix_ok (RR_ok tabT_ok _) sqsX_run (ms := sqsM [false]) (K := fun ρH => ρH.n 0 = sqsN a N.toNat) (hr.orc rfl rfl) (fun ρ' ha hd => ?_) fun ρH α' a' w' hK _ hr' => ?_
    · have j0 : ρ'.i 0 = ρ.i 0 := ha.i 0 (by decide)
      have j1 : ρ'.i 1 = ρ.i 1 := ha.i 1 (by decide)
      have m0 : ρ'.n 0 = ρ.n 0 := ha.n 0 (by decide)
      simp only [sqsX_tr, Defs, Ent.def, Fb.sem, List.map_cons, List.map_nil, Sx.val, and_true, true_and] at hd
      refine ⟨by simp only [sqsX_tr, Asms, Ent.asn, Sb.val, and_true]; rw [hd]; exact decide_eq_false (by omega), ρ', rfl, by simp only [sqsX_ob, Obs, Ob.ok, and_true], ?_⟩
      rw [m0]; exact hb
    · simp only [SE.toExit]
      rw [if_pos rfl_idsqs]
      refine to_ret mix_ok (RR_ok tabT_ok _) sqsR_run hr' fun ρ' ha hd => ⟨by simp only [sqsR_tr, Asms], fun α'' w'' v he hv hm => ?_⟩
      have m0 : ρ'.n 0 = ρH.n 0 := ha.n 0 (by decide)
      exact ⟨by rw [numS_val (n := 0) hv, m0, hK], hm.fr⟩
  | succ k =>
    refine to_head mix_ok (RR_ok tabT_ok _) sqsS_run (ms := sqsM [true]) (K := sqsI N (sqsN a N.toNat) k) (hr.orc rfl rfl) (fun ρ' ha hd => ?_) fun ρH α' a' w' hK hE' hr' => ⟨k, ρH, α', Nat.lt_succ_self k, hK, fun c hc => (hE' c hc hc).trans (hE c hc), hr'⟩
    have j0 : ρ'.i 0 = ρ.i 0 := ha.i 0 (by decide)
    have j1 : ρ'.i 1 = ρ.i 1 := ha.i 1 (by decide)
    have m0 : ρ'.n 0 = ρ.n 0 := ha.n 0 (by decide)
    simp only [sqsS_tr, Defs, Ent.def, Fb.sem, Fi.sem, Fn.sem, List.map_cons, List.map_nil, Sx.val, and_true, true_and, j0, j1, m0, Nat.mod_eq_of_lt h0] at hd
    obtain ⟨d2, p2, p1, b0⟩ := hd
    have hp : ρ'.n 1 % W4 = pP := by rw [p1]; decide +kernel
    rw [hp] at p2
    refine ⟨?_, ⟨fun j => if j = 1 then ρ'.i 2 else ρ'.i j, ρ'.b, ρ'.e, fun j => if j = 0 then ρ'.n 2 else ρ'.n j, ρ'.v⟩, rfl, ?_, ?_⟩
    · simp only [sqsS_tr, Asms, Ent.asn, Sb.val, and_true, true_and]
      rw [b0]; exact decide_eq_true (by omega)
    · simp [sqsS_ob, Obs, Ob.ok, Sx.val]
    · have e2 : ρ'.i 2 = ρ.i 1 + 1 := by rw [d2]; simp only [wr]; omega
      refine ⟨?_, ?_, ?_, ?_, ?_, ?_⟩
      · show (if (0 : Nat) = 1 then ρ'.i 2 else ρ'.i 0) = N
        rw [if_neg (by decide), j0, i0]
      · show 0 ≤ (if (1 : Nat) = 1 then ρ'.i 2 else ρ'.i 1)
        rw [if_pos rfl]; omega
      · show (if (1 : Nat) = 1 then ρ'.i 2 else ρ'.i 1) ≤ _
        rw [if_pos rfl]; omega
      · show (k : Int) = (N - (if (1 : Nat) = 1 then ρ'.i 2 else ρ'.i 1)).toNat
        rw [if_pos rfl]; omega
      · show (if (0 : Nat) = 0 then ρ'.n 2 else ρ'.n 0) < W4
        rw [if_pos rfl, p2]; exact timesN_lt _ _ _
      · show sqsN (if (0 : Nat) = 0 then ρ'.n 2 else ρ'.n 0) k = _
        rw [if_pos rfl, p2, ← hb]; rfl

/-! ### lower -/
def lowH : Tm := tmS 6 [(2, .ptr 0 0), (3, .ptr 1 0), (5, .int .i64 (.x 0))]
def lowM (o : List Bool) : Ms := ⟨[⟨octsS 0 0 32, true⟩, ⟨octsS 1 0 32, true⟩], [], 1, 0, 0, 2, o, []⟩
def low0_tr : List Ent := []
def low0_ob : List Ob := [.i (.x 0) (.c 31), .i (.o 0 0) (.o 0 0), .i (.o 0 1) (.o 0 1), .i (.o 0 2) (.o 0 2), .i (.o 0 3) (.o 0 3), .i (.o 0 4) (.o 0 4), .i (.o 0 5) (.o 0 5), .i (.o 0 6) (.o 0 6), .i (.o 0 7) (.o 0 7), .i (.o 0 8) (.o 0 8), .i (.o 0 9) (.o 0 9), .i (.o 0 10) (.o 0 10), .i (.o 0 11) (.o 0 11), .i (.o 0 12) (.o 0 12), .i (.o 0 13) (.o 0 13), .i (.o 0 14) (.o 0 14), .i (.o 0 15) (.o 0 15), .i (.o 0 16) (.o 0 16), .i (.o 0 17) (.o 0 17), .i (.o 0 18) (.o 0 18), .i (.o 0 19) (.o 0 19), .i (.o 0 20) (.o 0 20), .i (.o 0 21) (.o 0 21), .i (.o 0 22) (.o 0 22), .i (.o 0 23) (.o 0 23), .i (.o 0 24) (.o 0 24), .i (.o 0 25) (.o 0 25), .i (.o 0 26) (.o 0 26), .i (.o 0 27) (.o 0 27), .i (.o 0 28) (.o 0 28), .i (.o 0 29) (.o 0 29), .i (.o 0 30) (.o 0 30), .i (.o 0 31) (.o 0 31), .i (.o 1 0) (.o 1 0), .i (.o 1 1) (.o 1 1), .i (.o 1 2) (.o 1 2), .i (.o 1 3) (.o 1 3), .i (.o 1 4) (.o 1 4), .i (.o 1 5) (.o 1 5), .i (.o 1 6) (.o 1 6), .i (.o 1 7) (.o 1 7), .i (.o 1 8) (.o 1 8), .i (.o 1 9) (.o 1 9), .i (.o 1 10) (.o 1 10), .i (.o 1 11) (.o 1 11), .i (.o 1 12) (.o 1 12), .i (.o 1 13) (.o 1 13), .i (.o 1 14) (.o 1 14), .i (.o 1 15) (.o 1 15), .i (.o 1 16) (.o 1 16), .i (.o 1 17) (.o 1 17), .i (.o 1 18) (.o 1 18), .i (.o 1 19) (.o 1 19), .i (.o 1 20) (.o 1 20), .i (.o 1 21) (.o 1 21), .i (.o 1 22) (.o 1 22), .i (.o 1 23) (.o 1 23), .i (.o 1 24) (.o 1 24), .i (.o 1 25) (.o 1 25), .i (.o 1 26) (.o 1 26), .i (.o 1 27) (.o 1 27), .i (.o 1 28) (.o 1 28), .i (.o 1 29) (.o 1 29), .i (.o 1 30) (.o 1 30), .i (.o 1 31) (.o 1 31)]
theorem low0_run : runTo Try.prog (RR tabT 1) 24 (prL Try.prog 23) (argsTm (Tm.full 12) 0 (argsN [.byt, .byt] 0 0)) (msP 2 0 []) (lowH) (lowM []) = some (.normal, low0_tr, low0_ob) := by kernel_rfl
def lowX_tr : List Ent := [.asm (.x 0) false, .db 0 (.geq) [.x 0, .c 0] [] []]
def lowX_ob : List Ob := [.i (.x 0) (.x 0), .i (.o 0 0) (.o 0 0), .i (.o 0 1) (.o 0 1), .i (.o 0 2) (.o 0 2), .i (.o 0 3) (.o 0 3), .i (.o 0 4) (.o 0 4), .i (.o 0 5) (.o 0 5), .i (.o 0 6) (.o 0 6), .i (.o 0 7) (.o 0 7), .i (.o 0 8) (.o 0 8), .i (.o 0 9) (.o 0 9), .i (.o 0 10) (.o 0 10), .i (.o 0 11) (.o 0 11), .i (.o 0 12) (.o 0 12), .i (.o 0 13) (.o 0 13), .i (.o 0 14) (.o 0 14), .i (.o 0 15) (.o 0 15), .i (.o 0 16) (.o 0 16), .i (.o 0 17) (.o 0 17), .i (.o 0 18) (.o 0 18), .i (.o 0 19) (.o 0 19), .i (.o 0 20) (.o 0 20), .i (.o 0 21) (.o 0 21), .i (.o 0 22) (.o 0 22), .i (.o 0 23) (.o 0 23), .i (.o 0 24) (.o 0 24), .i (.o 0 25) (.o 0 25), .i (.o 0 26) (.o 0 26), .i (.o 0 27) (.o 0 27), .i (.o 0 28) (.o 0 28), .i (.o 0 29) (.o 0 29), .i (.o 0 30) (.o 0 30), .i (.o 0 31) (.o 0 31), .i (.o 1 0) (.o 1 0), .i (.o 1 1) (.o 1 1), .i (.o 1 2) (.o 1 2), .i (.o 1 3) (.o 1 3), .i (.o 1 4) (.o 1 4), .i (.o 1 5) (.o 1 5), .i (.o 1 6) (.o 1 6), .i (.o 1 7) (.o 1 7), .i (.o 1 8) (.o 1 8), .i (.o 1 9) (.o 1 9), .i (.o 1 10) (.o 1 10), .i (.o 1 11) (.o 1 11), .i (.o 1 12) (.o 1 12), .i (.o 1 13) (.o 1 13), .i (.o 1 14) (.o 1 14), .i (.o 1 15) (.o 1 15), .i (.o 1 16) (.o 1 16), .i (.o 1 17) (.o 1 17), .i (.o 1 18) (.o 1 18), .i (.o 1 19) (.o 1 19), .i (.o 1 20) (.o 1 20), .i (.o 1 21) (.o 1 21), .i (.o 1 22) (.o 1 22), .i (.o 1 23) (.o 1 23), .i (.o 1 24) (.o 1 24), .i (.o 1 25) (.o 1 25), .i (.o 1 26) (.o 1 26), .i (.o 1 27) (.o 1 27), .i (.o 1 28) (.o 1 28), .i (.o 1 29) (.o 1 29), .i (.o 1 30) (.o 1 30), .i (.o 1 31) (.o 1 31)]
theorem lowX_run : runTo Try.prog (RR tabT 1) 24 (flat (lpL Try.prog 23)) (lowH) (lowM [false]) (lowH) (lowM []) = some (.exit 0, lowX_tr, lowX_ob) := by kernel_rfl
def lowE_tr : List Ent := [.di 1 (.sub (.i64)) [.x 0, .c 1], .asm (.x 5) false, .db 5 (.neq) [.oi 0 0, .oi 1 0] [] [], .asm (.x 4) true, .db 4 (.lss) [.x 0, .c 32] [] [], .asm (.x 3) true, .db 3 (.leq) [.c 0, .x 0] [] [], .asm (.x 2) true, .db 2 (.lss) [.x 0, .c 32] [] [], .asm (.x 1) true, .db 1 (.leq) [.c 0, .x 0] [] [], .asm (.x 0) true, .db 0 (.geq) [.x 0, .c 0] [] []]
def lowE_ob : List Ob := [.i (.x 0) (.x 1), .i (.o 0 0) (.o 0 0), .i (.o 0 1) (.o 0 1), .i (.o 0 2) (.o 0 2), .i (.o 0 3) (.o 0 3), .i (.o 0 4) (.o 0 4), .i (.o 0 5) (.o 0 5), .i (.o 0 6) (.o 0 6), .i (.o 0 7) (.o 0 7), .i (.o 0 8) (.o 0 8), .i (.o 0 9) (.o 0 9), .i (.o 0 10) (.o 0 10), .i (.o 0 11) (.o 0 11), .i (.o 0 12) (.o 0 12), .i (.o 0 13) (.o 0 13), .i (.o 0 14) (.o 0 14), .i (.o 0 15) (.o 0 15), .i (.o 0 16) (.o 0 16), .i (.o 0 17) (.o 0 17), .i (.o 0 18) (.o 0 18), .i (.o 0 19) (.o 0 19), .i (.o 0 20) (.o 0 20), .i (.o 0 21) (.o 0 21), .i (.o 0 22) (.o 0 22), .i (.o 0 23) (.o 0 23), .i (.o 0 24) (.o 0 24), .i (.o 0 25) (.o 0 25), .i (.o 0 26) (.o 0 26), .i (.o 0 27) (.o 0 27), .i (.o 0 28) (.o 0 28), .i (.o 0 29) (.o 0 29), .i (.o 0 30) (.o 0 30), .i (.o 0 31) (.o 0 31), .i (.o 1 0) (.o 1 0), .i (.o 1 1) (.o 1 1), .i (.o 1 2) (.o 1 2), .i (.o 1 3) (.o 1 3), .i (.o 1 4) (.o 1 4), .i (.o 1 5) (.o 1 5), .i (.o 1 6) (.o 1 6), .i (.o 1 7) (.o 1 7), .i (.o 1 8) (.o 1 8), .i (.o 1 9) (.o 1 9), .i (.o 1 10) (.o 1 10), .i (.o 1 11) (.o 1 11), .i (.o 1 12) (.o 1 12), .i (.o 1 13) (.o 1 13), .i (.o 1 14) (.o 1 14), .i (.o 1 15) (.o 1 15), .i (.o 1 16) (.o 1 16), .i (.o 1 17) (.o 1 17), .i (.o 1 18) (.o 1 18), .i (.o 1 19) (.o 1 19), .i (.o 1 20) (.o 1 20), .i (.o 1 21) (.o 1 21), .i (.o 1 22) (.o 1 22), .i (.o 1 23) (.o 1 23), .i (.o 1 24) (.o 1 24), .i (.o 1 25) (.o 1 25), .i (.o 1 26) (.o 1 26), .i (.o 1 27) (.o 1 27), .i (.o 1 28) (.o 1 28), .i (.o 1 29) (.o 1 29), .i (.o 1 30) (.o 1 30), .i (.o 1 31) (.o 1 31)]
theorem lowE_run : runTo Try.prog (RR tabT 1) 24 (flat (lpL Try.prog 23)) (lowH) (lowM [true, false]) (lowH) (lowM []) = some (.normal, lowE_tr, lowE_ob) := by kernel_rfl
def lowD_tr : List Ent := [.db 10 (.lss) [.oi 0 0, .oi 1 0] [] [], .asm (.x 9) true, .db 9 (.lss) [.x 0, .c 32] [] [], .asm (.x 8) true, .db 8 (.leq) [.c 0, .x 0] [] [], .asm (.x 7) true, .db 7 (.lss) [.x 0, .c 32] [] [], .asm (.x 6) true, .db 6 (.leq) [.c 0, .x 0] [] [], .asm (.x 5) true, .db 5 (.neq) [.oi 0 0, .oi 1 0] [] [], .asm (.x 4) true, .db 4 (.lss) [.x 0, .c 32] [] [], .asm (.x 3) true, .db 3 (.leq) [.c 0, .x 0] [] [], .asm (.x 2) true, .db 2 (.lss) [.x 0, .c 32] [] [], .asm (.x 1) true, .db 1 (.leq) [.c 0, .x 0] [] [], .asm (.x 0) true, .db 0 (.geq) [.x 0, .c 0] [] []]
def lowD_mem : List Chunk := [⟨[.int .u8 (.o 0 0), .int .u8 (.o 0 1), .int .u8 (.o 0 2), .int .u8 (.o 0 3), .int .u8 (.o 0 4), .int .u8 (.o 0 5), .int .u8 (.o 0 6), .int .u8 (.o 0 7), .int .u8 (.o 0 8), .int .u8 (.o 0 9), .int .u8 (.o 0 10), .int .u8 (.o 0 11), .int .u8 (.o 0 12), .int .u8 (.o 0 13), .int .u8 (.o 0 14), .int .u8 (.o 0 15), .int .u8 (.o 0 16), .int .u8 (.o 0 17), .int .u8 (.o 0 18), .int .u8 (.o 0 19), .int .u8 (.o 0 20), .int .u8 (.o 0 21), .int .u8 (.o 0 22), .int .u8 (.o 0 23), .int .u8 (.o 0 24), .int .u8 (.o 0 25), .int .u8 (.o 0 26), .int .u8 (.o 0 27), .int .u8 (.o 0 28), .int .u8 (.o 0 29), .int .u8 (.o 0 30), .int .u8 (.o 0 31)], true⟩, ⟨[.int .u8 (.o 1 0), .int .u8 (.o 1 1), .int .u8 (.o 1 2), .int .u8 (.o 1 3), .int .u8 (.o 1 4), .int .u8 (.o 1 5), .int .u8 (.o 1 6), .int .u8 (.o 1 7), .int .u8 (.o 1 8), .int .u8 (.o 1 9), .int .u8 (.o 1 10), .int .u8 (.o 1 11), .int .u8 (.o 1 12), .int .u8 (.o 1 13), .int .u8 (.o 1 14), .int .u8 (.o 1 15), .int .u8 (.o 1 16), .int .u8 (.o 1 17), .int .u8 (.o 1 18), .int .u8 (.o 1 19), .int .u8 (.o 1 20), .int .u8 (.o 1 21), .int .u8 (.o 1 22), .int .u8 (.o 1 23), .int .u8 (.o 1 24), .int .u8 (.o 1 25), .int .u8 (.o 1 26), .int .u8 (.o 1 27), .int .u8 (.o 1 28), .int .u8 (.o 1 29), .int .u8 (.o 1 30), .int .u8 (.o 1 31)], true⟩]
theorem lowD_run : runRt Try.prog (RR tabT 1) 24 23 (flat (lpL Try.prog 23)) (lowH) (lowM [true, true]) = some ([.bool (.x 10)], lowD_tr, lowD_mem) := by kernel_rfl
def lowR_tr : List Ent := []
def lowR_mem : List Chunk := [⟨[.int .u8 (.o 0 0), .int .u8 (.o 0 1), .int .u8 (.o 0 2), .int .u8 (.o 0 3), .int .u8 (.o 0 4), .int .u8 (.o 0 5), .int .u8 (.o 0 6), .int .u8 (.o 0 7), .int .u8 (.o 0 8), .int .u8 (.o 0 9), .int .u8 (.o 0 10), .int .u8 (.o 0 11), .int .u8 (.o 0 12), .int .u8 (.o 0 13), .int .u8 (.o 0 14), .int .u8 (.o 0 15), .int .u8 (.o 0 16), .int .u8 (.o 0 17), .int .u8 (.o 0 18), .int .u8 (.o 0 19), .int .u8 (.o 0 20), .int .u8 (.o 0 21), .int .u8 (.o 0 22), .int .u8 (.o 0 23), .int .u8 (.o 0 24), .int .u8 (.o 0 25), .int .u8 (.o 0 26), .int .u8 (.o 0 27), .int .u8 (.o 0 28), .int .u8 (.o 0 29), .int .u8 (.o 0 30), .int .u8 (.o 0 31)], true⟩, ⟨[.int .u8 (.o 1 0), .int .u8 (.o 1 1), .int .u8 (.o 1 2), .int .u8 (.o 1 3), .int .u8 (.o 1 4), .int .u8 (.o 1 5), .int .u8 (.o 1 6), .int .u8 (.o 1 7), .int .u8 (.o 1 8), .int .u8 (.o 1 9), .int .u8 (.o 1 10), .int .u8 (.o 1 11), .int .u8 (.o 1 12), .int .u8 (.o 1 13), .int .u8 (.o 1 14), .int .u8 (.o 1 15), .int .u8 (.o 1 16), .int .u8 (.o 1 17), .int .u8 (.o 1 18), .int .u8 (.o 1 19), .int .u8 (.o 1 20), .int .u8 (.o 1 21), .int .u8 (.o 1 22), .int .u8 (.o 1 23), .int .u8 (.o 1 24), .int .u8 (.o 1 25), .int .u8 (.o 1 26), .int .u8 (.o 1 27), .int .u8 (.o 1 28), .int .u8 (.o 1 29), .int .u8 (.o 1 30), .int .u8 (.o 1 31)], true⟩]
theorem lowR_run : runRet Try.prog (RR tabT 1) 24 23 (poL Try.prog 23) (lowH) (lowM []) = some ([.bool (.c false)], lowR_tr, lowR_mem) := by kernel_rfl

theorem oct_div (n k : Nat) : n / 256 ^ k = 256 * (n / 256 ^ (k + 1)) + octet n k := by
  unfold octet
  rw [Nat.pow_succ, ← Nat.div_div_eq_div_mul]
  omega
theorem rfl_idlow : (0 : Nat) = idL Try.prog 23 := by kernel_rfl
def lowI (a b : Nat) (k : Nat) (ρ : Env) : Prop := k ≤ 32 ∧ ρ.n 0 = a ∧ ρ.n 1 = b ∧ ρ.i 0 = (k : Int) - 1 ∧ a / 256 ^ k = b / 256 ^ k
theorem low_c : NumC Try.prog 23 [.byt, .byt] [.bool .nlt] .one (fun _ _ => True) := by
  intro w ns xs vs hf _
  refine ⟨fun r hr => by simp at hr; subst hr; trivial, ?_⟩
  obtain ⟨a, b, rfl, rfl⟩ : ∃ a b, ns = [a, b] ∧ xs = [] := by
    match ns, xs, hf with
    | [a, b], [], h => exact ⟨a, b, rfl, rfl⟩
    | [], _, h => simp [NFits] at h
    | [a], _, h => simp [NFits] at h
    | [a, b], _ :: _, h => simp [NFits] at h
    | a :: b :: c :: l, xs, h => simp [NFits] at h
  have goal : (shape .one ([NR.bool .nlt].map (NR.val [a, b] []))) = .bool (decide (a % W4 < b % W4)) := rfl
  rw [goal]
  have hf' : NFits [.byt, .byt] [a % W4, b % W4] [] vs := by simpa only [NFits, bytesV_mod] using hf
  have hA := mod_lt4 a
  have hB := mod_lt4 b
  generalize a % W4 = a at *
  generalize b % W4 = b at *
  have e32 : W4 = 256 ^ 32 := by decide
  refine fn_invokes (S := fun _ _ => False) (w0 := w) (ρ := envN [a, b] []) (α := fun _ => none) (ms := msP 2 0 []) (by kernel_rfl) MRep.none (fun g c hgc => by simp [msP] at hgc) (numArgs hf') (of_decide_eq_true (by kernel_rfl)) fun ac hr => ?_
  refine fn_loop (by kernel_rfl) ?_
  refine to_head mix_ok (RR_ok tabT_ok _) low0_run (K := lowI a b 32) hr (fun ρ ha hd => ⟨by simp only [low0_tr, Asms], ?_⟩) fun ρH α1 a1 w1 hK _ hr1 => ?_
  · have n0 : ρ.n 0 = a := ha.n 0 (by decide)
    have n1 : ρ.n 1 = b := ha.n 1 (by decide)
    refine ⟨⟨fun _ => 31, ρ.b, ρ.e, ρ.n, ρ.v⟩, rfl, ?_, ?_⟩
    · simp [low0_ob, Obs, Ob.ok, Sx.val]
    · exact ⟨Nat.le_refl _, n0, n1, rfl, by rw [← e32, Nat.div_eq_of_lt hA, Nat.div_eq_of_lt hB]⟩
  simp only [SE.toExit, Exit.then, wps]
  refine loop_at (lowI a b) α1 ?_ 32 ρH α1 a1 w1 hK (Ext.refl _ _) hr1
  intro k ρ α ac1 w1 hI hE hr
  obtain ⟨hk, n0, n1, i0, hb⟩ := hI
  cases k with
  | zero =>
    refine to_head mix_ok (RR_ok tabT_ok _) lowX_run (ms := lowM [false]) (K := fun ρH => True) (hr.orc rfl rfl) (fun ρ' ha hd => ?_) fun ρH α' a' w' hK _ hr' => ?_
    · have j0 : ρ'.i 0 = ρ.i 0 := ha.i 0 (by decide)
      simp only [lowX_tr, Defs, Ent.def, Fb.sem, List.map_cons, List.map_nil, Sx.val, and_true, true_and] at hd
      exact ⟨by simp only [lowX_tr, Asms, Ent.asn, Sb.val, and_true]; rw [hd]; exact decide_eq_false (by omega), ρ', rfl, by simp only [lowX_ob, Obs, Ob.ok, and_true], trivial⟩
    · simp only [SE.toExit]
      rw [if_pos rfl_idlow]
      refine to_ret mix_ok (RR_ok tabT_ok _) lowR_run hr' fun ρ' ha hd => ⟨by simp only [lowR_tr, Asms], fun α'' w'' v he hv hm => ?_⟩
      simp only [retOf, VRel, Sb.val] at hv
      simp only [Nat.pow_zero, Nat.div_one] at hb
      exact ⟨by rw [hv, hb, decide_eq_false (Nat.lt_irrefl b)], hm.fr⟩
  | succ k =>
    have ik : ρ.i 0 = (k : Int) := by omega
    have ga := oct_div a k
    have gb := oct_div b k
    by_cases hab : octet a k = octet b k
    · refine to_head mix_ok (RR_ok tabT_ok _) lowE_run (ms := lowM [true, false]) (K := lowI a b k) (hr.orc rfl rfl) (fun ρ' ha hd => ?_) fun ρH α' a' w' hK hE' hr' => ⟨k, ρH, α', Nat.lt_succ_self k, hK, fun c hc => (hE' c hc hc).trans (hE c hc), hr'⟩
      have j0 : ρ'.i 0 = ρ.i 0 := ha.i 0 (by decide)
      have m0 : ρ'.n 0 = ρ.n 0 := ha.n 0 (by decide)
      have m1 : ρ'.n 1 = ρ.n 1 := ha.n 1 (by decide)
      simp only [lowE_tr, Defs, Ent.def, Fb.sem, Fi.sem, List.map_cons, List.map_nil, Sx.val, and_true, true_and, j0, ik, m0, m1, n0, n1, Int.toNat_natCast] at hd
      obtain ⟨d1, b5, b4, b3, b2, b1, b0⟩ := hd
      refine ⟨?_, ⟨fun _ => ρ'.i 1, ρ'.b, ρ'.e, ρ'.n, ρ'.v⟩, rfl, ?_, ?_⟩
      · simp only [lowE_tr, Asms, Ent.asn, Sb.val, and_true, true_and]
        refine ⟨?_, ?_, ?_, ?_, ?_, ?_⟩
        · rw [b5, hab]; exact bne_self_eq_false _
        · rw [b4]; exact decide_eq_true (by omega)
        · rw [b3]; exact decide_eq_true (by omega)
        · rw [b2]; exact decide_eq_true (by omega)
        · rw [b1]; exact decide_eq_true (by omega)
        · rw [b0]; exact decide_eq_true (by omega)
      · simp [lowE_ob, Obs, Ob.ok, Sx.val]
      · refine ⟨by omega, by rw [← n0, ← m0], by rw [← n1, ← m1], ?_, by omega⟩
        show ρ'.i 1 = _
        rw [d1]; simp only [wr]; omega
    · refine to_retL mix_ok (RR_ok tabT_ok _) lowD_run (Post := fun v w' => v = .bool (decide (a < b)) ∧ Fr (fun _ _ => False) w w') (ms := lowM [true, true]) (hr.orc rfl rfl) (fun ρ' ha hd => ?_) fun a' w' h => h
      have j0 : ρ'.i 0 = ρ.i 0 := ha.i 0 (by decide)
      have m0 : ρ'.n 0 = ρ.n 0 := ha.n 0 (by decide)
      have m1 : ρ'.n 1 = ρ.n 1 := ha.n 1 (by decide)
      simp only [lowD_tr, Defs, Ent.def, Fb.sem, Fi.sem, List.map_cons, List.map_nil, Sx.val, and_true, true_and, j0, ik, m0, m1, n0, n1, Int.toNat_natCast] at hd
      obtain ⟨b10, b9, b8, b7, b6, b5, b4, b3, b2, b1, b0⟩ := hd
      refine ⟨?_, fun α' w' v he hv hm => ?_⟩
      · simp only [lowD_tr, Asms, Ent.asn, Sb.val, and_true, true_and]
        refine ⟨?_, ?_, ?_, ?_, ?_, ?_, ?_, ?_, ?_, ?_⟩
        · rw [b9]; exact decide_eq_true (by omega)
        · rw [b8]; exact decide_eq_true (by omega)
        · rw [b7]; exact decide_eq_true (by omega)
        · rw [b6]; exact decide_eq_true (by omega)
        · rw [b5]; exact bne_iff_ne.2 (by omega)
        · rw [b4]; exact decide_eq_true (by omega)
        · rw [b3]; exact decide_eq_true (by omega)
        · rw [b2]; exact decide_eq_true (by omega)
        · rw [b1]; exact decide_eq_true (by omega)
        · rw [b0]; exact decide_eq_true (by omega)
      · simp only [retOf, VRel, Sb.val] at hv
        refine ⟨?_, hm.fr⟩
        rw [hv, b10]
        congr 1
        rw [decide_eq_decide]
        constructor
        · intro h
          refine Nat.lt_of_not_le fun hle => ?_
          have := Nat.div_le_div_right (c := 256 ^ k) hle
          omega
        · intro h
          have := Nat.div_le_div_right (c := 256 ^ k) (Nat.le_of_lt h)
          omega

/-! ### compareBytes -/
def cmpA : List SV := [.slice 0 0 32 32, .slice 1 0 32 32]
def cmp0 (o : List Bool) : Ms := ⟨[⟨octsS 0 0 32, false⟩, ⟨octsS 1 0 32, false⟩], [], 0, 0, 0, 2, o, []⟩
def cmpH : Tm := tmS 6 [(0, .slice 0 0 32 32), (1, .slice 1 0 32 32), (12, .int .i64 (.c 32)), (13, .int .i64 (.x 0))]
def cmpM (o : List Bool) : Ms := ⟨[⟨octsS 0 0 32, false⟩, ⟨octsS 1 0 32, false⟩], [], 1, 0, 0, 2, o, []⟩
def cmp0_tr : List Ent := []
def cmp0_ob : List Ob := [.i (.x 0) (.c 0), .i (.o 0 0) (.o 0 0), .i (.o 0 1) (.o 0 1), .i (.o 0 2) (.o 0 2), .i (.o 0 3) (.o 0 3), .i (.o 0 4) (.o 0 4), .i (.o 0 5) (.o 0 5), .i (.o 0 6) (.o 0 6), .i (.o 0 7) (.o 0 7), .i (.o 0 8) (.o 0 8), .i (.o 0 9) (.o 0 9), .i (.o 0 10) (.o 0 10), .i (.o 0 11) (.o 0 11), .i (.o 0 12) (.o 0 12), .i (.o 0 13) (.o 0 13), .i (.o 0 14) (.o 0 14), .i (.o 0 15) (.o 0 15), .i (.o 0 16) (.o 0 16), .i (.o 0 17) (.o 0 17), .i (.o 0 18) (.o 0 18), .i (.o 0 19) (.o 0 19), .i (.o 0 20) (.o 0 20), .i (.o 0 21) (.o 0 21), .i (.o 0 22) (.o 0 22), .i (.o 0 23) (.o 0 23), .i (.o 0 24) (.o 0 24), .i (.o 0 25) (.o 0 25), .i (.o 0 26) (.o 0 26), .i (.o 0 27) (.o 0 27), .i (.o 0 28) (.o 0 28), .i (.o 0 29) (.o 0 29), .i (.o 0 30) (.o 0 30), .i (.o 0 31) (.o 0 31), .i (.o 1 0) (.o 1 0), .i (.o 1 1) (.o 1 1), .i (.o 1 2) (.o 1 2), .i (.o 1 3) (.o 1 3), .i (.o 1 4) (.o 1 4), .i (.o 1 5) (.o 1 5), .i (.o 1 6) (.o 1 6), .i (.o 1 7) (.o 1 7), .i (.o 1 8) (.o 1 8), .i (.o 1 9) (.o 1 9), .i (.o 1 10) (.o 1 10), .i (.o 1 11) (.o 1 11), .i (.o 1 12) (.o 1 12), .i (.o 1 13) (.o 1 13), .i (.o 1 14) (.o 1 14), .i (.o 1 15) (.o 1 15), .i (.o 1 16) (.o 1 16), .i (.o 1 17) (.o 1 17), .i (.o 1 18) (.o 1 18), .i (.o 1 19) (.o 1 19), .i (.o 1 20) (.o 1 20), .i (.o 1 21) (.o 1 21), .i (.o 1 22) (.o 1 22), .i (.o 1 23) (.o 1 23), .i (.o 1 24) (.o 1 24), .i (.o 1 25) (.o 1 25), .i (.o 1 26) (.o 1 26), .i (.o 1 27) (.o 1 27), .i (.o 1 28) (.o 1 28), .i (.o 1 29) (.o 1 29), .i (.o 1 30) (.o 1 30), .i (.o 1 31) (.o 1 31)]
theorem cmp0_run : runTo Try.prog (RR tabT 1) 26 (prL Try.prog 69) (argsTm (Tm.full 12) 0 cmpA) (cmp0 []) (cmpH) (cmpM []) = some (.normal, cmp0_tr, cmp0_ob) := by kernel_rfl
def cmpX_tr : List Ent := [.asm (.x 0) false, .db 0 (.lss) [.x 0, .c 32] [] []]
def cmpX_ob : List Ob := [.i (.x 0) (.x 0), .i (.o 0 0) (.o 0 0), .i (.o 0 1) (.o 0 1), .i (.o 0 2) (.o 0 2), .i (.o 0 3) (.o 0 3), .i (.o 0 4) (.o 0 4), .i (.o 0 5) (.o 0 5), .i (.o 0 6) (.o 0 6), .i (.o 0 7) (.o 0 7), .i (.o 0 8) (.o 0 8), .i (.o 0 9) (.o 0 9), .i (.o 0 10) (.o 0 10), .i (.o 0 11) (.o 0 11), .i (.o 0 12) (.o 0 12), .i (.o 0 13) (.o 0 13), .i (.o 0 14) (.o 0 14), .i (.o 0 15) (.o 0 15), .i (.o 0 16) (.o 0 16), .i (.o 0 17) (.o 0 17), .i (.o 0 18) (.o 0 18), .i (.o 0 19) (.o 0 19), .i (.o 0 20) (.o 0 20), .i (.o 0 21) (.o 0 21), .i (.o 0 22) (.o 0 22), .i (.o 0 23) (.o 0 23), .i (.o 0 24) (.o 0 24), .i (.o 0 25) (.o 0 25), .i (.o 0 26) (.o 0 26), .i (.o 0 27) (.o 0 27), .i (.o 0 28) (.o 0 28), .i (.o 0 29) (.o 0 29), .i (.o 0 30) (.o 0 30), .i (.o 0 31) (.o 0 31), .i (.o 1 0) (.o 1 0), .i (.o 1 1) (.o 1 1), .i (.o 1 2) (.o 1 2), .i (.o 1 3) (.o 1 3), .i (.o 1 4) (.o 1 4), .i (.o 1 5) (.o 1 5), .i (.o 1 6) (.o 1 6), .i (.o 1 7) (.o 1 7), .i (.o 1 8) (.o 1 8), .i (.o 1 9) (.o 1 9), .i (.o 1 10) (.o 1 10), .i (.o 1 11) (.o 1 11), .i (.o 1 12) (.o 1 12), .i (.o 1 13) (.o 1 13), .i (.o 1 14) (.o 1 14), .i (.o 1 15) (.o 1 15), .i (.o 1 16) (.o 1 16), .i (.o 1 17) (.o 1 17), .i (.o 1 18) (.o 1 18), .i (.o 1 19) (.o 1 19), .i (.o 1 20) (.o 1 20), .i (.o 1 21) (.o 1 21), .i (.o 1 22) (.o 1 22), .i (.o 1 23) (.o 1 23), .i (.o 1 24) (.o 1 24), .i (.o 1 25) (.o 1 25), .i (.o 1 26) (.o 1 26), .i (.o 1 27) (.o 1 27), .i (.o 1 28) (.o 1 28), .i (.o 1 29) (.o 1 29), .i (.o 1 30) (.o 1 30), .i (.o 1 31) (.o 1 31)]
theorem cmpX_run : runTo Try.prog (RR tabT 1) 26 (flat (lpL Try.prog 69)) (cmpH) (cmpM [false]) (cmpH) (cmpM []) = some (.exit 0, cmpX_tr, cmpX_ob) := by kernel_rfl
def cmpE_tr : List Ent := [.di 1 (.add (.i64)) [.x 0, .c 1], .asm (.x 5) false, .db 5 (.neq) [.oi 0 0, .oi 1 0] [] [], .asm (.x 4) true, .db 4 (.lss) [.x 0, .c 32] [] [], .asm (.x 3) true, .db 3 (.leq) [.c 0, .x 0] [] [], .asm (.x 2) true, .db 2 (.lss) [.x 0, .c 32] [] [], .asm (.x 1) true, .db 1 (.leq) [.c 0, .x 0] [] [], .asm (.x 0) true, .db 0 (.lss) [.x 0, .c 32] [] []]
def cmpE_ob : List Ob := [.i (.x 0) (.x 1), .i (.o 0 0) (.o 0 0), .i (.o 0 1) (.o 0 1), .i (.o 0 2) (.o 0 2), .i (.o 0 3) (.o 0 3), .i (.o 0 4) (.o 0 4), .i (.o 0 5) (.o 0 5), .i (.o 0 6) (.o 0 6), .i (.o 0 7) (.o 0 7), .i (.o 0 8) (.o 0 8), .i (.o 0 9) (.o 0 9), .i (.o 0 10) (.o 0 10), .i (.o 0 11) (.o 0 11), .i (.o 0 12) (.o 0 12), .i (.o 0 13) (.o 0 13), .i (.o 0 14) (.o 0 14), .i (.o 0 15) (.o 0 15), .i (.o 0 16) (.o 0 16), .i (.o 0 17) (.o 0 17), .i (.o 0 18) (.o 0 18), .i (.o 0 19) (.o 0 19), .i (.o 0 20) (.o 0 20), .i (.o 0 21) (.o 0 21), .i (.o 0 22) (.o 0 22), .i (.o 0 23) (.o 0 23), .i (.o 0 24) (.o 0 24), .i (.o 0 25) (.o 0 25), .i (.o 0 26) (.o 0 26), .i (.o 0 27) (.o 0 27), .i (.o 0 28) (.o 0 28), .i (.o 0 29) (.o 0 29), .i (.o 0 30) (.o 0 30), .i (.o 0 31) (.o 0 31), .i (.o 1 0) (.o 1 0), .i (.o 1 1) (.o 1 1), .i (.o 1 2) (.o 1 2), .i (.o 1 3) (.o 1 3), .i (.o 1 4) (.o 1 4), .i (.o 1 5) (.o 1 5), .i (.o 1 6) (.o 1 6), .i (.o 1 7) (.o 1 7), .i (.o 1 8) (.o 1 8), .i (.o 1 9) (.o 1 9), .i (.o 1 10) (.o 1 10), .i (.o 1 11) (.o 1 11), .i (.o 1 12) (.o 1 12), .i (.o 1 13) (.o 1 13), .i (.o 1 14) (.o 1 14), .i (.o 1 15) (.o 1 15), .i (.o 1 16) (.o 1 16), .i (.o 1 17) (.o 1 17), .i (.o 1 18) (.o 1 18), .i (.o 1 19) (.o 1 19), .i (.o 1 20) (.o 1 20), .i (.o 1 21) (.o 1 21), .i (.o 1 22) (.o 1 22), .i (.o 1 23) (.o 1 23), .i (.o 1 24) (.o 1 24), .i (.o 1 25) (.o 1 25), .i (.o 1 26) (.o 1 26), .i (.o 1 27) (.o 1 27), .i (.o 1 28) (.o 1 28), .i (.o 1 29) (.o 1 29), .i (.o 1 30) (.o 1 30), .i (.o 1 31) (.o 1 31)]
theorem cmpE_run : runTo Try.prog (RR tabT 1) 26 (flat (lpL Try.prog 69)) (cmpH) (cmpM [true, false]) (cmpH) (cmpM []) = some (.normal, cmpE_tr, cmpE_ob) := by kernel_rfl
def cmpD_tr : List Ent := [.asm (.x 5) true, .db 5 (.neq) [.oi 0 0, .oi 1 0] [] [], .asm (.x 4) true, .db 4 (.lss) [.x 0, .c 32] [] [], .asm (.x 3) true, .db 3 (.leq) [.c 0, .x 0] [] [], .asm (.x 2) true, .db 2 (.lss) [.x 0, .c 32] [] [], .asm (.x 1) true, .db 1 (.leq) [.c 0, .x 0] [] [], .asm (.x 0) true, .db 0 (.lss) [.x 0, .c 32] [] []]
def cmpD_mem : List Chunk := [⟨[.int .u8 (.o 0 0), .int .u8 (.o 0 1), .int .u8 (.o 0 2), .int .u8 (.o 0 3), .int .u8 (.o 0 4), .int .u8 (.o 0 5), .int .u8 (.o 0 6), .int .u8 (.o 0 7), .int .u8 (.o 0 8), .int .u8 (.o 0 9), .int .u8 (.o 0 10), .int .u8 (.o 0 11), .int .u8 (.o 0 12), .int .u8 (.o 0 13), .int .u8 (.o 0 14), .int .u8 (.o 0 15), .int .u8 (.o 0 16), .int .u8 (.o 0 17), .int .u8 (.o 0 18), .int .u8 (.o 0 19), .int .u8 (.o 0 20), .int .u8 (.o 0 21), .int .u8 (.o 0 22), .int .u8 (.o 0 23), .int .u8 (.o 0 24), .int .u8 (.o 0 25), .int .u8 (.o 0 26), .int .u8 (.o 0 27), .int .u8 (.o 0 28), .int .u8 (.o 0 29), .int .u8 (.o 0 30), .int .u8 (.o 0 31)], false⟩, ⟨[.int .u8 (.o 1 0), .int .u8 (.o 1 1), .int .u8 (.o 1 2), .int .u8 (.o 1 3), .int .u8 (.o 1 4), .int .u8 (.o 1 5), .int .u8 (.o 1 6), .int .u8 (.o 1 7), .int .u8 (.o 1 8), .int .u8 (.o 1 9), .int .u8 (.o 1 10), .int .u8 (.o 1 11), .int .u8 (.o 1 12), .int .u8 (.o 1 13), .int .u8 (.o 1 14), .int .u8 (.o 1 15), .int .u8 (.o 1 16), .int .u8 (.o 1 17), .int .u8 (.o 1 18), .int .u8 (.o 1 19), .int .u8 (.o 1 20), .int .u8 (.o 1 21), .int .u8 (.o 1 22), .int .u8 (.o 1 23), .int .u8 (.o 1 24), .int .u8 (.o 1 25), .int .u8 (.o 1 26), .int .u8 (.o 1 27), .int .u8 (.o 1 28), .int .u8 (.o 1 29), .int .u8 (.o 1 30), .int .u8 (.o 1 31)], false⟩]
theorem cmpD_run : runRt Try.prog (RR tabT 1) 26 69 (flat (lpL Try.prog 69)) (cmpH) (cmpM [true, true]) = some ([.int .i64 (.c 0)], cmpD_tr, cmpD_mem) := by kernel_rfl
def cmpR_tr : List Ent := []
def cmpR_mem : List Chunk := [⟨[.int .u8 (.o 0 0), .int .u8 (.o 0 1), .int .u8 (.o 0 2), .int .u8 (.o 0 3), .int .u8 (.o 0 4), .int .u8 (.o 0 5), .int .u8 (.o 0 6), .int .u8 (.o 0 7), .int .u8 (.o 0 8), .int .u8 (.o 0 9), .int .u8 (.o 0 10), .int .u8 (.o 0 11), .int .u8 (.o 0 12), .int .u8 (.o 0 13), .int .u8 (.o 0 14), .int .u8 (.o 0 15), .int .u8 (.o 0 16), .int .u8 (.o 0 17), .int .u8 (.o 0 18), .int .u8 (.o 0 19), .int .u8 (.o 0 20), .int .u8 (.o 0 21), .int .u8 (.o 0 22), .int .u8 (.o 0 23), .int .u8 (.o 0 24), .int .u8 (.o 0 25), .int .u8 (.o 0 26), .int .u8 (.o 0 27), .int .u8 (.o 0 28), .int .u8 (.o 0 29), .int .u8 (.o 0 30), .int .u8 (.o 0 31)], false⟩, ⟨[.int .u8 (.o 1 0), .int .u8 (.o 1 1), .int .u8 (.o 1 2), .int .u8 (.o 1 3), .int .u8 (.o 1 4), .int .u8 (.o 1 5), .int .u8 (.o 1 6), .int .u8 (.o 1 7), .int .u8 (.o 1 8), .int .u8 (.o 1 9), .int .u8 (.o 1 10), .int .u8 (.o 1 11), .int .u8 (.o 1 12), .int .u8 (.o 1 13), .int .u8 (.o 1 14), .int .u8 (.o 1 15), .int .u8 (.o 1 16), .int .u8 (.o 1 17), .int .u8 (.o 1 18), .int .u8 (.o 1 19), .int .u8 (.o 1 20), .int .u8 (.o 1 21), .int .u8 (.o 1 22), .int .u8 (.o 1 23), .int .u8 (.o 1 24), .int .u8 (.o 1 25), .int .u8 (.o 1 26), .int .u8 (.o 1 27), .int .u8 (.o 1 28), .int .u8 (.o 1 29), .int .u8 (.o 1 30), .int .u8 (.o 1 31)], false⟩]
theorem cmpR_run : runRet Try.prog (RR tabT 1) 26 69 (poL Try.prog 69) (cmpH) (cmpM []) = some ([.int .i64 (.c 1)], cmpR_tr, cmpR_mem) := by kernel_rfl

theorem octsS_get {n : Nat} : ∀ {k i j : Nat} {x : SV}, (octsS n i k)[j]? = some x → x = .int .u8 (.o n (i + j)) ∧ j < k
  | 0, i, j, x, h => by simp [octsS] at h
  | k + 1, i, 0, x, h => by simp only [octsS, List.getElem?_cons_zero, Option.some.injEq] at h; exact ⟨h.symm, by omega⟩
  | k + 1, i, j + 1, x, h => by
    simp only [octsS, List.getElem?_cons_succ] at h
    obtain ⟨h1, h2⟩ := octsS_get h
    exact ⟨by rw [h1, show i + 1 + j = i + (j + 1) by omega], by omega⟩
theorem octsS_length (n : Nat) : ∀ k i, (octsS n i k).length = k
  | 0, _ => rfl
  | k + 1, i => by simp [octsS, octsS_length n k (i + 1)]
def cmpI (a b : Nat) (k : Nat) (ρ : Env) : Prop := k ≤ 32 ∧ ρ.n 0 = a ∧ ρ.n 1 = b ∧ ρ.i 0 = 32 - (k : Int) ∧ a % 256 ^ (32 - k) = b % 256 ^ (32 - k)
theorem rfl_idcmp : (0 : Nat) = idL Try.prog 69 := by kernel_rfl
theorem oct_mod (n k : Nat) : n % 256 ^ (k + 1) = n % 256 ^ k + 256 ^ k * octet n k := by
  unfold octet
  rw [Nat.pow_succ, Nat.mod_mul]
theorem cmp_c : CmpC Try.prog 69 := by
  intro w p q a b c d hp hq hc hd hpq
  let ρ0 : Env := envN [a, b] []
  let α0 : Adr := fun k => if k = 0 then some p else if k = 1 then some q else none
  have hα : ∀ k b' s', α0 k = some (b', s') → (k = 0 ∧ p = (b', s')) ∨ (k = 1 ∧ q = (b', s')) := by
    intro k b' s' h
    simp only [α0] at h
    split at h
    · rename_i h0; exact .inl ⟨h0, Option.some.inj h⟩
    · split at h
      · rename_i h0; exact .inr ⟨h0, Option.some.inj h⟩
      · cases h
  have hm0 : MRep ρ0 (fun _ _ => False) w α0 (cmp0 []).mem w := by
    refine ⟨Fr.refl _ _, fun k hk => ?_, ?_, ?_, ?_, ?_⟩
    · simp only [cmp0, List.length_cons, List.length_nil] at hk
      simp only [α0]; rw [if_neg (by omega), if_neg (by omega)]
    · intro k ch b' s' hk ha j x hx
      rcases hα k b' s' ha with ⟨rfl, e⟩ | ⟨rfl, e⟩
      · simp only [cmp0, List.getElem?_cons_zero, Option.some.injEq] at hk
        subst hk
        obtain ⟨rfl, hj⟩ := octsS_get hx
        have := hp j hj
        rw [e] at this
        refine ⟨_, this, ?_⟩
        have ho := octet_lt a j
        simp only [VRel, Sx.val, Nat.zero_add, inR, lo, hi]
        exact ⟨rfl, by omega, by show ((octet a j : Nat) : Int) < 256; omega⟩
      · simp only [cmp0, List.getElem?_cons_succ, List.getElem?_cons_zero, Option.some.injEq] at hk
        subst hk
        obtain ⟨rfl, hj⟩ := octsS_get hx
        have := hq j hj
        rw [e] at this
        refine ⟨_, this, ?_⟩
        have ho := octet_lt b j
        simp only [VRel, Sx.val, Nat.zero_add, inR, lo, hi]
        exact ⟨rfl, by omega, by show ((octet b j : Nat) : Int) < 256; omega⟩
    · intro k b' s' ha
      rcases hα k b' s' ha with ⟨rfl, e⟩ | ⟨rfl, e⟩
      · have := cell_lt (hp 0 (by omega)); rw [e] at this; exact this
      · have := cell_lt (hq 0 (by omega)); rw [e] at this; exact this
    · intro k ch b' s' hk ha hw
      rcases hα k b' s' ha with ⟨rfl, e⟩ | ⟨rfl, e⟩
      · simp only [cmp0, List.getElem?_cons_zero, Option.some.injEq] at hk
        subst hk; cases hw
      · simp only [cmp0, List.getElem?_cons_succ, List.getElem?_cons_zero, Option.some.injEq] at hk
        subst hk; cases hw
    · intro k k' ch ch' b1 s1 b2 s2 hne hk hk' ha ha'
      rcases hα k b1 s1 ha with ⟨rfl, e⟩ | ⟨rfl, e⟩ <;> rcases hα k' b2 s2 ha' with ⟨rfl, e'⟩ | ⟨rfl, e'⟩
      · exact absurd rfl hne
      · simp only [cmp0, List.getElem?_cons_succ, List.getElem?_cons_zero, Option.some.injEq] at hk hk'
        subst hk hk'
        rw [octsS_length, octsS_length]
        rw [e, e'] at hpq; exact hpq
      · simp only [cmp0, List.getElem?_cons_succ, List.getElem?_cons_zero, Option.some.injEq] at hk hk'
        subst hk hk'
        rw [octsS_length, octsS_length]
        rw [e, e'] at hpq
        simp only [Apart] at hpq ⊢; omega
      · exact absurd rfl hne
  have hv : VRels ρ0 α0 cmpA [.slice (some ⟨p.1, p.2, none⟩) 32 c, .slice (some ⟨q.1, q.2, none⟩) 32 d] := by
    simp only [cmpA, VRels, VRel]
    exact ⟨_, _, rfl, ⟨p.1, p.2, c, rfl, hc, rfl⟩, _, _, rfl, ⟨q.1, q.2, d, rfl, hd, rfl⟩, rfl⟩
  have e32 : W4 = 256 ^ 32 := by decide
  refine fn_invokes (ms := cmp0 []) (by kernel_rfl) hm0 (fun g c hgc => by simp [cmp0] at hgc) hv (of_decide_eq_true (by kernel_rfl)) fun ac hr => ?_
  refine fn_loop (by kernel_rfl) ?_
  refine to_head mix_ok (RR_ok tabT_ok _) cmp0_run (K := cmpI a b 32) hr (fun ρ ha hd => ⟨by simp only [cmp0_tr, Asms], ?_⟩) fun ρH α1 a1 w1 hK _ hr1 => ?_
  · have n0 : ρ.n 0 = a := ha.n 0 (by decide)
    have n1 : ρ.n 1 = b := ha.n 1 (by decide)
    refine ⟨⟨fun _ => 0, ρ.b, ρ.e, ρ.n, ρ.v⟩, rfl, ?_, ?_⟩
    · simp [cmp0_ob, Obs, Ob.ok, Sx.val]
    · exact ⟨Nat.le_refl _, n0, n1, rfl, by rw [Nat.sub_self, Nat.pow_zero, Nat.mod_one, Nat.mod_one]⟩
  simp only [SE.toExit, Exit.then, wps]
  refine loop_at (cmpI a b) α1 ?_ 32 ρH α1 a1 w1 hK (Ext.refl _ _) hr1
  intro k ρ α ac1 w1 hI hE hr
  obtain ⟨hk, n0, n1, i0, hb⟩ := hI
  cases k with
  | zero =>
    refine to_head mix_ok (RR_ok tabT_ok _) cmpX_run (ms := cmpM [false]) (K := fun ρH => True) (hr.orc rfl rfl) (fun ρ' ha hd => ?_) fun ρH α' a' w' hK _ hr' => ?_
    · have j0 : ρ'.i 0 = ρ.i 0 := ha.i 0 (by decide)
      simp only [cmpX_tr, Defs, Ent.def, Fb.sem, List.map_cons, List.map_nil, Sx.val, and_true, true_and] at hd
      exact ⟨by simp only [cmpX_tr, Asms, Ent.asn, Sb.val, and_true]; rw [hd]; exact decide_eq_false (by omega), ρ', rfl, by simp only [cmpX_ob, Obs, Ob.ok, and_true], trivial⟩
    · simp only [SE.toExit]
      rw [if_pos rfl_idcmp]
      refine to_ret mix_ok (RR_ok tabT_ok _) cmpR_run hr' fun ρ' ha hd => ⟨by simp only [cmpR_tr, Asms], fun α'' w'' v he hv hm => ?_⟩
      simp only [retOf, VRel, Sx.val] at hv
      rw [Nat.sub_zero, ← e32] at hb
      exact ⟨by rw [hv.1, if_pos hb], hm.fr⟩
  | succ k =>
    have ik : ρ.i 0 = ((31 - k : Nat) : Int) := by omega
    have ga := oct_mod a (31 - k)
    have gb := oct_mod b (31 - k)
    have e1 : 32 - (k + 1) = 31 - k := by omega
    have e2 : 31 - k + 1 = 32 - k := by omega
    rw [e1] at hb
    rw [e2] at ga gb
    by_cases hab : octet a (31 - k) = octet b (31 - k)
    · refine to_head mix_ok (RR_ok tabT_ok _) cmpE_run (ms := cmpM [true, false]) (K := cmpI a b k) (hr.orc rfl rfl) (fun ρ' ha hd => ?_) fun ρH α' a' w' hK hE' hr' => ⟨k, ρH, α', Nat.lt_succ_self k, hK, fun c hc => (hE' c hc hc).trans (hE c hc), hr'⟩
      have j0 : ρ'.i 0 = ρ.i 0 := ha.i 0 (by decide)
      have m0 : ρ'.n 0 = ρ.n 0 := ha.n 0 (by decide)
      have m1 : ρ'.n 1 = ρ.n 1 := ha.n 1 (by decide)
      simp only [cmpE_tr, Defs, Ent.def, Fb.sem, Fi.sem, List.map_cons, List.map_nil, Sx.val, and_true, true_and, j0, ik, m0, m1, n0, n1, Int.toNat_natCast] at hd
      obtain ⟨d1, b5, b4, b3, b2, b1, b0⟩ := hd
      refine ⟨?_, ⟨fun _ => ρ'.i 1, ρ'.b, ρ'.e, ρ'.n, ρ'.v⟩, rfl, ?_, ?_⟩
      · simp only [cmpE_tr, Asms, Ent.asn, Sb.val, and_true, true_and]
        refine ⟨?_, ?_, ?_, ?_, ?_, ?_⟩
        · rw [b5, hab]; exact bne_self_eq_false _
        · rw [b4]; exact decide_eq_true (by omega)
        · rw [b3]; exact decide_eq_true (by omega)
        · rw [b2]; exact decide_eq_true (by omega)
        · rw [b1]; exact decide_eq_true (by omega)
        · rw [b0]; exact decide_eq_true (by omega)
      · simp [cmpE_ob, Obs, Ob.ok, Sx.val]
      · refine ⟨by omega, by rw [← n0, ← m0], by rw [← n1, ← m1], ?_, by rw [ga, gb, hb, hab]⟩
        show ρ'.i 1 = _
        rw [d1]; simp only [wr]; omega
    · refine to_retL mix_ok (RR_ok tabT_ok _) cmpD_run (Post := fun v w' => v = .int .i64 (if a % W4 = b % W4 then 1 else 0) ∧ Fr (fun _ _ => False) w w') (ms := cmpM [true, true]) (hr.orc rfl rfl) (fun ρ' ha hd => ?_) fun a' w' h => h
      have j0 : ρ'.i 0 = ρ.i 0 := ha.i 0 (by decide)
      have m0 : ρ'.n 0 = ρ.n 0 := ha.n 0 (by decide)
      have m1 : ρ'.n 1 = ρ.n 1 := ha.n 1 (by decide)
      simp only [cmpD_tr, Defs, Ent.def, Fb.sem, Fi.sem, List.map_cons, List.map_nil, Sx.val, and_true, true_and, j0, ik, m0, m1, n0, n1, Int.toNat_natCast] at hd
      obtain ⟨b5, b4, b3, b2, b1, b0⟩ := hd
      refine ⟨?_, fun α' w' v he hv hm => ?_⟩
      · simp only [cmpD_tr, Asms, Ent.asn, Sb.val, and_true, true_and]
        refine ⟨?_, ?_, ?_, ?_, ?_, ?_⟩
        · rw [b5]; exact bne_iff_ne.2 (by omega)
        · rw [b4]; exact decide_eq_true (by omega)
        · rw [b3]; exact decide_eq_true (by omega)
        · rw [b2]; exact decide_eq_true (by omega)
        · rw [b1]; exact decide_eq_true (by omega)
        · rw [b0]; exact decide_eq_true (by omega)
      · simp only [retOf, VRel, Sx.val] at hv
        refine ⟨?_, hm.fr⟩
        rw [hv.1, if_neg]
        intro h
        refine hab ?_
        rw [← octet_mod a (31 - k) (by omega), ← octet_mod b (31 - k) (by omega), h]
end Go.Proofs.Ytachbdnefnnmfaa
