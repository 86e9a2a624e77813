/- power of the reference: its contract. No condition. -/
import Derived.Test.YtklgdgeeillpaaaDoorTbt
namespace Go.Proofs.YtklgdgeeillpaaaDoor
open Go Go.RowKit
set_option linter.unusedVariables false
set_option linter.unusedSimpArgs false
set_option maxRecDepth 100000
theorem rfl_idpow : (0 : Nat) = idL Tryd.prog 76 := by kernel_rfl

def pwH : Tm := tmS 8 [(3, .ptr 0 0), (4, .ptr 1 0), (5, .ptr 2 0), (6, .ptr 3 0), (7, .ptr 5 0), (8, .int .i64 (.x 0))]
def pwM (o : List Bool) : Ms := ⟨[⟨wrdsS 0 0 4, true⟩, ⟨wrdsS 1 0 4, true⟩, ⟨wrdsS 2 0 4, true⟩, ⟨anys 4, true⟩, ⟨anys 4, true⟩, ⟨wrdsS 3 0 4, true⟩], [], 1, 0, 0, 4, o, []⟩
theorem bitsF_lt {a n m : Nat} : ∀ (k out : Nat), out < W4 → bitsF a n m k out < W4
  | 0, out, h => h
  | k + 1, out, h => by
    simp only [bitsF]
    refine bitsF_lt k _ ?_
    split <;> exact plusN_lt
theorem timesN_lt {a b m : Nat} : timesN a b m < W4 := bitsF_lt 256 0 (by decide)
def pw0_tr : List Ent := []
def pw0_ob : List Ob := [.i (.x 0) (.c 255), .i (.w 0 0) (.w 0 0), .i (.w 0 1) (.w 0 1), .i (.w 0 2) (.w 0 2), .i (.w 0 3) (.w 0 3), .i (.w 1 0) (.w 1 0), .i (.w 1 1) (.w 1 1), .i (.w 1 2) (.w 1 2), .i (.w 1 3) (.w 1 3), .i (.w 2 0) (.w 2 0), .i (.w 2 1) (.w 2 1), .i (.w 2 2) (.w 2 2), .i (.w 2 3) (.w 2 3), .i (.w 3 0) (.c 1), .i (.w 3 1) (.c 0), .i (.w 3 2) (.c 0), .i (.w 3 3) (.c 0)]
theorem pw0_run : runTo Tryd.prog (RR tabT 1) 26 (prL Tryd.prog 76) (argsTm (Tm.full 12) 0 (argsN [.num, .num, .num] 0 0)) (msP 3 0 []) (pwH) (pwM []) = some (.normal, pw0_tr, pw0_ob) := by kernel_rfl
def pwX_tr : List Ent := [.asm (.x 0) false, .db 0 (.geq) [.x 0, .c 0] [] []]
def pwX_ob : List Ob := [.i (.x 0) (.x 0), .i (.w 0 0) (.w 0 0), .i (.w 0 1) (.w 0 1), .i (.w 0 2) (.w 0 2), .i (.w 0 3) (.w 0 3), .i (.w 1 0) (.w 1 0), .i (.w 1 1) (.w 1 1), .i (.w 1 2) (.w 1 2), .i (.w 1 3) (.w 1 3), .i (.w 2 0) (.w 2 0), .i (.w 2 1) (.w 2 1), .i (.w 2 2) (.w 2 2), .i (.w 2 3) (.w 2 3), .i (.w 3 0) (.w 3 0), .i (.w 3 1) (.w 3 1), .i (.w 3 2) (.w 3 2), .i (.w 3 3) (.w 3 3)]
theorem pwX_run : runTo Tryd.prog (RR tabT 1) 26 (flat (lpL Tryd.prog 76)) (pwH) (pwM [false]) (pwH) (pwM []) = some (.exit 0, pwX_tr, pwX_ob) := by kernel_rfl
def pwT_tr : List Ent := [.di 5 (.sub (.i64)) [.x 0, .c 1], .dn 5 (.times) [] [] [4, 0, 2], .asm (.x 4) true, .db 4 (.eql) [.x 4, .c 1] [] [], .di 4 (.and (.u64)) [.x 3, .c 1], .di 3 (.shr (.u64)) [.wi 1 1, .x 2], .asm (.x 3) true, .db 3 (.leq) [.c 0, .x 2] [] [], .di 2 (.rem (.i64)) [.x 0, .c 64], .asm (.x 2) true, .db 2 (.lss) [.x 1, .c 4] [] [], .asm (.x 1) true, .db 1 (.leq) [.c 0, .x 1] [] [], .di 1 (.quo (.i64)) [.x 0, .c 64], .dn 4 (.times) [] [] [3, 3, 2], .asm (.x 0) true, .db 0 (.geq) [.x 0, .c 0] [] []]
def pwT_ob : List Ob := [.i (.x 0) (.x 5), .i (.w 0 0) (.w 0 0), .i (.w 0 1) (.w 0 1), .i (.w 0 2) (.w 0 2), .i (.w 0 3) (.w 0 3), .i (.w 1 0) (.w 1 0), .i (.w 1 1) (.w 1 1), .i (.w 1 2) (.w 1 2), .i (.w 1 3) (.w 1 3), .i (.w 2 0) (.w 2 0), .i (.w 2 1) (.w 2 1), .i (.w 2 2) (.w 2 2), .i (.w 2 3) (.w 2 3), .i (.w 3 0) (.w 5 0), .i (.w 3 1) (.w 5 1), .i (.w 3 2) (.w 5 2), .i (.w 3 3) (.w 5 3)]
theorem pwT_run : runTo Tryd.prog (RR tabT 1) 26 (flat (lpL Tryd.prog 76)) (pwH) (pwM [true, true]) (pwH) (pwM []) = some (.normal, pwT_tr, pwT_ob) := by kernel_rfl
def pwF_tr : List Ent := [.di 5 (.sub (.i64)) [.x 0, .c 1], .asm (.x 4) false, .db 4 (.eql) [.x 4, .c 1] [] [], .di 4 (.and (.u64)) [.x 3, .c 1], .di 3 (.shr (.u64)) [.wi 1 1, .x 2], .asm (.x 3) true, .db 3 (.leq) [.c 0, .x 2] [] [], .di 2 (.rem (.i64)) [.x 0, .c 64], .asm (.x 2) true, .db 2 (.lss) [.x 1, .c 4] [] [], .asm (.x 1) true, .db 1 (.leq) [.c 0, .x 1] [] [], .di 1 (.quo (.i64)) [.x 0, .c 64], .dn 4 (.times) [] [] [3, 3, 2], .asm (.x 0) true, .db 0 (.geq) [.x 0, .c 0] [] []]
def pwF_ob : List Ob := [.i (.x 0) (.x 5), .i (.w 0 0) (.w 0 0), .i (.w 0 1) (.w 0 1), .i (.w 0 2) (.w 0 2), .i (.w 0 3) (.w 0 3), .i (.w 1 0) (.w 1 0), .i (.w 1 1) (.w 1 1), .i (.w 1 2) (.w 1 2), .i (.w 1 3) (.w 1 3), .i (.w 2 0) (.w 2 0), .i (.w 2 1) (.w 2 1), .i (.w 2 2) (.w 2 2), .i (.w 2 3) (.w 2 3), .i (.w 3 0) (.w 4 0), .i (.w 3 1) (.w 4 1), .i (.w 3 2) (.w 4 2), .i (.w 3 3) (.w 4 3)]
theorem pwF_run : runTo Tryd.prog (RR tabT 1) 26 (flat (lpL Tryd.prog 76)) (pwH) (pwM [true, false]) (pwH) (pwM []) = some (.normal, pwF_tr, pwF_ob) := by kernel_rfl
def pwR_tr : List Ent := []
def pwR_mem : List Chunk := [⟨[.int .u64 (.w 0 0), .int .u64 (.w 0 1), .int .u64 (.w 0 2), .int .u64 (.w 0 3)], true⟩, ⟨[.int .u64 (.w 1 0), .int .u64 (.w 1 1), .int .u64 (.w 1 2), .int .u64 (.w 1 3)], true⟩, ⟨[.int .u64 (.w 2 0), .int .u64 (.w 2 1), .int .u64 (.w 2 2), .int .u64 (.w 2 3)], true⟩, ⟨[.int .u64 (.w 3 0), .int .u64 (.w 3 1), .int .u64 (.w 3 2), .int .u64 (.w 3 3)], true⟩, ⟨[.any, .any, .any, .any], true⟩, ⟨[.int .u64 (.w 3 0), .int .u64 (.w 3 1), .int .u64 (.w 3 2), .int .u64 (.w 3 3)], true⟩]
theorem pwR_run : runRet Tryd.prog (RR tabT 1) 26 76 (poL Tryd.prog 76) (pwH) (pwM []) = some ([.agg [.int .u64 (.w 3 0), .int .u64 (.w 3 1), .int .u64 (.w 3 2), .int .u64 (.w 3 3)]], pwR_tr, pwR_mem) := by kernel_rfl
/-- What holds at the head: the arguments, and what is still to be reckoned. -/
def pwI (a b m : Nat) (k : Nat) (ρ : Env) : Prop := k ≤ 256 ∧ ρ.n 0 = a ∧ ρ.n 1 = b ∧ ρ.n 2 = m ∧ ρ.i 0 = (k : Int) - 1 ∧ ρ.n 3 < W4 ∧ powF a b m k (ρ.n 3) = powerN a b m
theorem power_c : NumC Tryd.prog 76 [.num, .num, .num] [.num .power] .one (fun _ _ => True) := by
  intro w ns xs vs hf _
  refine ⟨fun r hr => by simp at hr; subst hr; trivial, ?_⟩
  obtain ⟨a, b, m, rfl, rfl⟩ := fits3 hf
  have goal : (shape .one ([NR.num .power].map (NR.val [a, b, m] []))) = numV (powerN (a % W4) (b % W4) (m % W4)) := rfl
  rw [goal]
  rw [nfits3_mod] at hf
  have hA := mod_lt4 a
  have hB := mod_lt4 b
  have hM := mod_lt4 m
  generalize a % W4 = a at *
  generalize b % W4 = b at *
  generalize m % W4 = m at *
  refine fn_invokes (S := fun _ _ => False) (w0 := w) (ρ := envN [a, b, m] []) (α := fun _ => none) (ms := msP 3 0 []) (by kernel_rfl) MRep.none (fun g c hgc => by simp [msP] at hgc) (numArgs hf) (of_decide_eq_true (by kernel_rfl)) fun ac hr => ?_
  refine fn_loop (by kernel_rfl) ?_
  refine to_head mix_ok (RR_ok tabT_ok _) pw0_run (K := pwI a b m 256) hr (fun ρ ha hd => ⟨by simp only [pw0_tr, Asms], ?_⟩) fun ρH α1 a1 w1 hK _ hr1 => ?_
  · have n0 : ρ.n 0 = a := ha.n 0 (by decide)
    have n1 : ρ.n 1 = b := ha.n 1 (by decide)
    have n2 : ρ.n 2 = m := ha.n 2 (by decide)
    refine ⟨⟨fun _ => 255, ρ.b, ρ.e, fun j => if j = 3 then 1 else ρ.n j, ρ.v⟩, rfl, ?_, ?_⟩
    · simp [pw0_ob, Obs, Ob.ok, Sx.val, word]
    · exact ⟨Nat.le_refl _, n0, n1, n2, rfl, (by decide : (1 : Nat) < W4), rfl⟩
  simp only [SE.toExit, Exit.then, wps]
  refine loop_at (pwI a b m) α1 ?_ 256 ρH α1 a1 w1 hK (Ext.refl _ _) hr1
  intro k ρ α ac1 w1 hI hE hr
  obtain ⟨hk, n0, n1, n2, i0, h3, hb⟩ := hI
  cases k with
  | zero =>
    refine to_head mix_ok (RR_ok tabT_ok _) pwX_run (ms := pwM [false]) (K := fun ρH => ρH.n 3 = powerN a b m) (hr.orc rfl rfl) (fun ρ' ha hd => ?_) fun ρH α' a' w' hK _ hr' => ?_
    · have j0 : ρ'.i 0 = ρ.i 0 := ha.i 0 (by decide)
      have m3 : ρ'.n 3 = ρ.n 3 := ha.n 3 (by decide)
      simp only [pwX_tr, Defs, Ent.def, Fb.sem, List.map_cons, List.map_nil, Sx.val, and_true, true_and] at hd
      refine ⟨by simp only [pwX_tr, Asms, Ent.asn, Sb.val, and_true]; rw [hd]; exact decide_eq_false (by omega), ρ', rfl, by simp only [pwX_ob, Obs, Ob.ok, and_true], ?_⟩
      rw [m3]; exact hb
    · simp only [SE.toExit]
      rw [if_pos rfl_idpow]
      refine to_ret mix_ok (RR_ok tabT_ok _) pwR_run hr' fun ρ' ha hd => ⟨by simp only [pwR_tr, Asms], fun α'' w'' v he hv hm => ?_⟩
      have m3 : ρ'.n 3 = ρH.n 3 := ha.n 3 (by decide)
      exact ⟨by rw [numS_val (n := 3) hv, m3, hK], hm.fr⟩
  | succ k =>
    have hk' : k < 256 := by omega
    have ik : ρ.i 0 = (k : Int) := by omega
    have e256 : ∀ x : Nat, x < W4 → x % W4 = x := fun x hx => Nat.mod_eq_of_lt hx
    cases hbit : b.testBit k with
    | true =>
      refine to_head mix_ok (RR_ok tabT_ok _) pwT_run (ms := pwM [true, true]) (K := pwI a b m k) (hr.orc rfl rfl) (fun ρ' ha hd => ?_) fun ρH α' a' w' hK hE' hr' => ⟨k, ρH, α', Nat.lt_succ_self k, hK, fun c hc => (hE' c hc hc).trans (hE c hc), hr'⟩
      have j0 : ρ'.i 0 = ρ.i 0 := ha.i 0 (by decide)
      have m0 : ρ'.n 0 = ρ.n 0 := ha.n 0 (by decide)
      have m1 : ρ'.n 1 = ρ.n 1 := ha.n 1 (by decide)
      have m2 : ρ'.n 2 = ρ.n 2 := ha.n 2 (by decide)
      have m3 : ρ'.n 3 = ρ.n 3 := ha.n 3 (by decide)
      simp only [pwT_tr, Defs, Ent.def, Fb.sem, Fi.sem, Fn.sem, List.map_cons, List.map_nil, Sx.val, and_true, true_and, nbits, j0, ik, m0, m1, m2, m3, n0, n1, n2, e256 a hA, e256 m hM, e256 (ρ.n 3) h3] at hd
      obtain ⟨d5, p5, b4, d4, d3, b3, d2, b2, b1, d1, p4, b0⟩ := hd
      obtain ⟨t1, t2, t3, t4⟩ := bit_test (n := b) (by omega) (by omega) d1 d2 d3 d4
      rw [e256 (ρ'.n 4) (by rw [p4]; exact timesN_lt), p4] at p5
      refine ⟨?_, ⟨fun _ => ρ'.i 5, ρ'.b, ρ'.e, fun j => if j = 3 then ρ'.n 5 else ρ'.n j, ρ'.v⟩, rfl, ?_, ?_⟩
      · simp only [pwT_tr, Asms, Ent.asn, Sb.val, and_true, true_and]
        refine ⟨?_, ?_, ?_, ?_, ?_⟩
        · rw [b4, t1, Int.toNat_natCast]; exact hbit
        · rw [b3]; exact decide_eq_true t4
        · rw [b2]; exact decide_eq_true t3
        · rw [b1]; exact decide_eq_true t2
        · rw [b0]; exact decide_eq_true (by omega)
      · simp [pwT_ob, Obs, Ob.ok, Sx.val]
      · refine ⟨by omega, by rw [← n0, ← m0]; rfl, by rw [← n1, ← m1]; rfl, by rw [← n2, ← m2]; rfl, ?_, ?_, ?_⟩
        · show ρ'.i 5 = _
          rw [d5]; simp only [wr]; omega
        · show ρ'.n 5 < W4
          rw [p5]; exact timesN_lt
        · show powF a b m k (ρ'.n 5) = _
          rw [← hb, p5]
          simp only [powF, hbit, if_true]
    | false =>
      refine to_head mix_ok (RR_ok tabT_ok _) pwF_run (ms := pwM [true, false]) (K := pwI a b m k) (hr.orc rfl rfl) (fun ρ' ha hd => ?_) fun ρH α' a' w' hK hE' hr' => ⟨k, ρH, α', Nat.lt_succ_self k, hK, fun c hc => (hE' c hc hc).trans (hE c hc), hr'⟩
      have j0 : ρ'.i 0 = ρ.i 0 := ha.i 0 (by decide)
      have m0 : ρ'.n 0 = ρ.n 0 := ha.n 0 (by decide)
      have m1 : ρ'.n 1 = ρ.n 1 := ha.n 1 (by decide)
      have m2 : ρ'.n 2 = ρ.n 2 := ha.n 2 (by decide)
      have m3 : ρ'.n 3 = ρ.n 3 := ha.n 3 (by decide)
      simp only [pwF_tr, Defs, Ent.def, Fb.sem, Fi.sem, Fn.sem, List.map_cons, List.map_nil, Sx.val, and_true, true_and, nbits, j0, ik, m0, m1, m2, m3, n0, n1, n2, e256 a hA, e256 m hM, e256 (ρ.n 3) h3] at hd
      obtain ⟨d5, b4, d4, d3, b3, d2, b2, b1, d1, p4, b0⟩ := hd
      obtain ⟨t1, t2, t3, t4⟩ := bit_test (n := b) (by omega) (by omega) d1 d2 d3 d4
      refine ⟨?_, ⟨fun _ => ρ'.i 5, ρ'.b, ρ'.e, fun j => if j = 3 then ρ'.n 4 else ρ'.n j, ρ'.v⟩, rfl, ?_, ?_⟩
      · simp only [pwF_tr, Asms, Ent.asn, Sb.val, and_true, true_and]
        refine ⟨?_, ?_, ?_, ?_, ?_⟩
        · rw [b4, t1, Int.toNat_natCast]; exact hbit
        · rw [b3]; exact decide_eq_true t4
        · rw [b2]; exact decide_eq_true t3
        · rw [b1]; exact decide_eq_true t2
        · rw [b0]; exact decide_eq_true (by omega)
      · simp [pwF_ob, Obs, Ob.ok, Sx.val]
      · refine ⟨by omega, by rw [← n0, ← m0]; rfl, by rw [← n1, ← m1]; rfl, by rw [← n2, ← m2]; rfl, ?_, ?_, ?_⟩
        · show ρ'.i 5 = _
          rw [d5]; simp only [wr]; omega
        · show ρ'.n 4 < W4
          rw [p4]; exact timesN_lt
        · show powF a b m k (ρ'.n 4) = _
          rw [← hb, p4]
          simp only [powF, hbit]
          rfl
end Go.Proofs.YtklgdgeeillpaaaDoor
