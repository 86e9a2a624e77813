/- The model does what spure reckons. No condition. -/
import Derived.Test.YtklgdgeeillpaaaDoorPur3
namespace Go.Proofs.YtklgdgeeillpaaaDoor
open Go Go.RowKit
set_option linter.unusedVariables false
set_option linter.unusedSimpArgs false

section
variable {ρ : Env} {α : Adr} {P : Program} {w : World} {kn : Nat → Option Bool} {ni nb : Nat} {ev : Operand → Option SV} {a : Act}
theorem sub_bound {n : Nat} {o : Operand} {k : IntKind} {i : Int} {y : Nat} {code : BoundsCode} (h : a.eval o = .int k i) (h0 : 0 ≤ i) (h1 : i ≤ y) (hn : n = i.toNat) : (Instr.sliceBound (a.eval o) y code).run P w = .ok n w := by
  simp only [Instr.sliceBound, h, asIntOf, Sem.run_bind, Sem.run_pure, Result.andThen_ok, h0, h1, and_self, if_true, hn]
theorem bounds_ok (he : ∀ x s, ev x = some s → VRel ρ α s (a.eval x)) {lo hi : Option Operand} {isS : Bool} {len cap h l : Nat} (hh : sbound ev hi cap len = some h) (hl : sbound ev lo h 0 = some l) :
    (Instr.sliceBounds isS len cap (lo.map a.eval) (hi.map a.eval) none).run P w = .ok (l, h, cap) w := by
  rcases sbound_ok he hh with ⟨rfl, rfl⟩ | ⟨o, k, i, rfl, e1, e2, e3, e4⟩ <;> rcases sbound_ok he hl with ⟨rfl, rfl⟩ | ⟨o', k', i', rfl, f1, f2, f3, f4⟩
  · simp only [Instr.sliceBounds, Option.map_none, Sem.run_bind, Sem.run_pure, Result.andThen_ok]
  · simp only [Instr.sliceBounds, Option.map_none, Option.map_some, Sem.run_bind, Sem.run_pure, Result.andThen_ok, sub_bound f1 f2 f3 f4]
  · simp only [Instr.sliceBounds, Option.map_none, Option.map_some, Sem.run_bind, Sem.run_pure, Result.andThen_ok, sub_bound e1 e2 e3 e4]
  · simp only [Instr.sliceBounds, Option.map_none, Option.map_some, Sem.run_bind, Sem.run_pure, Result.andThen_ok, sub_bound e1 e2 e3 e4, sub_bound f1 f2 f3 f4]

theorem sbound_up {x : Option Operand} {y y' d n : Nat} (hy : y ≤ y') (h : sbound ev x y d = some n) : sbound ev x y' d = some n := by
  unfold sbound at h ⊢
  split at h
  · exact h
  · split at h
    · split at h
      · rename_i hc
        rw [if_pos ⟨hc.1, by omega⟩]; exact h
      · cases h
    · cases h
theorem inB_ok {nb m len : Nat} (h : Sat ρ (inB nb m len)) : 0 ≤ ρ.i m ∧ ρ.i m < len := by
  simp only [inB, Sat, Ent.ok, Sb.val, List.map_cons, List.map_nil, Sx.val, Fb.sem] at h
  obtain ⟨h1, h2, h3, h4, _⟩ := h
  rw [h1] at h2
  rw [h3] at h4
  exact ⟨of_decide_eq_true h4.symm, of_decide_eq_true h2.symm⟩
theorem spure_ok {o : Oper} {r : PR} (h : spure P kn ni nb ev o.op = some r) (hs : Sat ρ r.2.1) (hk : Kn ρ kn) (he : ∀ x s, ev x = some s → VRel ρ α s (a.eval x)) :
    ∃ v, (execOp a.eval o).run P w = .ok (.value v) w ∧ VRel ρ α r.1 v := by
  obtain ⟨dst, op, ty, pos, after, guard⟩ := o
  simp only at h
  cases op <;> simp only [spure, reduceCtorEq] at h
  case move x => exact ⟨_, by simp only [execOp, Sem.run_pure], he _ _ (keep_some h)⟩
  case assign x => exact ⟨_, by simp only [execOp, Sem.run_pure], he _ _ (keep_some h)⟩
  case pick c x y =>
    split at h
    · rename_i s hc
      have h1 := he _ _ hc
      simp only [VRel] at h1
      split at h
      · rename_i hkn
        refine ⟨a.eval x, ?_, he _ _ (keep_some h)⟩
        simp only [execOp, h1, known_ok hk hkn, asBool, Sem.run_bind, Sem.run_pure, Result.andThen_ok, if_true]
      · rename_i hkn
        refine ⟨a.eval y, ?_, he _ _ (keep_some h)⟩
        simp only [execOp, h1, known_ok hk hkn, asBool, Sem.run_bind, Sem.run_pure, Result.andThen_ok, if_false, Bool.false_eq_true]
      · cases h
    · cases h
  case nilCheck x =>
    split at h
    · rename_i c o hx
      simp only [Option.some.injEq] at h
      subst h
      have h1 := he _ _ hx
      have h2 := h1
      simp only [VRel] at h2
      obtain ⟨b, s, _, h3⟩ := h2
      refine ⟨a.eval x, ?_, h1⟩
      simp only [execOp, h3, Sem.run_pure]
    · cases h
  case binOp op t x y yt =>
    split at h
    · rename_i k i k' j hx hy
      have h1 := he _ _ hx
      have h2 := he _ _ hy
      simp only [VRel] at h1 h2
      obtain ⟨v, hv, hr⟩ := sbinI_ok (P := P) (w := w) (t := t) (α := α) h hs h1.2 h2.2
      refine ⟨v, ?_, hr⟩
      simp only [execOp, h1.1, h2.1, Sem.run_bind, eqGuard_int, Result.andThen_ok, hv, Sem.run_pure]
    · rename_i sx sy _ hx hy
      split at h
      · obtain ⟨z, hz, hr⟩ := seqv_ok (P := P) (w := w) hk h hs (he _ _ hx) (he _ _ hy)
        refine ⟨z, ?_, hr⟩
        simp only [Bool.false_eq_true, if_false] at hz
        simp only [execOp, Sem.run_bind] at hz ⊢
        rw [hz]; simp only [Result.andThen_ok, Sem.run_pure]
      · obtain ⟨z, hz, hr⟩ := seqv_ok (P := P) (w := w) hk h hs (he _ _ hx) (he _ _ hy)
        refine ⟨z, ?_, hr⟩
        simp only [if_true] at hz
        simp only [execOp, Sem.run_bind] at hz ⊢
        rw [hz]; simp only [Result.andThen_ok, Sem.run_pure]
      · cases h
    · cases h
  case unOp op t x =>
    split at h
    · rename_i k i hx
      simp only [Option.some.injEq] at h
      subst h
      have h1 := he _ _ hx
      simp only [VRel] at h1
      refine ⟨_, ?_, fi_ok _ _ _ _ _ hs (wr_in _ _)⟩
      simp only [execOp, h1.1, Op.unary, Op.intArith, Sem.run_bind, Sem.run_pure, Result.andThen_ok, wr_eq, Fi.sem, List.map_cons, List.map_nil]
    · rename_i k i hx
      simp only [Option.some.injEq] at h
      subst h
      have h1 := he _ _ hx
      simp only [VRel] at h1
      refine ⟨_, ?_, fi_ok _ _ _ _ _ hs (wr_in _ _)⟩
      have hmax : (BitVec.ofInt k.bits (if k.signed then -1 else k.max)).toNat = ubN k := by cases k <;> rfl
      simp only [execOp, h1.1, Op.unary, Op.intBits, Sem.run_bind, Sem.run_pure, Result.andThen_ok, wr_eq, Fi.sem, List.map_cons, List.map_nil, BitVec.toNat_xor, ub_eq, hmax]
    · rename_i s hx
      have h1 := he _ _ hx
      simp only [VRel] at h1
      have hrun : (execOp a.eval ⟨dst, .unOp .not t x, ty, pos, after, guard⟩).run P w = .ok (.value (.bool (!s.val ρ))) w := by
        simp only [execOp, h1, Op.unary, Sem.run_bind, Sem.run_pure, Result.andThen_ok]
      refine ⟨_, hrun, ?_⟩
      split at h
      · rename_i b hb
        simp only [Option.some.injEq] at h
        subst h
        simp only [VRel]
        rw [known_ok hk hb]; rfl
      · simp only [Option.some.injEq] at h
        subst h
        simp only [Sat, Ent.ok, and_true] at hs
        simp only [VRel]
        show Value.bool (!s.val ρ) = .bool (ρ.b nb)
        rw [hs]; rfl
    · cases h
  case convert src dst' x =>
    split at h
    · rename_i d k k' i hsrc hdst hx
      simp only [Option.some.injEq] at h
      subst h
      have h1 := he _ _ hx
      simp only [VRel] at h1
      refine ⟨_, ?_, fi_ok _ _ _ _ _ hs (wr_in _ _)⟩
      simp only [execOp, convert, h1.1, Sem.run_bind, run_und hsrc, run_und hdst, Result.andThen_ok, Conv.intToInt, Sem.run_pure, wr_eq, Fi.sem, List.map_cons, List.map_nil]
    · cases h
  case makeInterface t x =>
    split at h
    · cases h
    · rename_i d s hn ht hx
      simp only [Option.some.injEq] at h
      subst h
      refine ⟨.iface t (a.eval x), ?_, by simp only [VRel]; exact ⟨_, rfl, he _ _ hx⟩⟩
      cases d <;> first | (exact absurd rfl (hn _)) | (simp only [execOp, Instr.makeInterface, Sem.run_bind, run_und ht, Result.andThen_ok, Sem.run_pure])
    · cases h
  case fieldAddr t x f =>
    split at h
    · rename_i fs c o ht hx
      split at h
      · rename_i fd hf
        have h1 := he _ _ hx
        simp only [VRel] at h1
        obtain ⟨b, s, hα, h3⟩ := h1
        split at h
        · cases h
        · rename_i z hz0 hz
          simp only [Option.some.injEq] at h
          subst h
          refine ⟨.pointer (some ⟨b, s + (o + fd.offset), none⟩), ?_, by simp only [VRel]; exact ⟨b, s, hα, rfl⟩⟩
          have hz' : z ≠ 0 := fun e => hz0 e
          simp only [execOp, Instr.fieldAt, Sem.run_bind, run_und ht, Result.andThen_ok, hf, h3, Instr.sureAddr, Sem.run_pure, fieldPlace, run_size hz, hz', if_false, add_none, Nat.add_assoc]
        · cases h
      · cases h
    · cases h
  case field t x f =>
    split at h
    · rename_i fs vs ht hx
      split at h
      · rename_i fd hf
        have h1 := he _ _ hx
        simp only [VRel] at h1
        obtain ⟨us, h3, h4⟩ := h1
        obtain ⟨v, hv, hr⟩ := spart_ok (P := P) (w := w) (keep_some h) h4
        refine ⟨v, ?_, hr⟩
        simp only [execOp, Instr.field, Sem.run_bind, run_und ht, Result.andThen_ok, hf, h3, asAgg, Sem.run_pure, hv]
      · cases h
    · cases h
  case indexAddr t x i =>
    split at h
    · rename_i k n hi
      have h0 := he _ _ hi
      simp only [VRel, Sx.val] at h0
      split at h
      · rename_i len e c o ht hx
        split at h
        · rename_i j z hj hz
          simp only [Option.some.injEq] at h
          subst h
          obtain ⟨j0, j1, j2⟩ := sidx_ok hj
          have h1 := he _ _ hx
          simp only [VRel] at h1
          obtain ⟨b, s, hα, h3⟩ := h1
          refine ⟨.pointer (some ⟨b, s + (o + j * z), none⟩), ?_, by simp only [VRel]; exact ⟨b, s, hα, rfl⟩⟩
          simp only [execOp, Instr.indexAt, h0.1, asIntOf, Sem.run_bind, run_und ht, Result.andThen_ok, h3, Instr.sureAddr, Sem.run_pure, j0, j1, and_self, if_true, run_size hz, j2, add_none, Nat.add_assoc]
        · cases h
      · rename_i e c o len cap ht hx
        split at h
        · rename_i j z hj hz
          simp only [Option.some.injEq] at h
          subst h
          obtain ⟨j0, j1, j2⟩ := sidx_ok hj
          have h1 := he _ _ hx
          simp only [VRel] at h1
          obtain ⟨b, s, _, hα, _, h3⟩ := h1
          refine ⟨.pointer (some ⟨b, s + (o + j * z), none⟩), ?_, by simp only [VRel]; exact ⟨b, s, hα, rfl⟩⟩
          simp only [execOp, Instr.indexAt, h0.1, asIntOf, Sem.run_bind, run_und ht, Result.andThen_ok, h3, Instr.sureAddr, Sem.run_pure, j0, j1, and_self, if_true, run_size hz, j2, add_none, Nat.add_assoc]
        · cases h
      · cases h
    · rename_i k m hi
      have h0 := he _ _ hi
      simp only [VRel, Sx.val] at h0
      split at h
      · rename_i len e c o ht hx
        split at h
        · rename_i hz
          simp only [Option.some.injEq] at h
          subst h
          obtain ⟨m0, m1⟩ := inB_ok hs
          have h1 := he _ _ hx
          simp only [VRel] at h1
          obtain ⟨b, s, hα, h3⟩ := h1
          refine ⟨.pointer (some ⟨b, s + o + (ρ.i m).toNat, none⟩), ?_, by simp only [VRel]; exact ⟨b, s, hα, rfl, m0, m1⟩⟩
          simp only [execOp, Instr.indexAt, h0.1, asIntOf, Sem.run_bind, run_und ht, Result.andThen_ok, h3, Instr.sureAddr, Sem.run_pure, m0, m1, and_self, if_true, run_size hz, Nat.mul_one, add_none, Nat.add_assoc]
        · cases h
      · rename_i e c o len cap ht hx
        split at h
        · rename_i hz
          simp only [Option.some.injEq] at h
          subst h
          obtain ⟨m0, m1⟩ := inB_ok hs
          have h1 := he _ _ hx
          simp only [VRel] at h1
          obtain ⟨b, s, _, hα, _, h3⟩ := h1
          refine ⟨.pointer (some ⟨b, s + o + (ρ.i m).toNat, none⟩), ?_, by simp only [VRel]; exact ⟨b, s, hα, rfl, m0, m1⟩⟩
          simp only [execOp, Instr.indexAt, h0.1, asIntOf, Sem.run_bind, run_und ht, Result.andThen_ok, h3, Instr.sureAddr, Sem.run_pure, m0, m1, and_self, if_true, run_size hz, Nat.mul_one, add_none, Nat.add_assoc]
        · cases h
      · cases h
    · cases h
  case index t x i =>
    split at h
    · rename_i k n hi
      have h0 := he _ _ hi
      simp only [VRel, Sx.val] at h0
      split at h
      · rename_i len e vs ht hx
        split at h
        · rename_i j z hj hz
          obtain ⟨j0, j1, j2⟩ := sidx_ok hj
          have h1 := he _ _ hx
          simp only [VRel] at h1
          obtain ⟨us, h3, h4⟩ := h1
          obtain ⟨v, hv, hr⟩ := spart_ok (P := P) (w := w) (keep_some h) h4
          refine ⟨v, ?_, hr⟩
          simp only [execOp, Instr.index, h0.1, asIntOf, Sem.run_bind, run_und ht, Result.andThen_ok, h3, Sem.run_pure, j0, j1, and_self, if_true, run_size hz, j2, hv]
        · cases h
      · cases h
    · cases h
  case extract x i =>
    split at h
    · rename_i vs hx
      have h1 := he _ _ hx
      simp only [VRel] at h1
      obtain ⟨us, h3, h4⟩ := h1
      obtain ⟨u, hu, hr⟩ := VRels.get h4 (keep_some h)
      refine ⟨u, ?_, hr⟩
      simp only [execOp, Instr.extract, h3, List.getElem?_toArray, hu, Sem.run_bind, Sem.run_pure, Result.andThen_ok]
    · cases h
  case slice t x lo hi mx =>
    cases mx with
    | some m => cases h
    | none =>
      simp only at h
      split at h
      · rename_i n e c o ht hx
        split at h
        · rename_i hh s hhi hz
          split at h
          · rename_i l hlo
            simp only [Option.some.injEq] at h
            subst h
            have h1 := he _ _ hx
            simp only [VRel] at h1
            obtain ⟨b, s', hα, h3⟩ := h1
            have hb := bounds_ok (P := P) (w := w) (isS := false) he hhi hlo
            refine ⟨.slice (some ⟨b, s' + (if n = l then o else o + l * s), none⟩) (hh - l) (n - l), ?_, by simp only [VRel]; exact ⟨b, s', n - l, hα, Nat.le_refl _, rfl⟩⟩
            simp only [execOp, Instr.sliceAt, Sem.run_bind, run_und ht, Result.andThen_ok, h3, Instr.sureAddr, Sem.run_pure, Option.map_none, hb, run_size hz, add_none]
            by_cases hnl : n = l
            · simp only [hnl, if_true]
            · simp only [hnl, if_false, Nat.add_assoc]
          · cases h
        · cases h
      · rename_i e c o len cap ht hx
        split at h
        · rename_i hh s hhi hz
          split at h
          · rename_i l hlo
            split at h
            · rename_i hlc
              simp only [Option.some.injEq] at h
              subst h
              have h1 := he _ _ hx
              simp only [VRel] at h1
              obtain ⟨b, s', cap', hα, hcap, h3⟩ := h1
              have hb := bounds_ok (P := P) (w := w) (isS := true) he (sbound_up hcap hhi) hlo
              refine ⟨.slice (some ⟨b, s' + (o + l * s), none⟩) (hh - l) (cap' - l), ?_, by simp only [VRel]; exact ⟨b, s', cap' - l, hα, by omega, rfl⟩⟩
              simp only [execOp, Instr.sliceAt, Instr.slice, Sem.run_bind, run_und ht, Result.andThen_ok, h3, Sem.run_pure, Option.map_none, hb, run_size hz, Option.map_some, add_none]
              have hnl : cap' ≠ l := by omega
              simp only [hnl, if_false, Nat.add_assoc]
            · cases h
          · cases h
        · cases h
      · cases h
  case build t parts =>
    split at h
    · rename_i ps hp
      split at h
      · rename_i vs hb
        simp only [Option.some.injEq] at h
        subst h
        obtain ⟨v, hv, hr⟩ := sbuild_ok (P := P) (w := w) hb (sparts_ok he hp)
        refine ⟨v, ?_, hr⟩
        have e1 : (parts.map fun (i, x) => (i, a.eval x)) = (parts.toList.map fun (i, x) => (i, a.eval x)).toArray := by
          rw [← Array.toList_map]
        simp only [execOp, Sem.run_bind]
        rw [e1, hv]
        simp only [Result.andThen_ok, Sem.run_pure]
      · cases h
    · cases h
  case call c =>
    obtain ⟨callee, args, argTypes⟩ := c
    simp only at h
    split at h
    · split at h
      · rename_i x t hargs hty
        split at h
        · rename_i e c o n cap ht hx
          split at h
          · rename_i hn
            simp only [Option.some.injEq] at h
            subst h
            have h1 := he _ _ hx
            simp only [VRel] at h1
            obtain ⟨b, s', cap', hα, _, h3⟩ := h1
            refine ⟨.int .i64 n, ?_, by simp only [VRel, Sx.val, true_and]; exact hn⟩
            have hm : args.map a.eval = #[a.eval x] := by
              have : args = #[x] := by rw [← Array.toList_inj]; exact hargs
              rw [this]; simp
            simp only [execOp, resolve, Sem.run_bind, Sem.run_pure, Result.andThen_ok, invoke, builtin, hm, Builtin.len_, hty, List.getElem?_toArray, List.getElem?_cons_zero, run_und ht, h3, goInt]
          · cases h
        · rename_i e i ht hx
          simp only [Option.some.injEq] at h
          subst h
          have h1 := he _ _ hx
          simp only [VRel] at h1
          obtain ⟨ad, n, cap', h3, hn, hin⟩ := h1
          refine ⟨.int .i64 n, ?_, by simp only [VRel, Sx.val]; rw [← hn]; exact ⟨rfl, hin⟩⟩
          have hm : args.map a.eval = #[a.eval x] := by
            have : args = #[x] := by rw [← Array.toList_inj]; exact hargs
            rw [this]; simp
          simp only [execOp, resolve, Sem.run_bind, Sem.run_pure, Result.andThen_ok, invoke, builtin, hm, Builtin.len_, hty, List.getElem?_toArray, List.getElem?_cons_zero, run_und ht, h3, goInt]
        · cases h
      · cases h
    · cases h
end
end Go.Proofs.YtklgdgeeillpaaaDoor
