/- SetBytes and Bytes of elements: their contracts. No condition. -/
import Derived.Test.YtpaidbefbkokfaaDoorByc
namespace Go.Proofs.YtpaidbefbkokfaaDoor
open Go Go.RowKit Go.Lib
set_option linter.unusedVariables false
set_option linter.unusedSimpArgs false
set_option maxRecDepth 100000

theorem sb_c : SbC Tryd.prog 11 := by
  intro w v q n c hc hown hro hap
  have hm0 : MRep (envN [n] []) (SofL [v, q] [⟨anys 5, true⟩, ⟨octsS 0 0 32, false⟩]) w (adrL [v, q]) [⟨anys 5, true⟩, ⟨octsS 0 0 32, false⟩] w := by
    refine mrep_of rfl (fun k p ch hp hch => ?_) (fun k k' p p' ch ch' hlt hp hp' hch hch' => ?_)
    · match k, hp, hch with
      | 0, hp, hch =>
        simp only [List.getElem?_cons_zero, Option.some.injEq] at hp hch
        subst hp hch
        exact lies_anys (by decide) hown true
      | 1, hp, hch =>
        simp only [List.getElem?_cons_succ, List.getElem?_cons_zero, Option.some.injEq] at hp hch
        subst hp hch
        exact lies_octs (by decide) hro
      | k + 2, hp, _ => simp at hp
    · have h1 := (List.getElem?_eq_some_iff.1 hp').1
      simp only [List.length_cons, List.length_nil] at h1
      have e1 : k = 0 := by omega
      have e2 : k' = 1 := by omega
      subst e1 e2
      simp only [List.getElem?_cons_succ, List.getElem?_cons_zero, Option.some.injEq] at hp hp' hch hch'
      subst hp hp' hch hch'
      rw [anys_length, octsS_len]
      exact hap
  have hv : VRels (envN [n] []) (adrL [v, q]) [.ptr 0 0, .slice 1 0 32 32] [ptrV v, sliceV q 32 c] := by
    simp only [VRels, VRel]
    exact ⟨_, _, rfl, ⟨v.1, v.2, rfl, rfl⟩, _, _, rfl, ⟨q.1, q.2, c, rfl, hc, rfl⟩, rfl⟩
  refine (run_calls (body_ok tabW_ok _ _) elOf_run hm0 (fun g c hgc => by simp at hgc) hv fun ρ' ha hd => (elOf_math ρ' hd).1).mono ?_
  rintro r w' ⟨ρ', α', ha, hd, hext, hret, hm⟩
  have hn : ρ'.n 0 = n := ha.n 0 (by decide)
  have hz := (elOf_math ρ' hd).2
  rw [hn] at hz
  have hα : α' 0 = some v := hext 0 (by decide)
  refine ⟨?_, hm.fr.mono fun b j hbj => ?_, ?_⟩
  · simp only [VRel, VRels] at hret
    obtain ⟨us, rfl, u1, t1, rfl, ⟨b, s, ha1, rfl⟩, u2, t2, rfl, rfl, rfl⟩ := hret
    rw [hα] at ha1
    cases ha1
    rfl
  · obtain ⟨p, ch, h1, h2, _, h4⟩ := sofL_first (by decide) hbj
    simp only [List.getElem?_cons_zero, Option.some.injEq] at h1 h2
    subst h1 h2
    exact .inl h4
  · intro j hj
    have hcell : ∀ (j : Nat) (x : Sx), [Sx.x 23, Sx.x 48, Sx.x 73, Sx.x 98, Sx.x 123][j]? = some x → w'.cell? ⟨v.1, v.2 + j, none⟩ = some (.int .u64 (x.val ρ')) := by
      intro j x hx
      obtain ⟨u, h1, h2⟩ := hm.cell 0 _ v.1 v.2 rfl hα j (.int .u64 x) (by
        match j, hx with
        | 0, hx => simpa [elOf_ms] using hx
        | 1, hx => simpa [elOf_ms] using hx
        | 2, hx => simpa [elOf_ms] using hx
        | 3, hx => simpa [elOf_ms] using hx
        | 4, hx => simpa [elOf_ms] using hx
        | j + 5, hx => simp at hx)
      simp only [VRel] at h2
      rw [h1, h2.1]
    simp only [List.cons.injEq, and_true] at hz
    obtain ⟨z0, z1, z2, z3, z4⟩ := hz
    match j, hj with
    | 0, _ => rw [hcell 0 _ rfl]; simp only [Sx.val, z0]
    | 1, _ => rw [hcell 1 _ rfl]; simp only [Sx.val, z1]
    | 2, _ => rw [hcell 2 _ rfl]; simp only [Sx.val, z2]
    | 3, _ => rw [hcell 3 _ rfl]; simp only [Sx.val, z3]
    | 4, _ => rw [hcell 4 _ rfl]; simp only [Sx.val, z4]

theorem bytes_c : BytesC Tryd.prog 28 := by
  intro w p e hrd
  have hrd0 : Rd w p ((⟨fun _ => 0, fun _ => false, fun _ => e, fun _ => 0, fun _ => .nilIface⟩ : Env).e 0) := hrd
  have hm0 : MRep ⟨fun _ => 0, fun _ => false, fun _ => e, fun _ => 0, fun _ => .nilIface⟩ (SofL [p] [⟨limbs 0, false⟩]) w (adrL [p]) [⟨limbs 0, false⟩] w := by
    refine mrep_of rfl (fun k q ch hq hch => ?_) (fun k k' q q' ch ch' hlt hq hq' _ _ => ?_)
    · match k, hq, hch with
      | 0, hq, hch =>
        simp only [List.getElem?_cons_zero, Option.some.injEq] at hq hch
        subst hq hch
        exact lies_limbs hrd0 false (fun h => by cases h)
      | k + 1, hq, _ => simp at hq
    · have h1 := (List.getElem?_eq_some_iff.1 hq').1
      simp only [List.length_cons, List.length_nil] at h1
      omega
  have hS : ∀ b j, SofL [p] [⟨limbs 0, false⟩] b j → False := by
    intro b j hbj
    obtain ⟨q, ch, _, h2, h3, _⟩ := sofL_first (by decide) hbj
    simp only [List.getElem?_cons_zero, Option.some.injEq] at h2
    subst h2
    cases h3
  have hv : VRels ⟨fun _ => 0, fun _ => false, fun _ => e, fun _ => 0, fun _ => .nilIface⟩ (adrL [p]) [.ptr 0 0] [ptrV p] := by
    simp only [VRels, VRel]
    exact ⟨_, _, rfl, ⟨p.1, p.2, rfl, rfl⟩, rfl⟩
  refine (run_calls (body_ok tabW_ok _ _) elBy_run hm0 (fun g c hgc => by simp at hgc) hv fun ρ' ha hd => (elBy_math ρ' hd).1).mono ?_
  rintro r w' ⟨ρ', α', ha, hd, hext, hret, hm⟩
  have he : ρ'.e 0 = e := ha.e 0 (by decide)
  have hz := (elBy_math ρ' hd).2
  rw [he] at hz
  simp only [VRel] at hret
  obtain ⟨b, s, cap, hα, hcap, rfl⟩ := hret
  have hch : elBy_ms.mem[1]? = some ⟨[SV.int .u8 (.x 53), SV.int .u8 (.x 55), SV.int .u8 (.x 57), SV.int .u8 (.x 59), SV.int .u8 (.x 61), SV.int .u8 (.x 63), SV.int .u8 (.x 65), SV.int .u8 (.x 67), SV.int .u8 (.x 69), SV.int .u8 (.x 71), SV.int .u8 (.x 73), SV.int .u8 (.x 75), SV.int .u8 (.x 77), SV.int .u8 (.x 79), SV.int .u8 (.x 81), SV.int .u8 (.x 83), SV.int .u8 (.x 85), SV.int .u8 (.x 87), SV.int .u8 (.x 89), SV.int .u8 (.x 91), SV.int .u8 (.x 93), SV.int .u8 (.x 95), SV.int .u8 (.x 97), SV.int .u8 (.x 99), SV.int .u8 (.x 101), SV.int .u8 (.x 103), SV.int .u8 (.x 105), SV.int .u8 (.x 107), SV.int .u8 (.x 109), SV.int .u8 (.x 111), SV.int .u8 (.x 113), SV.int .u8 (.x 115)], true⟩ := rfl
  have hwr : ∀ j, j < 32 → w'.frozen? ⟨b, s + j, none⟩ = false ∧ w.heap.size ≤ b := fun j hj => by
    have := hm.wr 1 _ b s hch hα rfl j hj
    exact ⟨this.1, this.2.resolve_left (hS b _)⟩
  have hcell : ∀ (j : Nat) (n : Int), (octs (canonE e) 0 32)[j]? = some n → w'.cell? ⟨b, s + j, none⟩ = some (.int .u8 n) := by
    intro j n hn
    rw [← hz] at hn
    have hx : ∃ x : Sx, [Sx.x 53, Sx.x 55, Sx.x 57, Sx.x 59, Sx.x 61, Sx.x 63, Sx.x 65, Sx.x 67, Sx.x 69, Sx.x 71, Sx.x 73, Sx.x 75, Sx.x 77, Sx.x 79, Sx.x 81, Sx.x 83, Sx.x 85, Sx.x 87, Sx.x 89, Sx.x 91, Sx.x 93, Sx.x 95, Sx.x 97, Sx.x 99, Sx.x 101, Sx.x 103, Sx.x 105, Sx.x 107, Sx.x 109, Sx.x 111, Sx.x 113, Sx.x 115][j]? = some x ∧ x.val ρ' = n := by
      have : [ρ'.i 53, ρ'.i 55, ρ'.i 57, ρ'.i 59, ρ'.i 61, ρ'.i 63, ρ'.i 65, ρ'.i 67, ρ'.i 69, ρ'.i 71, ρ'.i 73, ρ'.i 75, ρ'.i 77, ρ'.i 79, ρ'.i 81, ρ'.i 83, ρ'.i 85, ρ'.i 87, ρ'.i 89, ρ'.i 91, ρ'.i 93, ρ'.i 95, ρ'.i 97, ρ'.i 99, ρ'.i 101, ρ'.i 103, ρ'.i 105, ρ'.i 107, ρ'.i 109, ρ'.i 111, ρ'.i 113, ρ'.i 115] = [Sx.x 53, Sx.x 55, Sx.x 57, Sx.x 59, Sx.x 61, Sx.x 63, Sx.x 65, Sx.x 67, Sx.x 69, Sx.x 71, Sx.x 73, Sx.x 75, Sx.x 77, Sx.x 79, Sx.x 81, Sx.x 83, Sx.x 85, Sx.x 87, Sx.x 89, Sx.x 91, Sx.x 93, Sx.x 95, Sx.x 97, Sx.x 99, Sx.x 101, Sx.x 103, Sx.x 105, Sx.x 107, Sx.x 109, Sx.x 111, Sx.x 113, Sx.x 115].map (Sx.val ρ') := rfl
      rw [this, List.getElem?_map] at hn
      cases hh : [Sx.x 53, Sx.x 55, Sx.x 57, Sx.x 59, Sx.x 61, Sx.x 63, Sx.x 65, Sx.x 67, Sx.x 69, Sx.x 71, Sx.x 73, Sx.x 75, Sx.x 77, Sx.x 79, Sx.x 81, Sx.x 83, Sx.x 85, Sx.x 87, Sx.x 89, Sx.x 91, Sx.x 93, Sx.x 95, Sx.x 97, Sx.x 99, Sx.x 101, Sx.x 103, Sx.x 105, Sx.x 107, Sx.x 109, Sx.x 111, Sx.x 113, Sx.x 115][j]? with
      | none => rw [hh] at hn; cases hn
      | some x => rw [hh] at hn; exact ⟨x, rfl, by simpa using hn⟩
    obtain ⟨x, h1, rfl⟩ := hx
    have h2 : [SV.int .u8 (.x 53), SV.int .u8 (.x 55), SV.int .u8 (.x 57), SV.int .u8 (.x 59), SV.int .u8 (.x 61), SV.int .u8 (.x 63), SV.int .u8 (.x 65), SV.int .u8 (.x 67), SV.int .u8 (.x 69), SV.int .u8 (.x 71), SV.int .u8 (.x 73), SV.int .u8 (.x 75), SV.int .u8 (.x 77), SV.int .u8 (.x 79), SV.int .u8 (.x 81), SV.int .u8 (.x 83), SV.int .u8 (.x 85), SV.int .u8 (.x 87), SV.int .u8 (.x 89), SV.int .u8 (.x 91), SV.int .u8 (.x 93), SV.int .u8 (.x 95), SV.int .u8 (.x 97), SV.int .u8 (.x 99), SV.int .u8 (.x 101), SV.int .u8 (.x 103), SV.int .u8 (.x 105), SV.int .u8 (.x 107), SV.int .u8 (.x 109), SV.int .u8 (.x 111), SV.int .u8 (.x 113), SV.int .u8 (.x 115)][j]? = some (.int .u8 x) := by
      have : [SV.int .u8 (.x 53), SV.int .u8 (.x 55), SV.int .u8 (.x 57), SV.int .u8 (.x 59), SV.int .u8 (.x 61), SV.int .u8 (.x 63), SV.int .u8 (.x 65), SV.int .u8 (.x 67), SV.int .u8 (.x 69), SV.int .u8 (.x 71), SV.int .u8 (.x 73), SV.int .u8 (.x 75), SV.int .u8 (.x 77), SV.int .u8 (.x 79), SV.int .u8 (.x 81), SV.int .u8 (.x 83), SV.int .u8 (.x 85), SV.int .u8 (.x 87), SV.int .u8 (.x 89), SV.int .u8 (.x 91), SV.int .u8 (.x 93), SV.int .u8 (.x 95), SV.int .u8 (.x 97), SV.int .u8 (.x 99), SV.int .u8 (.x 101), SV.int .u8 (.x 103), SV.int .u8 (.x 105), SV.int .u8 (.x 107), SV.int .u8 (.x 109), SV.int .u8 (.x 111), SV.int .u8 (.x 113), SV.int .u8 (.x 115)] = [Sx.x 53, Sx.x 55, Sx.x 57, Sx.x 59, Sx.x 61, Sx.x 63, Sx.x 65, Sx.x 67, Sx.x 69, Sx.x 71, Sx.x 73, Sx.x 75, Sx.x 77, Sx.x 79, Sx.x 81, Sx.x 83, Sx.x 85, Sx.x 87, Sx.x 89, Sx.x 91, Sx.x 93, Sx.x 95, Sx.x 97, Sx.x 99, Sx.x 101, Sx.x 103, Sx.x 105, Sx.x 107, Sx.x 109, Sx.x 111, Sx.x 113, Sx.x 115].map (SV.int .u8) := rfl
      rw [this, List.getElem?_map, h1]; rfl
    obtain ⟨v, h3, h4⟩ := hm.cell 1 _ b s hch hα j _ h2
    simp only [VRel] at h4
    rw [h3, h4.1]
  have hro : RoN 32 w' (b, s) (canonE e) := by
    intro j hj
    refine hcell j _ ?_
    have : ∀ (k i j : Nat), j < k → (octs (canonE e) i k)[j]? = some ((octet (canonE e) (i + j) : Nat) : Int) := by
      intro k
      induction k with
      | zero => intro i j hj; omega
      | succ k ih =>
        intro i j hj
        cases j with
        | zero => simp [octs]
        | succ j => simp only [octs, List.getElem?_cons_succ]; rw [ih (i + 1) j (by omega), show i + 1 + j = i + (j + 1) by omega]
    rw [this 32 0 j hj, Nat.zero_add]
  exact ⟨(b, s), cap, rfl, hcap, (hwr 0 (by decide)).2, fun j hj => ⟨⟨_, hro j hj⟩, (hwr j hj).1⟩, hro, hm.fr.mono fun b j h => (hS b j h).elim⟩
end Go.Proofs.YtpaidbefbkokfaaDoor
