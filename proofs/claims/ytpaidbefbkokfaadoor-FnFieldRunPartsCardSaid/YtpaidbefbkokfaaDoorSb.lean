/- Elements set from bytes in memory, told by bytes in memory, compared: contracts and rules. No condition. -/
import Derived.Test.YtpaidbefbkokfaaDoorLay
import Derived.Test.YtpaidbefbkokfaaDoorNum
namespace Go.Proofs.YtpaidbefbkokfaaDoor
open Go Go.RowKit
set_option linter.unusedVariables false
set_option linter.unusedSimpArgs false

def sliceV (q : Nat × Nat) (n c : Nat) : Value := .slice (some ⟨q.1, q.2, none⟩) n c
/-! ### SetBytes -/
def SbC (P : Program) (f : FuncId) : Prop := ∀ (w : World) (v q : Nat × Nat) (n c : Nat), 32 ≤ c → Own 5 w v → RoN 32 w q n → Apart 5 32 v q →
  Invokes P f #[ptrV v, sliceV q 32 c] w fun r w' => r = .tuple #[ptrV v, .nilIface] ∧ Fr (InN 5 v) w w' ∧ Rd w' v (sbE n)
def sbRule : Rule := fun ms args => match args with
  | [.ptr c o, .slice c' o' 32 m] => match ms.mem[c]?, ms.mem[c']? with
    | some ch, some ch' => bif !(Nat.beq c c') && ch.wr && Nat.ble (o + 5) ch.cells.length && Nat.beq ((ch'.cells.drop o').take 32).length 32 && Nat.ble 32 m then (match asNum ms ((ch'.cells.drop o').take 32) with
      | some (n, ms1) => some (.tuple [.ptr c o, .nili], { ms1 with mem := ms1.mem.set c { ch with cells := setL ch.cells o (limbs ms1.ne) }, tr := .de ms1.ne .sb [] [] [n] :: ms1.tr, ne := ms1.ne + 1 })
      | none => none) else none
    | _, _ => none
  | _ => none
theorem own_of {ρ : Env} {S : Nat → Nat → Prop} {w0 : World} {α : Adr} {M : List Chunk} {w : World} (hm : MRep ρ S w0 α M w) {c o k : Nat} {ch : Chunk} {b s : Nat} (hc : M[c]? = some ch) (ha : α c = some (b, s)) (hw : ch.wr = true) (hl : o + k ≤ ch.cells.length) : Own k w (b, s + o) := by
  intro j hj
  have hjl : o + j < ch.cells.length := by omega
  obtain ⟨v, h1, _⟩ := hm.cell c ch b s hc ha (o + j) ch.cells[o + j] (by simp [hjl])
  have := (hm.wr c ch b s hc ha hw (o + j) hjl).1
  rw [← Nat.add_assoc] at h1 this
  exact ⟨⟨v, h1⟩, this⟩
theorem sbRule_ok {P : Program} {f : FuncId} (h : SbC P f) : RuleOk P f sbRule := by
  intro ρ ms ms' args ret hr hs
  unfold sbRule at hr
  split at hr
  · rename_i c o c' o' m
    split at hr
    · rename_i ch ch' hc hc'
      cases hb : (!(Nat.beq c c') && ch.wr && Nat.ble (o + 5) ch.cells.length && Nat.beq ((ch'.cells.drop o').take 32).length 32 && Nat.ble 32 m) with
      | false => simp only [hb, cond_false, reduceCtorEq] at hr
      | true =>
        simp only [hb, cond_true] at hr
        simp only [Bool.and_eq_true, Bool.not_eq_true'] at hb
        obtain ⟨⟨⟨⟨hne, hw⟩, hle⟩, hlen⟩, hm32⟩ := hb
        have hne' : c ≠ c' := fun e => by rw [e] at hne; simp at hne
        have hle' := Nat.le_of_ble_eq_true hle
        have hlen' := Nat.eq_of_beq_eq_true hlen
        have hm32' := Nat.le_of_ble_eq_true hm32
        split at hr
        · rename_i n ms1 hn
          simp only [Option.some.injEq, Prod.mk.injEq] at hr
          obtain ⟨rfl, rfl⟩ := hr
          obtain ⟨g, em, eg, ee, hv'⟩ := asNum_ok hn hs.2
          have hd : ρ.e ms1.ne = sbE (ρ.n n) := hs.1
          refine ⟨g.trans ⟨hs.2, rfl, by simp⟩, fun S w0 α w vs hm hg hv => ?_⟩
          simp only [VRels, VRel] at hv
          obtain ⟨u1, t1, rfl, ⟨b, s, ha, rfl⟩, u2, t2, rfl, ⟨b', s', cap, ha', hcap, rfl⟩, rfl⟩ := hv
          have hro := octs_ro hm hc' ha' hlen' (by rw [hlen'] at hv'; exact hv')
          have hdis := hm.dis c c' ch ch' b s b' s' hne' hc hc' ha ha'
          have hl2 : o' + 32 ≤ ch'.cells.length := by
            simp only [List.length_take, List.length_drop] at hlen'; omega
          refine (h w (b, s + o) (b', s' + o') (ρ.n n) cap (by omega) (own_of hm hc ha hw hle') hro (by simp only [Apart]; omega)).mono ?_
          rintro r w' ⟨rfl, hf, hrd⟩
          rw [← hd] at hrd
          have hm' := hm.over hc ha hw (vs := limbs ms1.ne) (by simpa [limbs] using hle') (by simpa [limbs] using hf) (limbs_rd hrd)
          refine ⟨α, by rw [← em]; exact Ext.refl _ _, ?_, by rw [em]; exact hm'⟩
          simp only [VRel, VRels]
          exact ⟨_, rfl, _, _, rfl, ⟨b, s, ha, rfl⟩, _, _, rfl, rfl, rfl⟩
        · cases hr
    · cases hr
  · cases hr

/-! ### Bytes -/
def BytesC (P : Program) (f : FuncId) : Prop := ∀ (w : World) (p : Nat × Nat) (e : Elt), Rd w p e →
  Invokes P f #[ptrV p] w fun r w' => ∃ q c, r = sliceV q 32 c ∧ 32 ≤ c ∧ w.heap.size ≤ q.1 ∧ Own 32 w' q ∧ RoN 32 w' q (canonE e) ∧ Fr (fun _ _ => False) w w'
def bytesRule : Rule := fun ms args => match args with
  | [.ptr c o] => match readE ms.mem (c, o) with
    | some e => some (.slice ms.mem.length 0 32 32, { ms with mem := ms.mem ++ [⟨octsS ms.nn 0 32, true⟩], tr := .dn ms.nn .canon [e] [] [] :: ms.tr, nn := ms.nn + 1 })
    | none => none
  | _ => none
theorem bytesRule_ok {P : Program} {f : FuncId} (h : BytesC P f) : RuleOk P f bytesRule := by
  intro ρ ms ms' args ret hr hs
  unfold bytesRule at hr
  split at hr
  · rename_i c o
    split at hr
    · rename_i e he
      simp only [Option.some.injEq, Prod.mk.injEq] at hr
      obtain ⟨rfl, rfl⟩ := hr
      have hd : ρ.n ms.nn = canonE (ρ.e e) := hs.1
      refine ⟨⟨hs.2, rfl, by simp⟩, fun S w0 α w vs hm hg hv => ?_⟩
      simp only [VRels, VRel] at hv
      obtain ⟨u, us', rfl, ⟨b, s, h1, rfl⟩, h2⟩ := hv
      subst h2
      have hrd := readE_ok hm he h1
      refine (h w (b, s + o) (ρ.e e) hrd).mono ?_
      rintro r w' ⟨q, c, rfl, hc32, hq, hown, hro, hf⟩
      rw [← hd] at hro
      have hlt : q.1 < w'.heap.size := cell_lt (hro 0 (by omega))
      obtain ⟨hm', hext⟩ := hm.fresh hf (p := q) (cells := octsS ms.nn 0 32) hq hlt (by simpa [octsS_len] using hown) (fun j x hx => by
        obtain ⟨v, h1, h2⟩ := (lies_octs (ρ := ρ) (w := w') (p := q) (n := ms.nn) (L := 32) (by decide) hro).cell j x hx
        exact ⟨v, h1, h2 _⟩)
      refine ⟨_, hext, ?_, hm'⟩
      simp only [VRel, sliceV]
      exact ⟨q.1, q.2, c, by unfold Adr.put; simp, hc32, by simp⟩
    · cases hr
  · cases hr

/-! ### compareBytes -/
def octX' (n : Nat) : Nat → Nat → List Sx
  | _, 0 => []
  | i, k + 1 => .o n i :: octX' n (i + 1) k
theorem octX'_val {ρ : Env} {n : Nat} : ∀ (k i : Nat), (octX' n i k).map (Sx.val ρ) = octs (ρ.n n) i k
  | 0, i => rfl
  | k + 1, i => by simp only [octX', octs, List.map_cons, Sx.val, octX'_val k (i + 1)]
theorem octs_len {n : Nat} : ∀ (k i : Nat), (octs n i k).length = k
  | 0, i => rfl
  | k + 1, i => by simp only [octs, List.length_cons, octs_len k (i + 1)]
theorem ofB_octs32 (n : Nat) : ofB (octs n 0 32) = n % W4 := by
  have key : ∀ (k i : Nat), ofB (octs n i k) = n / 256 ^ i % 256 ^ k := by
    intro k
    induction k with
    | zero => intro i; simp [octs, ofB, Nat.mod_one]
    | succ k ih =>
      intro i
      simp only [octs, ofB, ih (i + 1), Int.toNat_natCast, octet]
      rw [Nat.pow_succ 256 i, ← Nat.div_div_eq_div_mul, Nat.pow_succ 256 k, Nat.mul_comm (256 ^ k) 256, Nat.mod_mul]
  rw [key, Nat.pow_zero, Nat.div_one]
  rfl
theorem octs32_inj {a b : Nat} : octs a 0 32 = octs b 0 32 ↔ a % W4 = b % W4 := by
  constructor
  · intro h; rw [← ofB_octs32, ← ofB_octs32, h]
  · intro h; rw [← octs_mod a 32 0 (by omega), ← octs_mod b 32 0 (by omega), h]
def CmpC (P : Program) (f : FuncId) : Prop := ∀ (w : World) (p q : Nat × Nat) (a b c d : Nat), RoN 32 w p a → RoN 32 w q b → 32 ≤ c → 32 ≤ d → Apart 32 32 p q →
  Invokes P f #[sliceV p 32 c, sliceV q 32 d] w fun v w' => v = .int .i64 (if a % W4 = b % W4 then 1 else 0) ∧ Fr (fun _ _ => False) w w'
def cmpRule : Rule := fun ms args => match args with
  | [.slice c o 32 m, .slice c' o' 32 m'] => match ms.mem[c]?, ms.mem[c']? with
    | some ch, some ch' => bif !(Nat.beq c c') && Nat.beq ((ch.cells.drop o).take 32).length 32 && Nat.beq ((ch'.cells.drop o').take 32).length 32 && Nat.ble 32 m && Nat.ble 32 m' then (match asNum ms ((ch.cells.drop o).take 32) with
      | some (a, ms1) => match asNum ms1 ((ch'.cells.drop o').take 32) with
        | some (b, ms2) => some (.int .i64 (.x ms2.ni), { ms2 with tr := .di ms2.ni .eqI (octX' a 0 32 ++ octX' b 0 32) :: ms2.tr, ni := ms2.ni + 1 })
        | none => none
      | none => none) else none
    | _, _ => none
  | _ => none
theorem eqI_sem (a b : Nat) : Fi.sem .eqI (octs a 0 32 ++ octs b 0 32) = if a % W4 = b % W4 then 1 else 0 := by
  have h1 : (octs a 0 32 ++ octs b 0 32).length / 2 = (octs a 0 32).length := by rw [List.length_append, octs_len, octs_len]
  simp only [Fi.sem, h1, List.take_left', List.drop_left', List.take_append_length, List.drop_append_length, octs32_inj]
theorem cmpRule_ok {P : Program} {f : FuncId} (h : CmpC P f) : RuleOk P f cmpRule := by
  intro ρ ms ms' args ret hr hs
  unfold cmpRule at hr
  split at hr
  · rename_i c o m c' o' m'
    split at hr
    · rename_i ch ch' hc hc'
      cases hb : (!(Nat.beq c c') && Nat.beq ((ch.cells.drop o).take 32).length 32 && Nat.beq ((ch'.cells.drop o').take 32).length 32 && Nat.ble 32 m && Nat.ble 32 m') with
      | false => simp only [hb, cond_false, reduceCtorEq] at hr
      | true =>
        simp only [hb, cond_true] at hr
        simp only [Bool.and_eq_true, Bool.not_eq_true'] at hb
        obtain ⟨⟨⟨⟨hne, hl1⟩, hl2⟩, hm1⟩, hm2⟩ := hb
        have hne' : c ≠ c' := fun e => by rw [e] at hne; simp at hne
        have hl1' := Nat.eq_of_beq_eq_true hl1
        have hl2' := Nat.eq_of_beq_eq_true hl2
        have hm1' := Nat.le_of_ble_eq_true hm1
        have hm2' := Nat.le_of_ble_eq_true hm2
        split at hr
        · rename_i a ms1 ha1
          split at hr
          · rename_i b ms2 hb2
            simp only [Option.some.injEq, Prod.mk.injEq] at hr
            obtain ⟨rfl, rfl⟩ := hr
            obtain ⟨g2, em2, eg2, _, hv2⟩ := asNum_ok hb2 hs.2
            obtain ⟨g1, em1, eg1, _, hv1⟩ := asNum_ok ha1 g2.sat
            have hd : ρ.i ms2.ni = Fi.sem .eqI ((octX' a 0 32 ++ octX' b 0 32).map (Sx.val ρ)) := hs.1
            rw [List.map_append, octX'_val, octX'_val, eqI_sem] at hd
            refine ⟨(g1.trans g2).trans ⟨hs.2, rfl, Nat.le_refl _⟩, fun S w0 α w vs hm hg hv => ?_⟩
            simp only [VRels, VRel] at hv
            obtain ⟨u1, t1, rfl, ⟨b1, s1, cap1, ha1, hcap1, rfl⟩, u2, t2, rfl, ⟨b2, s2, cap2, ha2, hcap2, rfl⟩, rfl⟩ := hv
            have hro1 := octs_ro hm hc ha1 hl1' (by rw [hl1'] at hv1; exact hv1)
            have hro2 := octs_ro hm hc' ha2 hl2' (by rw [hl2'] at hv2; exact hv2)
            have hdis := hm.dis c c' ch ch' b1 s1 b2 s2 hne' hc hc' ha1 ha2
            have k1 : o + 32 ≤ ch.cells.length := by simp only [List.length_take, List.length_drop] at hl1'; omega
            have k2 : o' + 32 ≤ ch'.cells.length := by simp only [List.length_take, List.length_drop] at hl2'; omega
            refine (h w (b1, s1 + o) (b2, s2 + o') (ρ.n a) (ρ.n b) cap1 cap2 hro1 hro2 (by omega) (by omega) (by simp only [Apart]; omega)).mono ?_
            rintro r w' ⟨rfl, hf⟩
            refine ⟨α, Ext.refl _ _, ?_, by show MRep ρ S w0 α ms2.mem w'; rw [em2, em1]; exact hm.grow hf⟩
            simp only [VRel, Sx.val, hd, true_and]
            split <;> decide
          · cases hr
        · cases hr
    · cases hr
  · cases hr

/-! ### a number out of bytes in memory, modulo another -/
def RedC (L : Nat) (P : Program) (f : FuncId) : Prop := ∀ (w : World) (p : Nat × Nat) (n c m : Nat), RoN L w p n → L ≤ c →
  Invokes P f #[sliceV p L c, numV m] w fun v w' => v = numV (bitsF 1 n (m % W4) (8 * L) 0) ∧ Fr (fun _ _ => False) w w'
def red1 (L : Nat) (ms : Ms) (args : List SV) : Option (SV × Ms) := match args with
  | [.slice c o n k, .agg l] => match ms.mem[c]? with
    | some ch => bif Nat.beq n L && Nat.beq ((ch.cells.drop o).take L).length L && Nat.ble L k then (match asNum ms ((ch.cells.drop o).take L) with
      | some (a, ms1) => match asNumW ms1 l with
        | some (m, ms2) => some (.agg (wrdsS ms2.nn 0 4), { ms2 with tr := .dn ms2.nn (.red L) [] [] [a, m] :: ms2.tr, nn := ms2.nn + 1 })
        | none => none
      | none => none) else none
    | none => none
  | _ => none
def redRule (Ls : List Nat) : Rule := fun ms args => match args with
  | [.slice c o n k, .agg l] => bif Ls.contains n then red1 n ms [.slice c o n k, .agg l] else none
  | _ => none
theorem red1_ok {P : Program} {f : FuncId} {L : Nat} (h : RedC L P f) : RuleOk P f (red1 L) := by
  intro ρ ms ms' args ret hr hs
  unfold red1 at hr
  split at hr
  · rename_i c o n k l
    split at hr
    · rename_i ch hc
      cases hb : (Nat.beq n L && Nat.beq ((ch.cells.drop o).take L).length L && Nat.ble L k) with
      | false => simp only [hb, cond_false, reduceCtorEq] at hr
      | true =>
        simp only [hb, cond_true] at hr
        simp only [Bool.and_eq_true] at hb
        have hn := Nat.eq_of_beq_eq_true hb.1.1
        have hl := Nat.eq_of_beq_eq_true hb.1.2
        have hk := Nat.le_of_ble_eq_true hb.2
        subst hn
        split at hr
        · rename_i a ms1 ha1
          split at hr
          · rename_i m ms2 hm2
            simp only [Option.some.injEq, Prod.mk.injEq] at hr
            obtain ⟨rfl, rfl⟩ := hr
            obtain ⟨g2, em2, eg2, _, _, _, _, hv2⟩ := asNumW_ok hm2 hs.2
            obtain ⟨g1, em1, eg1, _, hv1⟩ := asNum_ok ha1 g2.sat
            have hd : ρ.n ms2.nn = bitsF 1 (ρ.n a) (ρ.n m % W4) (8 * n) 0 := hs.1
            refine ⟨(g1.trans g2).trans ⟨hs.2, rfl, Nat.le_refl _⟩, fun S w0 α w vs hm hg hv => ?_⟩
            simp only [VRels, VRel] at hv
            obtain ⟨u1, t1, rfl, ⟨b1, s1, cap1, ha1, hcap1, rfl⟩, u2, t2, rfl, ⟨us, rfl, h3⟩, rfl⟩ := hv
            have hro1 := octs_ro hm hc ha1 hl (by rw [hl] at hv1; exact hv1)
            have e2 := hv2 h3
            subst e2
            refine (h w (b1, s1 + o) (ρ.n a) cap1 (ρ.n m) hro1 (by omega)).mono ?_
            rintro r w' ⟨rfl, hf⟩
            refine ⟨α, Ext.refl _ _, ?_, by show MRep ρ S w0 α ms2.mem w'; rw [em2, em1]; exact hm.grow hf⟩
            rw [← hd]
            exact numS_rel _
          · cases hr
        · cases hr
    · cases hr
  · cases hr
theorem redRule_ok {P : Program} {f : FuncId} {Ls : List Nat} (h : ∀ L ∈ Ls, RedC L P f) : RuleOk P f (redRule Ls) := by
  intro ρ ms ms' args ret hr hs
  unfold redRule at hr
  split at hr
  · rename_i c o n k l
    cases hb : Ls.contains n with
    | false => rw [hb] at hr; simp at hr
    | true =>
      rw [hb] at hr
      exact red1_ok (h n (by simpa using hb)) ρ ms ms' _ ret hr hs
  · cases hr
end Go.Proofs.YtpaidbefbkokfaaDoor
