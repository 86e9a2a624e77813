/- The operations that touch no memory, reckoned over symbols, and that the model does the same. No condition. -/
import Derived.Test.YtpaidbefbkokfaaDoorMem
namespace Go.Proofs.YtpaidbefbkokfaaDoor
open Go Go.RowKit
set_option linter.unusedVariables false
set_option linter.unusedSimpArgs false

abbrev PR := SV × List Ent × Nat × Nat

def consts : List Sx → Option (List Int)
  | [] => some []
  | .c n :: l => match consts l with
    | some r => some (n :: r)
    | none => none
  | _ :: _ => none
theorem consts_val (ρ : Env) : ∀ {l : List Sx} {r : List Int}, consts l = some r → l.map (Sx.val ρ) = r
  | [], r, h => by simp only [consts, Option.some.injEq] at h; subst h; rfl
  | .c n :: l, r, h => by
    simp only [consts] at h
    cases hl : consts l with
    | none => simp [hl] at h
    | some r' => simp only [hl, Option.some.injEq] at h; subst h; simp [Sx.val, consts_val ρ hl]
  | .x _ :: _, _, h | .l _ _ :: _, _, h | .w _ _ :: _, _, h | .o _ _ :: _, _, h | .oi _ _ :: _, _, h | .wi _ _ :: _, _, h => by simp [consts] at h

/-- An integer reckoned out of others. -/
def fi (ni nb : Nat) (k : IntKind) (f : Fi) (xs : List Sx) : PR :=
  match consts xs with
  | some cs => (.int k (.c (f.sem cs)), [], ni, nb)
  | none => (.int k (.x ni), [.di ni f xs], ni + 1, nb)
theorem fi_ok {ρ : Env} {α : Adr} (ni nb : Nat) (k : IntKind) (f : Fi) (xs : List Sx) (h : Sat ρ (fi ni nb k f xs).2.1) (hin : inR k (f.sem (xs.map (Sx.val ρ)))) : VRel ρ α (fi ni nb k f xs).1 (.int k (f.sem (xs.map (Sx.val ρ)))) := by
  unfold fi at *
  cases hc : consts xs with
  | some cs => simp only [hc] at h ⊢; rw [consts_val ρ hc] at hin ⊢; simp only [VRel, Sx.val, true_and]; exact hin
  | none => simp only [hc, Sat, Ent.ok, and_true] at h ⊢; simp only [VRel, Sx.val, h, true_and]; exact hin
def fb (ni nb : Nat) (f : Fb) (xs : List Sx) : PR :=
  match consts xs with
  | some cs => (.bool (.c (f.sem cs [] [])), [], ni, nb)
  | none => (.bool (.x nb), [.db nb f xs [] []], ni, nb + 1)
theorem fb_ok {ρ : Env} {α : Adr} (ni nb : Nat) (f : Fb) (xs : List Sx) (h : Sat ρ (fb ni nb f xs).2.1) : VRel ρ α (fb ni nb f xs).1 (.bool (f.sem (xs.map (Sx.val ρ)) [] [])) := by
  unfold fb at *
  cases hc : consts xs with
  | some cs => simp only [hc] at h ⊢; rw [consts_val ρ hc]; simp only [VRel, Sb.val]
  | none => simp only [hc, Sat, Ent.ok, and_true] at h ⊢; simp only [VRel, Sb.val, h, List.map_nil]

/-! ### two integers -/
theorem sat_app0 {ρ : Env} : ∀ {l m : List Ent}, Sat ρ (l ++ m) → Sat ρ l ∧ Sat ρ m
  | [], m, h => ⟨trivial, h⟩
  | e :: l, m, h => ⟨⟨h.1, (sat_app0 (l := l) h.2).1⟩, (sat_app0 (l := l) h.2).2⟩
/-- A count that is not negative: what is to be shown. -/
def notNeg (nb : Nat) (b : Sx) (r : PR) : PR := (r.1, r.2.1 ++ [.asm (.x nb) true, .db nb .leq [.c 0, b] [] []], r.2.2.1, r.2.2.2)
theorem notNeg_ok {ρ : Env} {nb : Nat} {b : Sx} {r : PR} (h : Sat ρ (notNeg nb b r).2.1) : Sat ρ r.2.1 ∧ 0 ≤ b.val ρ := by
  obtain ⟨h1, h2⟩ := sat_app0 h
  refine ⟨h1, ?_⟩
  simp only [Sat, Ent.ok, Sb.val, List.map_cons, List.map_nil, Sx.val, Fb.sem] at h2
  rw [h2.1] at h2
  exact of_decide_eq_true h2.2.1.symm
def sbinI (ni nb : Nat) (op : BinOp) (k k' : IntKind) (a b : Sx) : Option PR :=
  match op with
  | .shl => match b with
    | .c n => if 0 ≤ n then some (fi ni nb k (.shl k) [a, b]) else none
    | b => some (notNeg nb b (fi ni (nb + 1) k (.shl k) [a, b]))
  | .shr => match b with
    | .c n => if 0 ≤ n then some (fi ni nb k (.shr k) [a, b]) else none
    | b => some (notNeg nb b (fi ni (nb + 1) k (.shr k) [a, b]))
  | .add => if k = k' then some (fi ni nb k (.add k) [a, b]) else none
  | .sub => if k = k' then some (fi ni nb k (.sub k) [a, b]) else none
  | .mul => if k = k' then some (fi ni nb k (.mul k) [a, b]) else none
  | .and => if k = k' then some (fi ni nb k (.and k) [a, b]) else none
  | .or => if k = k' then some (fi ni nb k (.or k) [a, b]) else none
  | .xor => if k = k' then some (fi ni nb k (.xor k) [a, b]) else none
  | .quo => match b with
    | .c n => if k = k' ∧ n ≠ 0 then some (fi ni nb k (.quo k) [a, b]) else none
    | _ => none
  | .rem => match b with
    | .c n => if k = k' ∧ n ≠ 0 then some (fi ni nb k (.rem k) [a, b]) else none
    | _ => none
  | .eql => if k = k' then some (fb ni nb .eql [a, b]) else none
  | .neq => if k = k' then some (fb ni nb .neq [a, b]) else none
  | .lss => if k = k' then some (fb ni nb .lss [a, b]) else none
  | .leq => if k = k' then some (fb ni nb .leq [a, b]) else none
  | .gtr => if k = k' then some (fb ni nb .gtr [a, b]) else none
  | .geq => if k = k' then some (fb ni nb .geq [a, b]) else none
  | .andNot => none

theorem bits_toNat {k : IntKind} (r : BitVec k.bits) {n : Nat} (h : r.toNat = n) : k.wrap (r.toNat : Int) = wr k (n : Int) := by rw [wr_eq, h]
theorem shr_in {k : IntKind} {a : Int} {b : Int} (h : inR k a) : inR k (a / 2 ^ min b.toNat (nbits k)) := by
  generalize min b.toNat (nbits k) = n
  have hp : (0 : Int) < 2 ^ n := Int.pow_pos (by decide)
  have h1 : (1 : Int) ≤ 2 ^ n := hp
  unfold inR at *
  have key : (0 ≤ a → 0 ≤ a / 2 ^ n ∧ a / 2 ^ n ≤ a) ∧ (a < 0 → a ≤ a / 2 ^ n ∧ a / 2 ^ n < 0) := by
    refine ⟨fun h0 => ⟨Int.ediv_nonneg h0 (by omega), ?_⟩, fun h0 => ⟨?_, Int.ediv_neg_of_neg_of_pos h0 hp⟩⟩
    · exact Int.ediv_le_self _ h0
    · rw [Int.le_ediv_iff_mul_le hp]
      have := Int.mul_le_mul_of_nonpos_left (by omega : a ≤ 0) h1
      omega
  have hl : lo k ≤ 0 := by cases k <;> decide
  have hh : 0 < hi k := by cases k <;> decide
  rcases Int.lt_or_le a 0 with h0 | h0
  · have := key.2 h0; omega
  · have := key.1 h0; omega
theorem tmod_le' (a b : Int) (h : 0 ≤ a) : a.tmod b ≤ a := by
  obtain ⟨m, rfl⟩ := Int.eq_ofNat_of_zero_le h
  cases b with
  | ofNat n => exact Int.ofNat_le.2 (Nat.mod_le m n)
  | negSucc n => exact Int.ofNat_le.2 (Nat.mod_le m (n + 1))
theorem rem_in {k : IntKind} {a b : Int} (h : inR k a) : inR k (a.tmod b) := by
  unfold inR at *
  have hl : lo k ≤ 0 := by cases k <;> decide
  have hh : 0 < hi k := by cases k <;> decide
  rcases Int.lt_or_le a 0 with h0 | h0
  · have h1 : (-a).tmod b = -(a.tmod b) := Int.neg_tmod ..
    have h2 : 0 ≤ (-a).tmod b := Int.tmod_nonneg _ (by omega)
    have h3 : (-a).tmod b ≤ -a := tmod_le' _ b (by omega)
    omega
  · have h2 : 0 ≤ a.tmod b := Int.tmod_nonneg _ h0
    have h3 : a.tmod b ≤ a := tmod_le' _ b h0
    omega
theorem sbinI_ok {ρ : Env} {α : Adr} {P : Program} {w : World} {t : TypeId} {ni nb : Nat} {op : BinOp} {k k' : IntKind} {a b : Sx} {r : PR} (h : sbinI ni nb op k k' a b = some r) (hs : Sat ρ r.2.1) (ha : inR k (a.val ρ)) (hb : inR k' (b.val ρ)) :
    ∃ v, (binOp op t (.int k (a.val ρ)) (.int k' (b.val ρ))).run P w = .ok v w ∧ VRel ρ α r.1 v := by
  cases op <;> simp only [sbinI] at h
  case shl =>
    have key : ∀ r : PR, fi ni (nb + 1) k (.shl k) [a, b] = r → Sat ρ r.2.1 → 0 ≤ b.val ρ → ∃ v, (binOp .shl t (.int k (a.val ρ)) (.int k' (b.val ρ))).run P w = .ok v w ∧ VRel ρ α r.1 v := by
      intro r hr hs hn
      subst hr
      refine ⟨_, ?_, fi_ok _ _ _ _ _ hs (wr_in _ _)⟩
      simp only [binOp, shift_shl_any k k' _ _ hn, Sem.run_pure, Fi.sem, List.map_cons, List.map_nil, wr_eq, nbits_eq]
    split at h
    · rename_i n
      split at h <;> simp only [Option.some.injEq, reduceCtorEq] at h
      subst h
      refine ⟨_, ?_, fi_ok _ _ _ _ _ hs (wr_in _ _)⟩
      rename_i hn
      simp only [binOp, Sx.val, shift_shl_any k k' _ _ hn, Sem.run_pure, Fi.sem, List.map_cons, List.map_nil, wr_eq, nbits_eq]
    · simp only [Option.some.injEq] at h
      subst h
      obtain ⟨h1, h2⟩ := notNeg_ok hs
      exact key (fi ni (nb + 1) k (.shl k) [a, b]) rfl h1 h2
  case shr =>
    have key : ∀ r : PR, fi ni (nb + 1) k (.shr k) [a, b] = r → Sat ρ r.2.1 → 0 ≤ b.val ρ → ∃ v, (binOp .shr t (.int k (a.val ρ)) (.int k' (b.val ρ))).run P w = .ok v w ∧ VRel ρ α r.1 v := by
      intro r hr hs hn
      subst hr
      refine ⟨_, ?_, fi_ok _ _ _ _ _ hs (shr_in ha)⟩
      simp only [binOp, shift_shr_any k k' _ _ hn, Sem.run_pure, Fi.sem, List.map_cons, List.map_nil, wr_eq, nbits_eq]
    split at h
    · rename_i n
      split at h <;> simp only [Option.some.injEq, reduceCtorEq] at h
      subst h
      refine ⟨_, ?_, fi_ok _ _ _ _ _ hs (shr_in ha)⟩
      rename_i hn
      simp only [binOp, Sx.val, shift_shr_any k k' _ _ hn, Sem.run_pure, Fi.sem, List.map_cons, List.map_nil, wr_eq, nbits_eq]
    · simp only [Option.some.injEq] at h
      subst h
      obtain ⟨h1, h2⟩ := notNeg_ok hs
      exact key (fi ni (nb + 1) k (.shr k) [a, b]) rfl h1 h2
  case quo =>
    cases b <;> simp only [reduceCtorEq] at h
    rename_i n
    split at h <;> simp only [Option.some.injEq, reduceCtorEq] at h
    subst h
    rename_i hk
    obtain ⟨rfl, hn⟩ := hk
    refine ⟨_, ?_, fi_ok _ _ _ _ _ hs (wr_in _ _)⟩
    simp only [binOp, ne_eq, not_true_eq_false, if_false, Op.intDiv, Sx.val, hn, Sem.run_pure, Fi.sem, List.map_cons, List.map_nil, wr_eq]
  case rem =>
    cases b <;> simp only [reduceCtorEq] at h
    rename_i n
    split at h <;> simp only [Option.some.injEq, reduceCtorEq] at h
    subst h
    rename_i hk
    obtain ⟨rfl, hn⟩ := hk
    refine ⟨_, ?_, fi_ok _ _ _ _ _ hs (rem_in ha)⟩
    simp only [binOp, ne_eq, not_true_eq_false, if_false, Op.intDiv, Sx.val, hn, Sem.run_pure, Fi.sem, List.map_cons, List.map_nil]
  case andNot => cases h
  all_goals
    split at h <;> simp only [Option.some.injEq, reduceCtorEq] at h
    subst h
    rename_i hk
    subst hk
  case add | sub | mul =>
    refine ⟨_, ?_, fi_ok _ _ _ _ _ hs (wr_in _ _)⟩
    simp only [binOp, ne_eq, not_true_eq_false, if_false, Op.intArith, Sem.run_pure, Fi.sem, List.map_cons, List.map_nil, wr_eq]
  case and | or | xor =>
    refine ⟨_, ?_, fi_ok _ _ _ _ _ hs (wr_in _ _)⟩
    simp only [binOp, ne_eq, not_true_eq_false, if_false, Op.intBits, Sem.run_pure, Fi.sem, List.map_cons, List.map_nil, wr_eq, BitVec.toNat_and, BitVec.toNat_or, BitVec.toNat_xor, ub_eq]
  all_goals
    refine ⟨_, ?_, fb_ok _ _ _ _ hs⟩
    simp only [binOp, ne_eq, not_true_eq_false, if_false, Op.intCmp, Sem.run_pure, Fb.sem, List.map_cons, List.map_nil]
theorem eqGuard_int (op : BinOp) (t : TypeId) (x y : Operand) (k k' : IntKind) (m n : Int) (P : Program) (w : World) : (eqGuard op t x y (.int k m) (.int k' n)).run P w = .ok () w := by
  unfold eqGuard
  cases op <;> simp

/-! ### types -/
def tySize (P : Program) (t : TypeId) : Option Nat :=
  match P.info? t with
  | some i => some i.size
  | none => none
def tyAgg (P : Program) (t : TypeId) : Option Bool :=
  match P.underlying t with
  | some (.struct _) => some true
  | some (.array _ _) => some true
  | some _ => some false
  | none => none
section
variable {P : Program} {w : World} {t : TypeId}
theorem run_und {d : TypeDesc} (h : P.underlying t = some d) : (underlying t).run P w = .ok d w := by simp [underlying, h]
theorem run_size {s : Nat} (h : tySize P t = some s) : (sizeOf t).run P w = .ok s w := by
  unfold tySize at h
  cases hi : P.info? t with
  | none => simp [hi] at h
  | some i => simp only [hi, Option.some.injEq] at h; simp [sizeOf, typeInfo, hi, h]
theorem run_agg {b : Bool} (h : tyAgg P t = some b) : (isAgg t).run P w = .ok b w := by
  unfold tyAgg at h
  unfold isAgg
  cases hu : P.underlying t with
  | none => simp [hu] at h
  | some d => cases d <;> simp only [hu, Option.some.injEq] at h <;> subst h <;> simp [run_und hu]
end
/-- A part of an aggregate. -/
def spart (P : Program) (t : TypeId) (vs : List SV) (off : Nat) : Option SV :=
  match tyAgg P t with
  | some true => match tySize P t with
    | some s => if off + s ≤ vs.length then some (.agg ((vs.drop off).take s)) else none
    | none => none
  | some false => vs[off]?
  | none => none
theorem VRels.drop {ρ : Env} {α : Adr} : ∀ (n : Nat) {s : List SV} {v : List Value}, VRels ρ α s v → VRels ρ α (s.drop n) (v.drop n)
  | 0, _, _, h => by simpa using h
  | n + 1, [], _, h => by simp only [VRels] at h; subst h; simp [VRels]
  | n + 1, s :: vs, _, h => by
    simp only [VRels] at h
    obtain ⟨u, us', rfl, h2, h3⟩ := h
    simpa using VRels.drop n h3
theorem VRels.take {ρ : Env} {α : Adr} : ∀ (n : Nat) {s : List SV} {v : List Value}, VRels ρ α s v → VRels ρ α (s.take n) (v.take n)
  | 0, _, _, h => by simp [VRels]
  | n + 1, [], _, h => by simp only [VRels] at h; subst h; simp [VRels]
  | n + 1, s :: vs, _, h => by
    simp only [VRels] at h
    obtain ⟨u, us', rfl, h2, h3⟩ := h
    simp only [List.take_succ_cons, VRels]
    exact ⟨u, _, rfl, h2, VRels.take n h3⟩
theorem spart_ok {ρ : Env} {α : Adr} {P : Program} {w : World} {t : TypeId} {vs : List SV} {us : List Value} {off : Nat} {s : SV} (h : spart P t vs off = some s) (hv : VRels ρ α vs us) :
    ∃ v, (part t us.toArray off).run P w = .ok v w ∧ VRel ρ α s v := by
  unfold spart at h
  cases hg : tyAgg P t with
  | none => simp [hg] at h
  | some b =>
    cases b with
    | true =>
      cases hz : tySize P t with
      | none => simp [hg, hz] at h
      | some z =>
        simp only [hg, hz] at h
        split at h
        · simp only [Option.some.injEq] at h
          subst h
          refine ⟨.agg ((us.drop off).take z).toArray, ?_, ?_⟩
          · simp only [part, Sem.run_bind, run_agg hg, Result.andThen_ok, if_true, run_size hz, Sem.run_pure, List.extract_toArray, List.extract_eq_take_drop, Nat.add_sub_cancel_left]
          · simp only [VRel]; exact ⟨_, rfl, VRels.take z (VRels.drop off hv)⟩
        · cases h
    | false =>
      simp only [hg] at h
      obtain ⟨u, hu, hr⟩ := VRels.get hv h
      refine ⟨u, ?_, hr⟩
      simp only [part, Sem.run_bind, run_agg hg, Result.andThen_ok, if_false, Bool.false_eq_true, List.getElem?_toArray, hu, Sem.run_pure]

/-! ### constants, values written out -/
def ofCell : Value → SV
  | .bool b => .bool (.c b)
  | .int k n => if inR k n then .int k (.c n) else .any
  | .pointer none => .nilp
  | .nilIface => .nili
  | .string _ => .cell1
  | _ => .any
def ofValue : Value → SV
  | .agg cs => .agg (cs.toList.map ofCell)
  | v => ofCell v
theorem ofCell_ok {ρ : Env} {α : Adr} (v : Value) : VRel ρ α (ofCell v) v := by
  cases v with
  | pointer p => cases p <;> simp only [ofCell, VRel]
  | string s => simp only [ofCell, VRel]; exact ⟨rfl, rfl⟩
  | int k n =>
    simp only [ofCell]
    split
    · rename_i h; simp only [VRel, Sx.val, true_and]; exact h
    · simp only [VRel]
  | _ => simp only [ofCell, VRel, Sx.val, Sb.val]
theorem ofCells_ok {ρ : Env} {α : Adr} : ∀ (l : List Value), VRels ρ α (l.map ofCell) l
  | [] => by simp [VRels]
  | v :: l => by simp only [List.map_cons, VRels]; exact ⟨v, l, rfl, ofCell_ok v, ofCells_ok l⟩
theorem ofValue_ok {ρ : Env} {α : Adr} (v : Value) : VRel ρ α (ofValue v) v := by
  cases v with
  | agg cs => simp only [ofValue, VRel]; exact ⟨cs.toList, by simp, ofCells_ok _⟩
  | _ => simp only [ofValue]; exact ofCell_ok _

def zeroOf (P : Program) (t : TypeId) : Option (List Value) :=
  match P.info? t with
  | some i => match i.zero with
    | some v => some v.cells.toList
    | none => none
  | none => none
theorem run_zero {P : Program} {w : World} {t : TypeId} {l : List Value} (h : zeroOf P t = some l) : ∃ v, (zeroValue t).run P w = .ok v w ∧ v.cells = l.toArray := by
  unfold zeroOf at h
  cases hi : P.info? t with
  | none => simp [hi] at h
  | some i =>
    simp only [hi] at h
    cases hz : i.zero with
    | none => simp [hz] at h
    | some v =>
      simp only [hz, Option.some.injEq] at h
      exact ⟨v, by simp [zeroValue, typeInfo, hi, hz], by rw [← h]⟩

def setL : List SV → Nat → List SV → List SV
  | l, _, [] => l
  | l, o, v :: vs => setL (l.set o v) (o + 1) vs
theorem setL_length : ∀ (vs l : List SV) (o : Nat), (setL l o vs).length = l.length
  | [], l, o => rfl
  | v :: vs, l, o => by simp only [setL, setL_length vs, List.length_set]
def setV : List Value → Nat → List Value → List Value
  | l, _, [] => l
  | l, o, v :: vs => setV (l.set o v) (o + 1) vs
theorem VRels.set {ρ : Env} {α : Adr} {s : List SV} {v : List Value} (h : VRels ρ α s v) (i : Nat) {x : SV} {u : Value} (hx : VRel ρ α x u) : VRels ρ α (s.set i x) (v.set i u) := by
  refine VRels.of_get (by simp [h.length]) fun j y hy => ?_
  by_cases hij : i = j
  · subst hij
    rw [List.getElem?_set] at hy
    simp only [if_true] at hy
    split at hy
    · rename_i hlt
      simp only [Option.some.injEq] at hy
      subst hy
      exact ⟨u, by rw [List.getElem?_set]; simp [h.length, hlt], hx⟩
    · cases hy
  · rw [List.getElem?_set_ne hij] at hy ⊢
    exact h.get hy
theorem VRels.setL {ρ : Env} {α : Adr} : ∀ {vs : List SV} {us : List Value} {s : List SV} {v : List Value} (o : Nat), VRels ρ α s v → VRels ρ α vs us → VRels ρ α (setL s o vs) (setV v o us)
  | [], _, _, _, _, h, h' => by simp only [VRels] at h'; subst h'; simpa only [Go.Proofs.YtpaidbefbkokfaaDoor.setL, setV] using h
  | x :: vs, _, _, _, o, h, h' => by
    simp only [VRels] at h'
    obtain ⟨u, us', rfl, h2, h3⟩ := h'
    simp only [Go.Proofs.YtpaidbefbkokfaaDoor.setL, setV]
    exact VRels.setL (o + 1) (h.set o h2) h3
theorem foldl_set : ∀ (cs : List Value) (o k : Nat) (arr : Array Value), (cs.zipIdx k).foldl (fun (a : Array Value) (p : Value × Nat) => a.setIfInBounds (o + p.2) p.1) arr = (setV arr.toList (o + k) cs).toArray
  | [], o, k, arr => by simp [setV]
  | c :: cs, o, k, arr => by
    simp only [List.zipIdx_cons, List.foldl_cons, setV]
    rw [foldl_set cs o (k + 1)]
    simp [Array.toList_setIfInBounds, Nat.add_assoc]
def sfill (place : Nat → Option (Nat × Nat)) : List SV → List (Nat × SV) → Option (List SV)
  | cells, [] => some cells
  | cells, (i, v) :: rest =>
    match place i with
    | none => none
    | some (off, size) => if v.flat = true ∧ v.cells.length = size ∧ off + v.cells.length ≤ cells.length then sfill place (setL cells off v.cells) rest else none
inductive PRel (ρ : Env) (α : Adr) : List (Nat × SV) → List (Nat × Value) → Prop where
  | nil : PRel ρ α [] []
  | cons {i : Nat} {s : SV} {v : Value} {l : List (Nat × SV)} {m : List (Nat × Value)} : VRel ρ α s v → PRel ρ α l m → PRel ρ α ((i, s) :: l) ((i, v) :: m)
theorem sfill_ok {ρ : Env} {α : Adr} {place : Nat → Option (Nat × Nat)} : ∀ {ps : List (Nat × SV)} {qs : List (Nat × Value)} {cells : List SV} {vs : List Value} {r : List SV}, PRel ρ α ps qs → VRels ρ α cells vs → sfill place cells ps = some r →
    ∃ us, Instr.fill place vs.toArray qs = some us.toArray ∧ VRels ρ α r us := by
  intro ps
  induction ps with
  | nil =>
    intro qs cells vs r hp hv h
    cases hp
    simp only [sfill, Option.some.injEq] at h
    subst h
    exact ⟨vs, rfl, hv⟩
  | cons p ps ih =>
    intro qs cells vs r hp hv h
    cases hp with
    | cons hx hm =>
      rename_i i s v m
      simp only [sfill] at h
      cases hpl : place i with
      | none => simp [hpl] at h
      | some q =>
        obtain ⟨off, size⟩ := q
        simp only [hpl] at h
        split at h
        · rename_i hc
          obtain ⟨hf, hl, ho⟩ := hc
          have hfc := (SV.flat_cells hx hf).1
          have hlen := hfc.length
          obtain ⟨us, hu, hr⟩ := ih hm (VRels.setL off hv hfc) h
          refine ⟨us, ?_, hr⟩
          have hsz : v.cells.size = size := by rw [← hl, ← hlen]; simp
          have hle : ¬ (off + v.cells.size > vs.toArray.size) := by
            have := hv.length; simp at hlen ⊢; omega
          simp only [Instr.fill, hpl]
          rw [if_neg (by simp only [hsz, ne_eq, not_true_eq_false, decide_false, Bool.false_or, decide_eq_true_eq]; rw [← hsz]; exact hle)]
          rw [← hu]
          congr 1
          rw [← Array.foldl_toList, Array.toList_zipIdx]
          exact foldl_set v.cells.toList off 0 vs.toArray
        · cases h
end Go.Proofs.YtpaidbefbkokfaaDoor
