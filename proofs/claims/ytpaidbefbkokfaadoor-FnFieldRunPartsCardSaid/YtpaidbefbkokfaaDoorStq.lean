/- fieldStep over registers: what it leaves, as a function of the step and of the registers' values. No condition. -/
import Derived.Test.YtpaidbefbkokfaaDoorRun
namespace Go.Proofs.YtpaidbefbkokfaaDoor
open Go Go.RowKit
set_option linter.unusedVariables false
set_option linter.unusedSimpArgs false
set_option maxRecDepth 100000

/-- The step o over n registers leaves in them what G says of their values. -/
def StepC (o : Opr) (n : Nat) (G : (Nat → F) → Nat → F) : Prop :=
  (∀ fs i, n ≤ i → G fs i = fs i) ∧ ∀ (H : Nat) (W : World) (ps : Nat → Nat × Nat) (es : Nat → Elt) (b s cap : Nat) (q0 q1 q2 : Nat × Nat), H ≤ W.heap.size → VarsAt W H q0 q1 q2 → Regs W H n ps es → RegS W H n ps b s →
    Invokes Tryd.prog fStep #[.slice (some ⟨b, s, none⟩) n cap, opV o] W fun v W' => v = .tuple #[] ∧ (∃ es', Regs W' H n ps es' ∧ ∀ i, (es' i).fe = G (fun i => (es i).fe) i) ∧ Fr (fun b' _ => ∃ i, i < n ∧ b' = (ps i).1) W W'
def φO (n : Nat) (o : Opr) (idx : Nat → Nat) (fs : Nat → F) : FEnv := ⟨oI n o, fun j => if j < 3 then (esV.getD j zeroE).fe else fs (idx (j - 3)), fun _ => o.N⟩
section
variable {n m : Nat} {o : Opr} {idx : Nat → Nat} {pat : List Nat}
theorem inv_start {es : Nat → Elt} {rv : Value} {ρ' : Env} (ha : Agree (msS m []).cn (envO n o idx es rv) ρ') : InvF (msS m []).cn (φO n o idx fun i => (es i).fe) ρ' := by
  refine ⟨fun j hj => (ha.i j hj).symm, fun j hj => ?_, fun j hj => (ha.n j hj).symm⟩
  rw [ha.e j hj]
  show (if j < 3 then (esV.getD j zeroE).fe else (es (idx (j - 3))).fe) = (if j < 3 then esV.getD j zeroE else es (idx (j - 3))).fe
  split <;> rfl
theorem limbs_at (e : Nat) {i : Nat} (h : i < 5) : (limbs e)[i]? = some (.int .u64 (.l e i)) := by
  match i, h with
  | 0, _ => rfl
  | 1, _ => rfl
  | 2, _ => rfl
  | 3, _ => rfl
  | 4, _ => rfl
theorem stepB (hb : RunB m pat o.k) (hn : inR .i64 ((n : Nat) : Int)) (hf : o.Fits) (hi : ∀ i, i < m → idx i < n) (hj : ∀ i j, i < m → j < m → idx i = idx j → i = j)
    (hp : ∀ j e, pat[j]? = some e → e < m ∧ oI n o (j + 1) = ((idx e : Nat) : Int)) : ∃ G, StepC o n G := by
  obtain ⟨ms', outs, hrun, hc⟩ := hb
  simp only [chkS, Bool.and_eq_true, List.all_eq_true] at hc
  obtain ⟨⟨c1, c2⟩, c3⟩ := hc
  have hch : ∀ j, j < m → ∃ ch, ms'.mem[6 + j]? = some ch ∧ ch.wr = true ∧ ch.cells = limbs (outs.getD j 0) ∧ outs.getD j 0 < (endC (msS m []).cn ms'.tr.reverse).ne := by
    intro j hj'
    have h := c3 j (List.mem_range.2 hj')
    split at h
    · rename_i ch hch
      simp only [Bool.and_eq_true] at h
      exact ⟨ch, hch, h.1.1, SV.beqs_eq _ _ h.1.2, blt_lt h.2⟩
    · cases h
  refine ⟨fun fs => updM idx (fun j => (evL (φO n o idx fs) ms'.tr.reverse).e (outs.getD j 0)) fs m, fun fs i hi' => updM_ne fun j hj' => by have := hi j hj'; omega, fun H W ps es b s cap q0 q1 q2 hH hv hr hs => ?_⟩
  refine (step_run tabW6_ok hrun c1 hn hf hi hj hp hH hv hr hs (fun ρ' j => ρ'.e (outs.getD j 0)) fun ρ' ha hd j hj' => ?_).mono ?_
  · obtain ⟨ch, h1, h2, h3, _⟩ := hch j hj'
    exact ⟨ch, h1, h2, fun i hi5 => ⟨.l (outs.getD j 0) i, by rw [h3]; exact limbs_at _ hi5, rfl⟩⟩
  · rintro v W' ⟨hv', ⟨ρ', ha, hd, hreg⟩, hfr⟩
    refine ⟨hv', ⟨_, hreg, fun i => ?_⟩, hfr⟩
    have hN : ρ'.n 0 < 4294967296 := by rw [ha.n 0 (show 0 < 1 by decide)]; exact hf.N
    have hinv := evL_ok hN ms'.tr.reverse (msS m []).cn (φO n o idx fun i => (es i).fe) hrun.2.1 (List.all_eq_true.2 c2) (defs_rev (by rw [List.reverse_reverse]; exact hd)) (inv_start ha)
    rw [updM_map (fun e : Elt => e.fe)]
    refine updM_congr m i fun j hj' => ?_
    obtain ⟨_, _, _, _, hlt⟩ := hch j hj'
    exact (hinv.e _ hlt).symm
end

/-! ### the patterns -/
def ix1 (i : Nat) : Nat → Nat := fun _ => i
def ix2 (i j : Nat) : Nat → Nat
  | 0 => i
  | _ => j
def ix3 (i j l : Nat) : Nat → Nat
  | 0 => i
  | 1 => j
  | _ => l
section
variable {n : Nat} {k : Int} {i j l N : Nat} {X Y : Int}
theorem bin_ex (h3 : RunB 3 [0, 1, 2] k) (ha : RunB 2 [0, 0, 1] k) (hb : RunB 2 [0, 1, 0] k) (hc : RunB 2 [0, 1, 1] k) (h1 : RunB 1 [0, 0, 0] k) (hn : inR .i64 ((n : Nat) : Int)) (hf : (Opr.mk k i j l N).Fits) (hi : i < n) (hj : j < n) (hl : l < n) : ∃ G, StepC ⟨k, i, j, l, N⟩ n G := by
  by_cases e1 : i = j
  · subst e1
    by_cases e2 : i = l
    · subst e2
      refine stepB (idx := ix1 i) h1 hn hf (fun _ _ => hi) (fun a b ha hb _ => by omega) fun t e ht => ?_
      match t, ht with
      | 0, ht => cases ht; exact ⟨by decide, rfl⟩
      | 1, ht => cases ht; exact ⟨by decide, rfl⟩
      | 2, ht => cases ht; exact ⟨by decide, rfl⟩
      | t + 3, ht => simp at ht
    · refine stepB (idx := ix2 i l) ha hn hf (fun a ha => ?_) (fun a b ha hb hab => ?_) fun t e ht => ?_
      · match a, ha with
        | 0, _ => exact hi
        | 1, _ => exact hl
      · match a, b, ha, hb with
        | 0, 0, _, _ => rfl
        | 0, 1, _, _ => exact absurd hab e2
        | 1, 0, _, _ => exact absurd hab.symm e2
        | 1, 1, _, _ => rfl
      · match t, ht with
        | 0, ht => cases ht; exact ⟨by decide, rfl⟩
        | 1, ht => cases ht; exact ⟨by decide, rfl⟩
        | 2, ht => cases ht; exact ⟨by decide, rfl⟩
        | t + 3, ht => simp at ht
  · by_cases e2 : i = l
    · subst e2
      refine stepB (idx := ix2 i j) hb hn hf (fun a ha => ?_) (fun a b ha hb hab => ?_) fun t e ht => ?_
      · match a, ha with
        | 0, _ => exact hi
        | 1, _ => exact hj
      · match a, b, ha, hb with
        | 0, 0, _, _ => rfl
        | 0, 1, _, _ => exact absurd hab e1
        | 1, 0, _, _ => exact absurd hab.symm e1
        | 1, 1, _, _ => rfl
      · match t, ht with
        | 0, ht => cases ht; exact ⟨by decide, rfl⟩
        | 1, ht => cases ht; exact ⟨by decide, rfl⟩
        | 2, ht => cases ht; exact ⟨by decide, rfl⟩
        | t + 3, ht => simp at ht
    · by_cases e3 : j = l
      · subst e3
        refine stepB (idx := ix2 i j) hc hn hf (fun a ha => ?_) (fun a b ha hb hab => ?_) fun t e ht => ?_
        · match a, ha with
          | 0, _ => exact hi
          | 1, _ => exact hj
        · match a, b, ha, hb with
          | 0, 0, _, _ => rfl
          | 0, 1, _, _ => exact absurd hab e1
          | 1, 0, _, _ => exact absurd hab.symm e1
          | 1, 1, _, _ => rfl
        · match t, ht with
          | 0, ht => cases ht; exact ⟨by decide, rfl⟩
          | 1, ht => cases ht; exact ⟨by decide, rfl⟩
          | 2, ht => cases ht; exact ⟨by decide, rfl⟩
          | t + 3, ht => simp at ht
      · refine stepB (idx := ix3 i j l) h3 hn hf (fun a ha => ?_) (fun a b ha hb hab => ?_) fun t e ht => ?_
        · match a, ha with
          | 0, _ => exact hi
          | 1, _ => exact hj
          | 2, _ => exact hl
        · match a, b, ha, hb with
          | 0, 0, _, _ => rfl
          | 0, 1, _, _ => exact absurd hab e1
          | 0, 2, _, _ => exact absurd hab e2
          | 1, 0, _, _ => exact absurd hab.symm e1
          | 1, 1, _, _ => rfl
          | 1, 2, _, _ => exact absurd hab e3
          | 2, 0, _, _ => exact absurd hab.symm e2
          | 2, 1, _, _ => exact absurd hab.symm e3
          | 2, 2, _, _ => rfl
        · match t, ht with
          | 0, ht => cases ht; exact ⟨by decide, rfl⟩
          | 1, ht => cases ht; exact ⟨by decide, rfl⟩
          | 2, ht => cases ht; exact ⟨by decide, rfl⟩
          | t + 3, ht => simp at ht
theorem un_two (h2 : RunB 2 [0, 1] k) (hn : inR .i64 ((n : Nat) : Int)) (hf : (Opr.mk k i j Y N).Fits) (hi : i < n) (hj : j < n) (e1 : i ≠ j) : ∃ G, StepC ⟨k, i, j, Y, N⟩ n G := by
  refine stepB (idx := ix2 i j) h2 hn hf (fun a ha => ?_) (fun a b ha hb hab => ?_) fun t e ht => ?_
  · match a, ha with
    | 0, _ => exact hi
    | 1, _ => exact hj
  · match a, b, ha, hb with
    | 0, 0, _, _ => rfl
    | 0, 1, _, _ => exact absurd hab e1
    | 1, 0, _, _ => exact absurd hab.symm e1
    | 1, 1, _, _ => rfl
  · match t, ht with
    | 0, ht => cases ht; exact ⟨by decide, rfl⟩
    | 1, ht => cases ht; exact ⟨by decide, rfl⟩
    | t + 2, ht => simp at ht
theorem un_ex (h2 : RunB 2 [0, 1] k) (h1 : RunB 1 [0, 0] k) (hn : inR .i64 ((n : Nat) : Int)) (hf : (Opr.mk k i j Y N).Fits) (hi : i < n) (hj : j < n) : ∃ G, StepC ⟨k, i, j, Y, N⟩ n G := by
  by_cases e1 : i = j
  · subst e1
    refine stepB (idx := ix1 i) h1 hn hf (fun _ _ => hi) (fun a b ha hb _ => by omega) fun t e ht => ?_
    match t, ht with
    | 0, ht => cases ht; exact ⟨by decide, rfl⟩
    | 1, ht => cases ht; exact ⟨by decide, rfl⟩
    | t + 2, ht => simp at ht
  · exact un_two h2 hn hf hi hj e1
theorem nul_ex (h1 : RunB 1 [0] k) (hn : inR .i64 ((n : Nat) : Int)) (hf : (Opr.mk k i X Y N).Fits) (hi : i < n) : ∃ G, StepC ⟨k, i, X, Y, N⟩ n G := by
  refine stepB (idx := ix1 i) h1 hn hf (fun _ _ => hi) (fun a b ha hb _ => by omega) fun t e ht => ?_
  match t, ht with
  | 0, ht => cases ht; exact ⟨by decide, rfl⟩
  | t + 1, ht => simp at ht
/-! ### Swap of a register with itself -/
theorem swap_limb {l x m t u v : Int} (l0 : 0 ≤ l) (hl : l < 18446744073709551616) (h1 : x = wr .u64 ((ub .u64 l ^^^ ub .u64 l : Nat) : Int)) (h2 : t = wr .u64 ((ub .u64 m &&& ub .u64 x : Nat) : Int)) (h3 : u = wr .u64 ((ub .u64 l ^^^ ub .u64 t : Nat) : Int))
    (h4 : v = wr .u64 ((ub .u64 u ^^^ ub .u64 t : Nat) : Int)) : v = l := by
  rw [Nat.xor_self] at h1
  have e1 : x = 0 := by rw [h1]; rfl
  rw [e1, show ub .u64 0 = 0 from rfl, Nat.and_zero] at h2
  have e2 : t = 0 := by rw [h2]; rfl
  have e3 : ((ub .u64 l : Nat) : Int) = l := by simp only [ub]; omega
  rw [e2, show ub .u64 0 = 0 from rfl, Nat.xor_zero, e3] at h3
  have e4 : u = l := by rw [h3]; simp only [wr]; omega
  rw [e2, show ub .u64 0 = 0 from rfl, Nat.xor_zero, e4, e3] at h4
  rw [h4]; simp only [wr]; omega
theorem swap_self (hn : inR .i64 ((n : Nat) : Int)) (hf : (Opr.mk 11 i i Y N).Fits) (hi : i < n) : ∃ G, StepC ⟨11, i, i, Y, N⟩ n G := by
  refine ⟨fun fs => fs, fun _ _ _ => rfl, fun H W ps es b s cap q0 q1 q2 hH hv hr hs => ?_⟩
  have hna : noAsm s11_00_ms.tr = true := by kernel_rfl
  have hrun : runOk (body tabB 8 fStep) (msS 1 []) (argsS 1 [0, 0] (Opr.mk 11 i i Y N).k) (.tuple []) s11_00_ms := s11_00_run
  refine (step_run (m := 1) (idx := ix1 i) (pat := [0, 0]) (o := ⟨11, i, i, Y, N⟩) tabB_ok hrun hna hn hf (fun _ _ => hi) (fun a b ha hb _ => by omega) (fun t e ht => ?_) hH hv hr hs (fun ρ' _ => ρ'.e 3) fun ρ' ha hd j hj' => ?_).mono ?_
  · match t, ht with
    | 0, ht => cases ht; exact ⟨by decide, rfl⟩
    | 1, ht => cases ht; exact ⟨by decide, rfl⟩
    | t + 2, ht => simp at ht
  · obtain rfl : j = 0 := by omega
    simp only [s11_00_ms, Defs, Ent.def, Fi.sem, List.map_cons, List.map_nil, Sx.val] at hd
    obtain ⟨d28, d27, d26, d25, d24, d23, d22, d21, d20, d19, d18, d17, d16, d15, d14, d13, d12, d11, d10, d9, d8, d7, d6, d5, d4, _⟩ := hd
    have bd := fun j => E5.at_in (ρ'.e 3) j
    have lt : ∀ j, 0 ≤ (ρ'.e 3).1.at j ∧ (ρ'.e 3).1.at j < 18446744073709551616 := fun j => ⟨(bd j).1, Int.lt_trans (bd j).2 (by decide)⟩
    refine ⟨_, rfl, rfl, fun t ht => ?_⟩
    match t, ht with
    | 0, _ => exact ⟨_, rfl, swap_limb (lt 0).1 (lt 0).2 d9 d10 d11 d12⟩
    | 1, _ => exact ⟨_, rfl, swap_limb (lt 1).1 (lt 1).2 d13 d14 d15 d16⟩
    | 2, _ => exact ⟨_, rfl, swap_limb (lt 2).1 (lt 2).2 d17 d18 d19 d20⟩
    | 3, _ => exact ⟨_, rfl, swap_limb (lt 3).1 (lt 3).2 d21 d22 d23 d24⟩
    | 4, _ => exact ⟨_, rfl, swap_limb (lt 4).1 (lt 4).2 d25 d26 d27 d28⟩
  · rintro v W' ⟨hv', ⟨ρ', ha, hd, hreg⟩, hfr⟩
    refine ⟨hv', ⟨_, hreg, fun t => ?_⟩, hfr⟩
    show (upd es i (ρ'.e 3) t).fe = (es t).fe
    have e3 : ρ'.e 3 = es i := ha.e 3 (show 3 < 3 + 1 by decide)
    unfold upd
    split
    · rename_i h; rw [h, e3]
    · rfl
theorem swap_ex (hn : inR .i64 ((n : Nat) : Int)) (hf : (Opr.mk 11 i j Y N).Fits) (hi : i < n) (hj : j < n) : ∃ G, StepC ⟨11, i, j, Y, N⟩ n G := by
  by_cases e1 : i = j
  · subst e1; exact swap_self hn hf hi
  · exact un_two s11_01_b hn hf hi hj e1
end

/-! ### any step that is made -/
def isK (k : Int) : Bool := decide (0 ≤ k ∧ k ≤ 15)
def usX (k : Int) : Bool := decide (0 ≤ k ∧ k ≤ 12) || decide (k = 15)
def usY (k : Int) : Bool := decide (k = 0) || decide (k = 1) || decide (k = 2) || decide (k = 9) || decide (k = 10)
def regB (i : Int) (n : Nat) : Bool := decide (0 ≤ i) && decide (i < (n : Int))
def Opr.does (o : Opr) (n : Nat) : Bool := isK o.k && regB o.Z n && (!usX o.k || regB o.X n) && (!usY o.k || regB o.Y n)
theorem regB_nat {i : Int} {n : Nat} (h : regB i n = true) : ∃ j : Nat, i = (j : Int) ∧ j < n := by
  simp only [regB, Bool.and_eq_true, decide_eq_true_eq] at h
  exact ⟨i.toNat, by omega, by omega⟩
theorem step_ex {n : Nat} {o : Opr} (hn : inR .i64 ((n : Nat) : Int)) (hf : o.Fits) (h : o.does n = true) : ∃ G, StepC o n G := by
  obtain ⟨k, Z, X, Y, N⟩ := o
  simp only [Opr.does, Bool.and_eq_true] at h
  obtain ⟨⟨⟨h1, h2⟩, h3⟩, h4⟩ := h
  obtain ⟨i, rfl, hi⟩ := regB_nat h2
  have hx : usX k = true → ∃ j : Nat, X = (j : Int) ∧ j < n := fun e => by rw [e] at h3; exact regB_nat (by simpa using h3)
  have hy : usY k = true → ∃ j : Nat, Y = (j : Int) ∧ j < n := fun e => by rw [e] at h4; exact regB_nat (by simpa using h4)
  simp only [isK, decide_eq_true_eq] at h1
  have hk : k = 0 ∨ k = 1 ∨ k = 2 ∨ k = 3 ∨ k = 4 ∨ k = 5 ∨ k = 6 ∨ k = 7 ∨ k = 8 ∨ k = 9 ∨ k = 10 ∨ k = 11 ∨ k = 12 ∨ k = 13 ∨ k = 14 ∨ k = 15 := by omega
  clear h1 h2 h3 h4
  rcases hk with rfl | rfl | rfl | rfl | rfl | rfl | rfl | rfl | rfl | rfl | rfl | rfl | rfl | rfl | rfl | rfl
  · obtain ⟨j, rfl, hj⟩ := hx rfl
    obtain ⟨l, rfl, hl⟩ := hy rfl
    exact bin_ex s0_012_b s0_001_b s0_010_b s0_011_b s0_000_b hn hf hi hj hl
  · obtain ⟨j, rfl, hj⟩ := hx rfl
    obtain ⟨l, rfl, hl⟩ := hy rfl
    exact bin_ex s1_012_b s1_001_b s1_010_b s1_011_b s1_000_b hn hf hi hj hl
  · obtain ⟨j, rfl, hj⟩ := hx rfl
    obtain ⟨l, rfl, hl⟩ := hy rfl
    exact bin_ex s2_012_b s2_001_b s2_010_b s2_011_b s2_000_b hn hf hi hj hl
  · obtain ⟨j, rfl, hj⟩ := hx rfl
    exact un_ex s3_01_b s3_00_b hn hf hi hj
  · obtain ⟨j, rfl, hj⟩ := hx rfl
    exact un_ex s4_01_b s4_00_b hn hf hi hj
  · obtain ⟨j, rfl, hj⟩ := hx rfl
    exact un_ex s5_01_b s5_00_b hn hf hi hj
  · obtain ⟨j, rfl, hj⟩ := hx rfl
    exact un_ex s6_01_b s6_00_b hn hf hi hj
  · obtain ⟨j, rfl, hj⟩ := hx rfl
    exact un_ex s7_01_b s7_00_b hn hf hi hj
  · obtain ⟨j, rfl, hj⟩ := hx rfl
    exact un_ex s8_01_b s8_00_b hn hf hi hj
  · obtain ⟨j, rfl, hj⟩ := hx rfl
    obtain ⟨l, rfl, hl⟩ := hy rfl
    exact bin_ex s9_012_b s9_001_b s9_010_b s9_011_b s9_000_b hn hf hi hj hl
  · obtain ⟨j, rfl, hj⟩ := hx rfl
    obtain ⟨l, rfl, hl⟩ := hy rfl
    exact bin_ex s10_012_b s10_001_b s10_010_b s10_011_b s10_000_b hn hf hi hj hl
  · obtain ⟨j, rfl, hj⟩ := hx rfl
    exact swap_ex hn hf hi hj
  · obtain ⟨j, rfl, hj⟩ := hx rfl
    exact un_ex s12_01_b s12_00_b hn hf hi hj
  · exact nul_ex s13_0_b hn hf hi
  · exact nul_ex s14_0_b hn hf hi
  · obtain ⟨j, rfl, hj⟩ := hx rfl
    exact un_ex s15_01_b s15_00_b hn hf hi hj
/-- What a step leaves, as a function. -/
noncomputable def stepG (n : Nat) (o : Opr) : (Nat → F) → Nat → F := open Classical in if h : ∃ G, StepC o n G then h.choose else fun f => f
theorem stepG_ok {n : Nat} {o : Opr} (hn : inR .i64 ((n : Nat) : Int)) (hf : o.Fits) (h : o.does n = true) : StepC o n (stepG n o) := by
  unfold stepG
  rw [dif_pos (step_ex hn hf h)]
  exact (step_ex hn hf h).choose_spec
end Go.Proofs.YtpaidbefbkokfaaDoor
