/- feSquareN: its contract. No condition. -/
import Derived.Test.YtpaidbefbkokfaaDoorElm
import Derived.Test.YtpaidbefbkokfaaDoorLay
namespace Go.Proofs.YtpaidbefbkokfaaDoor
open Go Go.RowKit
set_option linter.unusedVariables false
set_option linter.unusedSimpArgs false
set_option maxRecDepth 100000

/-- The memory of a pattern of pointers. -/
def envE (el : Nat → Elt) (ns : List Int) : Env := ⟨fun j => ns.getD j 0, fun _ => false, el, fun _ => 0, fun _ => .nilIface⟩
theorem pat_start {pat : List Nat} {nc : Nat} {ks : List IntKind} (hpat : (pat.all (Nat.blt · nc) && Nat.blt 0 nc && (List.range nc).all (fun c => pat.tail.contains c || Nat.beq c (pat.headD 0))) = true)
    {w : World} {ad : Nat → Nat × Nat} {el : Nat → Elt} {ns : List Int} {vs : List Value} (hown : Own 5 w (ad (pat.headD 0))) (hrd : ∀ c, c < nc → c ∈ pat.tail → Rd w (ad c) (el c)) (hap : ∀ c c', c < nc → c' < nc → c ≠ c' → Apart 5 5 (ad c) (ad c'))
    (hints : ints ks ns = some (vs, [])) (hfit : fits ks ns) :
    MRep (envE el ns) (SofL ((List.range nc).map ad) (msE pat nc ks.length).mem) w (adrL ((List.range nc).map ad)) (msE pat nc ks.length).mem w ∧ VRels (envE el ns) (adrL ((List.range nc).map ad)) (argsE pat ks) (pat.map (fun c => ptrV (ad c)) ++ vs) ∧
    (∀ c, c < nc → adrL ((List.range nc).map ad) c = some (ad c)) ∧ ∀ b j, SofL ((List.range nc).map ad) (msE pat nc ks.length).mem b j → InN 5 (ad (pat.headD 0)) b j := by
  simp only [Bool.and_eq_true, List.all_eq_true] at hpat
  have hps : ∀ (c : Nat) (p : Nat × Nat), ((List.range nc).map ad)[c]? = some p → c < nc ∧ p = ad c := by
    intro c p h
    simp only [List.getElem?_map] at h
    cases hr' : (List.range nc)[c]? with
    | none => simp [hr'] at h
    | some x =>
      simp only [hr', Option.map_some, Option.some.injEq] at h
      obtain ⟨h1, h2⟩ := List.getElem?_eq_some_iff.1 hr'
      simp only [List.length_range] at h1
      simp only [List.getElem_range] at h2
      subst h2
      exact ⟨h1, h.symm⟩
  have hget : ∀ (c : Nat) (ch : Chunk), (msE pat nc ks.length).mem[c]? = some ch → c < nc ∧ ch = chE pat c := by
    intro c ch hc
    simp only [msE, List.getElem?_map] at hc
    cases hr' : (List.range nc)[c]? with
    | none => simp [hr'] at hc
    | some x =>
      simp only [hr', Option.map_some, Option.some.injEq] at hc
      obtain ⟨h1, h2⟩ := List.getElem?_eq_some_iff.1 hr'
      simp only [List.length_range] at h1
      simp only [List.getElem_range] at h2
      subst h2
      exact ⟨h1, hc.symm⟩
  have hlen5 : ∀ c, (chE pat c).cells.length = 5 := by
    intro c
    unfold chE
    cases pat.tail.contains c <;> simp [limbs, anys]
  have hadr : ∀ c, c < nc → adrL ((List.range nc).map ad) c = some (ad c) := by
    intro c hc
    simp only [adrL, List.getElem?_map, List.getElem?_range hc, Option.map_some]
  refine ⟨mrep_of (by simp [msE]) (fun c p ch hp hch => ?_) (fun c c' p p' ch ch' hlt hp hp' hch hch' => ?_), ?_, hadr, ?_⟩
  · obtain ⟨h1, rfl⟩ := hps c p hp
    obtain ⟨_, rfl⟩ := hget c ch hch
    unfold chE
    cases hu : pat.tail.contains c with
    | true =>
      simp only [cond_true]
      refine lies_limbs (ρ := envE el ns) (e := c) (hrd c h1 (by simpa using hu)) _ fun hb => ?_
      have := Nat.eq_of_beq_eq_true hb
      rw [this]; exact hown
    | false =>
      simp only [cond_false]
      have hcv : c = pat.headD 0 := by
        have := hpat.2 c (List.mem_range.2 h1)
        simp only [hu, Bool.false_or] at this
        exact Nat.eq_of_beq_eq_true this
      refine lies_anys (by decide) ?_ _
      rw [hcv]; exact hown
  · obtain ⟨h1, rfl⟩ := hps c p hp
    obtain ⟨h2, rfl⟩ := hps c' p' hp'
    obtain ⟨_, rfl⟩ := hget c ch hch
    obtain ⟨_, rfl⟩ := hget c' ch' hch'
    rw [hlen5, hlen5]
    exact hap c c' h1 h2 (by omega)
  · have hptrs : ∀ l : List Nat, (∀ c ∈ l, c < nc) → VRels (envE el ns) (adrL ((List.range nc).map ad)) (ptrsE l) (l.map fun c => ptrV (ad c)) := by
      intro l
      induction l with
      | nil => intro _; simp [ptrsE, VRels]
      | cons c l ih =>
        intro hl
        simp only [ptrsE, List.map_cons, VRels, VRel]
        exact ⟨_, _, rfl, ⟨(ad c).1, (ad c).2, hadr c (hl c (by simp)), by simp [ptrV]⟩, ih fun d hd => hl d (List.mem_cons_of_mem _ hd)⟩
    exact VRels.append (hptrs pat fun c hc => blt_lt (hpat.1.1 c hc)) (ints_rel hints hfit fun j m hm => by simp [envE, List.getD, hm])
  · rintro b j ⟨c, p, ch, h1, h2, h3, h4⟩
    obtain ⟨_, rfl⟩ := hps c p h1
    obtain ⟨_, rfl⟩ := hget c ch h2
    rw [hlen5] at h4
    have hcv : c = pat.headD 0 := Nat.eq_of_beq_eq_true h3
    rw [← hcv]
    exact h4

def sqnH : Tm := tmS 9 [(0, .ptr 0 0), (6, .int .u64 (.l 0 0)), (7, .int .u64 (.l 0 1)), (8, .int .u64 (.l 0 2)), (9, .int .u64 (.l 0 3)), (10, .int .u64 (.l 0 4)), (46, .int .i64 (.w 0 0)), (47, .int .i64 (.w 1 0))]
def sqnM (o : List Bool) : Ms := ⟨[⟨anys 5, true⟩], [], 0, 0, 1, 2, o, []⟩
def sqnA_tr : List Ent := []
def sqnA_ob : List Ob := [.i (.l 0 1) (.l 1 1), .i (.w 1 0) (.c 0), .i (.l 0 3) (.l 1 3), .i (.l 0 2) (.l 1 2), .i (.l 0 0) (.l 1 0), .i (.l 0 4) (.l 1 4), .i (.w 0 0) (.x 0)]
theorem sqnA_run : runTo Tryd.prog (RR tabW 2) 193 (prL Tryd.prog 38) (argsTm (Tm.full 12) 0 (argsE [0, 1] [.i64])) (msE [0, 1] 2 1) (sqnH) (sqnM []) = some (.normal, sqnA_tr, sqnA_ob) := by kernel_rfl
def sqnB_tr : List Ent := []
def sqnB_ob : List Ob := [.i (.l 0 1) (.l 0 1), .i (.w 1 0) (.c 0), .i (.l 0 3) (.l 0 3), .i (.l 0 2) (.l 0 2), .i (.l 0 0) (.l 0 0), .i (.l 0 4) (.l 0 4), .i (.w 0 0) (.x 0)]
theorem sqnB_run : runTo Tryd.prog (RR tabW 2) 193 (prL Tryd.prog 38) (argsTm (Tm.full 12) 0 (argsE [0, 0] [.i64])) (msE [0, 0] 1 1) (sqnH) (sqnM []) = some (.normal, sqnB_tr, sqnB_ob) := by kernel_rfl
def sqnX_tr : List Ent := [.asm (.x 0) false, .db 0 (.lss) [.w 1 0, .w 0 0] [] []]
def sqnX_ob : List Ob := [.i (.l 0 1) (.l 0 1), .i (.w 1 0) (.w 1 0), .i (.l 0 3) (.l 0 3), .i (.l 0 2) (.l 0 2), .i (.l 0 0) (.l 0 0), .i (.l 0 4) (.l 0 4), .i (.w 0 0) (.w 0 0)]
theorem sqnX_run : runTo Tryd.prog (RR tabW 2) 193 (flat (lpL Tryd.prog 38)) (sqnH) (sqnM [false]) (sqnH) (sqnM []) = some (.exit 0, sqnX_tr, sqnX_ob) := by kernel_rfl
def sqnS_tr : List Ent := [.di 68 (.add (.i64)) [.w 1 0, .c 1], .di 67 (.add (.u64)) [.x 65, .x 66], .di 66 (.shr (.u64)) [.x 49, .c 51], .di 65 (.and (.u64)) [.x 51, .c 2251799813685247], .di 64 (.add (.u64)) [.x 62, .x 63], .di 63 (.shr (.u64)) [.x 47, .c 51], .di 62 (.and (.u64)) [.x 49, .c 2251799813685247], .di 61 (.add (.u64)) [.x 59, .x 60], .di 60 (.shr (.u64)) [.x 45, .c 51], .di 59 (.and (.u64)) [.x 47, .c 2251799813685247], .di 58 (.add (.u64)) [.x 56, .x 57], .di 57 (.shr (.u64)) [.x 43, .c 51], .di 56 (.and (.u64)) [.x 45, .c 2251799813685247], .di 55 (.add (.u64)) [.x 52, .x 54], .di 54 (.m19) [.x 53], .di 53 (.shr (.u64)) [.x 51, .c 51], .di 52 (.and (.u64)) [.x 43, .c 2251799813685247], .di 51 (.add (.u64)) [.x 50, .x 39], .di 50 (.and (.u64)) [.x 34, .c 2251799813685247], .di 49 (.add (.u64)) [.x 48, .x 38], .di 48 (.and (.u64)) [.x 26, .c 2251799813685247], .di 47 (.add (.u64)) [.x 46, .x 37], .di 46 (.and (.u64)) [.x 18, .c 2251799813685247], .di 45 (.add (.u64)) [.x 44, .x 36], .di 44 (.and (.u64)) [.x 11, .c 2251799813685247], .di 43 (.add (.u64)) [.x 41, .x 42], .di 42 (.m19) [.x 40], .di 41 (.and (.u64)) [.x 4, .c 2251799813685247], .di 40 (.s51) [.x 34, .x 35], .di 39 (.s51) [.x 26, .x 27], .di 38 (.s51) [.x 18, .x 19], .di 37 (.s51) [.x 11, .x 12], .di 36 (.s51) [.x 4, .x 5], .di 35 (.amHi) [.x 32, .x 33, .l 0 2, .l 0 2], .di 34 (.amLo) [.x 32, .x 33, .l 0 2, .l 0 2], .di 33 (.amHi) [.x 29, .x 30, .x 31, .l 0 3], .di 32 (.amLo) [.x 29, .x 30, .x 31, .l 0 3], .di 31 (.mul (.u64)) [.l 0 1, .c 2], .di 30 (.mulHi) [.x 28, .l 0 4], .di 29 (.mulLo) [.x 28, .l 0 4], .di 28 (.mul (.u64)) [.l 0 0, .c 2], .di 27 (.am19Hi) [.x 24, .x 25, .l 0 4, .l 0 4], .di 26 (.am19Lo) [.x 24, .x 25, .l 0 4, .l 0 4], .di 25 (.amHi) [.x 21, .x 22, .x 23, .l 0 2], .di 24 (.amLo) [.x 21, .x 22, .x 23, .l 0 2], .di 23 (.mul (.u64)) [.l 0 1, .c 2], .di 22 (.mulHi) [.x 20, .l 0 3], .di 21 (.mulLo) [.x 20, .l 0 3], .di 20 (.mul (.u64)) [.l 0 0, .c 2], .di 19 (.am38Hi) [.x 16, .x 17, .l 0 3, .l 0 4], .di 18 (.am38Lo) [.x 16, .x 17, .l 0 3, .l 0 4], .di 17 (.amHi) [.x 14, .x 15, .l 0 1, .l 0 1], .di 16 (.amLo) [.x 14, .x 15, .l 0 1, .l 0 1], .di 15 (.mulHi) [.x 13, .l 0 2], .di 14 (.mulLo) [.x 13, .l 0 2], .di 13 (.mul (.u64)) [.l 0 0, .c 2], .di 12 (.am19Hi) [.x 9, .x 10, .l 0 3, .l 0 3], .di 11 (.am19Lo) [.x 9, .x 10, .l 0 3, .l 0 3], .di 10 (.am38Hi) [.x 7, .x 8, .l 0 2, .l 0 4], .di 9 (.am38Lo) [.x 7, .x 8, .l 0 2, .l 0 4], .di 8 (.mulHi) [.x 6, .l 0 1], .di 7 (.mulLo) [.x 6, .l 0 1], .di 6 (.mul (.u64)) [.l 0 0, .c 2], .di 5 (.am38Hi) [.x 2, .x 3, .l 0 2, .l 0 3], .di 4 (.am38Lo) [.x 2, .x 3, .l 0 2, .l 0 3], .di 3 (.am38Hi) [.x 0, .x 1, .l 0 1, .l 0 4], .di 2 (.am38Lo) [.x 0, .x 1, .l 0 1, .l 0 4], .di 1 (.mulHi) [.l 0 0, .l 0 0], .di 0 (.mulLo) [.l 0 0, .l 0 0], .asm (.x 0) true, .db 0 (.lss) [.w 1 0, .w 0 0] [] []]
def sqnS_ob : List Ob := [.i (.l 0 1) (.x 58), .i (.w 1 0) (.x 68), .i (.l 0 3) (.x 64), .i (.l 0 2) (.x 61), .i (.l 0 0) (.x 55), .i (.l 0 4) (.x 67), .i (.w 0 0) (.w 0 0)]
theorem sqnS_run : runTo Tryd.prog (RR tabW 2) 193 (flat (lpL Tryd.prog 38)) (sqnH) (sqnM [true]) (sqnH) (sqnM []) = some (.normal, sqnS_tr, sqnS_ob) := by kernel_rfl
def sqnR_tr : List Ent := []
def sqnR_mem : List Chunk := [⟨[.int .u64 (.l 0 0), .int .u64 (.l 0 1), .int .u64 (.l 0 2), .int .u64 (.l 0 3), .int .u64 (.l 0 4)], true⟩]
theorem sqnR_run : runRet Tryd.prog (RR tabW 2) 193 38 (poL Tryd.prog 38) (sqnH) (sqnM []) = some ([], sqnR_tr, sqnR_mem) := by kernel_rfl

theorem sqnS_eq : sqnS_tr = .di 68 (.add (.i64)) [.w 1 0, .c 1] :: (sqFTr 0 ++ [.asm (.x 0) true, .db 0 (.lss) [.w 1 0, .w 0 0] [] []]) := rfl
theorem asms_app {ρ : Env} : ∀ {l m : List Ent}, Asms ρ (l ++ m) ↔ Asms ρ l ∧ Asms ρ m
  | [], m => by simp [Asms]
  | e :: l, m => by simp only [List.cons_append, Asms, asms_app (l := l), and_assoc]
theorem sqF_asms (ρ : Env) : Asms ρ (sqFTr 0) := by simp only [sqFTr, Asms, Ent.asn, and_true]
theorem sqNE_in (a : Elt) : ∀ k, sqNE (sqE a) k = sqNE a (k + 1)
  | 0 => rfl
  | k + 1 => by simp only [sqNE]; rw [sqNE_in a k]; rfl
theorem rfl_idsqn : (0 : Nat) = idL Tryd.prog 38 := by kernel_rfl
theorem word_small {n : Nat} (h : n < 9223372036854775808) : ((word n 0 : Nat) : Int) = n := by
  unfold word; simp only [Nat.pow_zero, Nat.div_one]; omega
def sqnI (N : Nat) (R : Elt) (k : Nat) (ρ : Env) : Prop := ρ.n 0 = N ∧ N < 9223372036854775808 ∧ ρ.n 1 + k = N ∧ sqNE (ρ.e 0) k = R
theorem sqn_loop {ρ : Env} {S : Nat → Nat → Prop} {w0 : World} {α : Adr} {a : Act} {w : World} {N : Nat} {R : Elt} {v : Nat × Nat} (hr : SRep ρ S w0 α 193 sqnH (sqnM []) a w) (hI : sqnI N R N ρ) (hα : α 0 = some v) :
    wps Tryd.prog (RetQ Tryd.prog 38 fun r w' => r = .tuple #[] ∧ Fr S w0 w' ∧ Rd w' v R) (.block (idL Tryd.prog 38) (.loop (lpL Tryd.prog 38)) :: poL Tryd.prog 38) a w := by
  simp only [wps]
  refine loop_at (sqnI N R) α ?_ N ρ α a w hI (Ext.refl _ _) hr
  clear hr hI ρ a w
  intro k ρ α' ac1 w1 hI hE hr
  obtain ⟨n0, hN, n1, hb⟩ := hI
  cases k with
  | zero =>
    refine to_head mix_ok (RR_ok tabW_ok _) sqnX_run (ms := sqnM [false]) (K := fun ρH => ρH.e 0 = R) (hr.orc rfl rfl) (fun ρ' ha hd => ?_) fun ρH α2 a' w' hK hE2 hr' => ?_
    · have m0 : ρ'.n 0 = ρ.n 0 := ha.n 0 (by decide)
      have m1 : ρ'.n 1 = ρ.n 1 := ha.n 1 (by decide)
      have e0 : ρ'.e 0 = ρ.e 0 := ha.e 0 (by decide)
      simp only [sqnX_tr, Defs, Ent.def, Fb.sem, List.map_cons, List.map_nil, Sx.val, and_true, true_and] at hd
      refine ⟨by simp only [sqnX_tr, Asms, Ent.asn, Sb.val, and_true]; rw [hd]; exact decide_eq_false (by rw [m0, m1, word_small (by omega), word_small (by omega)]; omega), ρ', rfl, by simp only [sqnX_ob, Obs, Ob.ok, and_true], ?_⟩
      rw [e0]; exact hb
    · simp only [SE.toExit]
      rw [if_pos rfl_idsqn]
      refine to_ret mix_ok (RR_ok tabW_ok _) sqnR_run hr' fun ρ' ha hd => ⟨by simp only [sqnR_tr, Asms], fun α'' w'' r he hv hm => ?_⟩
      have e0 : ρ'.e 0 = ρH.e 0 := ha.e 0 (by decide)
      have hα'' : α'' 0 = some v := by
        rw [he 0 (by decide), hE2 0 (by decide) (by decide), hE 0 (by decide), hα]
      refine ⟨?_, hm.fr, ?_⟩
      · simp only [retOf, VRel, VRels] at hv
        obtain ⟨us, rfl, rfl⟩ := hv
        rfl
      · intro j hj
        have hx : (limbs 0)[j]? = some (.int .u64 (.l 0 j)) := by
          match j, hj with
          | 0, _ => rfl
          | 1, _ => rfl
          | 2, _ => rfl
          | 3, _ => rfl
          | 4, _ => rfl
        obtain ⟨u, h1, h2⟩ := hm.cell 0 ⟨limbs 0, true⟩ v.1 v.2 rfl hα'' j _ hx
        simp only [VRel, Sx.val] at h2
        rw [h1, h2.1, e0, hK]
  | succ k =>
    refine to_head mix_ok (RR_ok tabW_ok _) sqnS_run (ms := sqnM [true]) (K := sqnI N R k) (hr.orc rfl rfl) (fun ρ' ha hd => ?_) fun ρH α2 a' w' hK hE' hr' => ⟨k, ρH, α2, Nat.lt_succ_self k, hK, fun c hc => (hE' c hc hc).trans (hE c hc), hr'⟩
    have m0 : ρ'.n 0 = ρ.n 0 := ha.n 0 (by decide)
    have m1 : ρ'.n 1 = ρ.n 1 := ha.n 1 (by decide)
    have e0 : ρ'.e 0 = ρ.e 0 := ha.e 0 (by decide)
    rw [sqnS_eq] at hd ⊢
    obtain ⟨d68, hd⟩ := hd
    rw [defs_app] at hd
    obtain ⟨hd, hd2⟩ := hd
    have hm := sqF_math ρ' [] 0 rfl trivial (fun j m h => by simp at h) hd
    simp only [List.map_cons, List.map_nil, Sx.val, Fe.sem, List.cons.injEq, and_true] at hm
    obtain ⟨z0, z1, z2, z3, z4⟩ := hm
    simp only [Defs, Ent.def, Fb.sem, List.map_cons, List.map_nil, Sx.val, and_true, true_and] at hd2
    simp only [Ent.def, Fi.sem, List.map_cons, List.map_nil, Sx.val, wr] at d68
    rw [m1, word_small (by omega)] at d68
    refine ⟨?_, ⟨ρ'.i, ρ'.b, fun j => if j = 0 then sqE (ρ'.e 0) else ρ'.e j, fun j => if j = 1 then ρ'.n 1 + 1 else ρ'.n j, ρ'.v⟩, rfl, ?_, ?_⟩
    · refine ⟨trivial, asms_app.2 ⟨sqF_asms ρ', ?_⟩⟩
      simp only [Asms, Ent.asn, Sb.val, and_true]
      rw [hd2]; exact decide_eq_true (by rw [m0, m1, word_small (by omega), word_small (by omega)]; omega)
    · simp only [sqnS_ob, Obs, Ob.ok, Sx.val, if_true, and_true]
      refine ⟨z1.symm, ?_, z3.symm, z2.symm, z0.symm, z4.symm, ?_⟩
      · rw [m1, word_small (by omega), d68]; omega
      · rw [if_neg (by decide)]
    · refine ⟨?_, hN, ?_, ?_⟩
      · show (if (0 : Nat) = 1 then ρ'.n 1 + 1 else ρ'.n 0) = N
        rw [if_neg (by decide), m0, n0]
      · show (if (1 : Nat) = 1 then ρ'.n 1 + 1 else ρ'.n 1) + k = N
        rw [if_pos rfl, m1]; omega
      · show sqNE (if (0 : Nat) = 0 then sqE (ρ'.e 0) else ρ'.e 0) k = R
        rw [if_pos rfl, e0, sqNE_in]; exact hb
def PreN : List Int → Prop := fun ns => ∃ n : Int, ns = [n] ∧ 0 ≤ n
theorem fits_i64 {n : Int} (h : fits [.i64] [n]) : n < 9223372036854775808 := by
  simp only [fits] at h
  obtain ⟨m, l, e, h1, _⟩ := h
  cases e
  exact h1.2
theorem sqnA_c : PatC Tryd.prog 38 [0, 1] 2 [.i64] (fun el ns => Fe.sem .sqN [el 1] ns []) false PreN := by
  intro w ad el ns vs hown hrd hap hints hfit hpre
  obtain ⟨n, rfl, hn⟩ := hpre
  have hn2 := fits_i64 hfit
  obtain ⟨hm0, hv, hadr, hS⟩ := pat_start (pat := [0, 1]) (nc := 2) (ks := [.i64]) (by decide) hown hrd hap hints hfit
  refine fn_invokes (ms := msE [0, 1] 2 1) (by kernel_rfl) hm0 (fun g c hgc => by simp [msE] at hgc) hv (of_decide_eq_true (by kernel_rfl)) fun ac hr => ?_
  refine fn_loop (by kernel_rfl) ?_
  refine to_head mix_ok (RR_ok tabW_ok _) sqnA_run (K := sqnI n.toNat (sqNE (el 1) n.toNat) n.toNat) hr (fun ρ ha hd => ⟨by simp only [sqnA_tr, Asms], ?_⟩) fun ρH α1 a1 w1 hK hE hr1 => ?_
  · have i0 : ρ.i 0 = n := ha.i 0 (by decide)
    have e1 : ρ.e 1 = el 1 := ha.e 1 (by decide)
    refine ⟨⟨ρ.i, ρ.b, fun _ => ρ.e 1, fun j => if j = 0 then n.toNat else 0, ρ.v⟩, rfl, ?_, ?_⟩
    · simp only [sqnA_ob, Obs, Ob.ok, Sx.val, if_true, and_true, true_and]
      refine ⟨by rw [if_neg (by decide)]; decide, ?_⟩
      rw [word_small (by omega), i0]; omega
    · refine ⟨rfl, by omega, ?_, ?_⟩
      · show (if (1 : Nat) = 0 then n.toNat else 0) + n.toNat = n.toNat
        rw [if_neg (by decide), Nat.zero_add]
      · show sqNE (ρ.e 1) n.toNat = _
        rw [e1]
  simp only [SE.toExit, Exit.then]
  refine wps_mono (sqn_loop (v := ad 0) hr1 hK ?_) fun e a w' h => ?_
  · rw [hE 0 (by decide) (by decide)]; exact hadr 0 (by decide)
  · obtain ⟨h1, h2, us, h3, h4, h5, h6⟩ := h
    exact ⟨h1, h2, us, h3, h4, h5.mono fun b j hb => .inl (hS b j hb), h6⟩
theorem sqnB_c : PatC Tryd.prog 38 [0, 0] 1 [.i64] (fun el ns => Fe.sem .sqN [el 0] ns []) false PreN := by
  intro w ad el ns vs hown hrd hap hints hfit hpre
  obtain ⟨n, rfl, hn⟩ := hpre
  have hn2 := fits_i64 hfit
  obtain ⟨hm0, hv, hadr, hS⟩ := pat_start (pat := [0, 0]) (nc := 1) (ks := [.i64]) (by decide) hown hrd hap hints hfit
  refine fn_invokes (ms := msE [0, 0] 1 1) (by kernel_rfl) hm0 (fun g c hgc => by simp [msE] at hgc) hv (of_decide_eq_true (by kernel_rfl)) fun ac hr => ?_
  refine fn_loop (by kernel_rfl) ?_
  refine to_head mix_ok (RR_ok tabW_ok _) sqnB_run (K := sqnI n.toNat (sqNE (el 0) n.toNat) n.toNat) hr (fun ρ ha hd => ⟨by simp only [sqnB_tr, Asms], ?_⟩) fun ρH α1 a1 w1 hK hE hr1 => ?_
  · have i0 : ρ.i 0 = n := ha.i 0 (by decide)
    have e1 : ρ.e 0 = el 0 := ha.e 0 (by decide)
    refine ⟨⟨ρ.i, ρ.b, fun _ => ρ.e 0, fun j => if j = 0 then n.toNat else 0, ρ.v⟩, rfl, ?_, ?_⟩
    · simp only [sqnB_ob, Obs, Ob.ok, Sx.val, if_true, and_true, true_and]
      refine ⟨by rw [if_neg (by decide)]; decide, ?_⟩
      rw [word_small (by omega), i0]; omega
    · refine ⟨rfl, by omega, ?_, ?_⟩
      · show (if (1 : Nat) = 0 then n.toNat else 0) + n.toNat = n.toNat
        rw [if_neg (by decide), Nat.zero_add]
      · show sqNE (ρ.e 0) n.toNat = _
        rw [e1]
  simp only [SE.toExit, Exit.then]
  refine wps_mono (sqn_loop (v := ad 0) hr1 hK ?_) fun e a w' h => ?_
  · rw [hE 0 (by decide) (by decide)]; exact hadr 0 (by decide)
  · obtain ⟨h1, h2, us, h3, h4, h5, h6⟩ := h
    exact ⟨h1, h2, us, h3, h4, h5.mono fun b j hb => .inl (hS b j hb), h6⟩
theorem sqn_el : ElC Tryd.prog 38 1 [.i64] (fun es ns => Fe.sem .sqN es ns []) false PreN := elC1_of sqnA_c sqnB_c
/-- Whether it is known that a count is not negative: a constant, or one found not less than 1. -/
def posB : List Ent → Nat → Bool
  | .asm (.x j) false :: l, i => lss1 j i l || posB l i
  | _ :: l, i => posB l i
  | [], _ => false
where
  lss1 (j i : Nat) : List Ent → Bool
  | .db k .lss [.x m, .c n] [] [] :: l => (Nat.beq k j && Nat.beq m i && decide (n = 1)) || lss1 j i l
  | _ :: l => lss1 j i l
  | [] => false
theorem lss1_ok {ρ : Env} {j i : Nat} (hb : ρ.b j = false) : ∀ {l : List Ent}, Sat ρ l → posB.lss1 j i l = true → 0 ≤ ρ.i i
  | [], _, h => by simp [posB.lss1] at h
  | e :: l, hs, h => by
    unfold posB.lss1 at h
    split at h
    · rename_i k m n l' heq
      simp only [List.cons.injEq] at heq
      obtain ⟨rfl, rfl⟩ := heq
      simp only [Bool.or_eq_true, Bool.and_eq_true, decide_eq_true_eq] at h
      rcases h with ⟨⟨h1, h2⟩, rfl⟩ | h
      · have e1 := Nat.eq_of_beq_eq_true h1
        have e2 := Nat.eq_of_beq_eq_true h2
        subst e1 e2
        have := hs.1
        simp only [Ent.ok, Fb.sem, List.map_cons, List.map_nil, Sx.val] at this
        rw [hb] at this
        have := of_decide_eq_false this.symm
        omega
      · exact lss1_ok hb hs.2 h
    · rename_i heq
      simp only [List.cons.injEq] at heq
      obtain ⟨rfl, rfl⟩ := heq
      exact lss1_ok hb hs.2 h
    · cases h
theorem posB_ok {ρ : Env} {i : Nat} : ∀ {l : List Ent}, Sat ρ l → posB l i = true → 0 ≤ ρ.i i
  | [], _, h => by simp [posB] at h
  | e :: l, hs, h => by
    unfold posB at h
    split at h
    · rename_i j l' heq
      simp only [List.cons.injEq] at heq
      obtain ⟨rfl, rfl⟩ := heq
      simp only [Bool.or_eq_true] at h
      rcases h with h | h
      · exact lss1_ok (by have := hs.1; exact this) hs.2 h
      · exact posB_ok hs.2 h
    · rename_i heq
      simp only [List.cons.injEq] at heq
      obtain ⟨rfl, rfl⟩ := heq
      exact posB_ok hs.2 h
    · cases h
def chkN (tr : List Ent) : List Sx → Bool
  | [.c n] => decide (0 ≤ n)
  | [.x i] => posB tr i
  | _ => false
theorem chkN_ok (ρ : Env) (tr : List Ent) (xs : List Sx) (hs : Sat ρ tr) (h : chkN tr xs = true) : PreN (xs.map (Sx.val ρ)) := by
  unfold chkN at h
  split at h
  · rename_i n; exact ⟨n, rfl, of_decide_eq_true h⟩
  · rename_i i; exact ⟨ρ.i i, rfl, posB_ok hs h⟩
  · cases h
end Go.Proofs.YtpaidbefbkokfaaDoor
