/- FieldRun's third loop: the registers are told. No condition. -/
import Derived.Test.YtpaidbefbkokfaaDoorFr4
import Derived.Test.YtpaidbefbkokfaaDoorVv
namespace Go.Proofs.YtpaidbefbkokfaaDoor
open Go Go.RowKit
set_option linter.unusedVariables false
set_option linter.unusedSimpArgs false
set_option maxRecDepth 100000

def ba3 : List (Nat × SV) := [(14, .opq 3), (76, .int .i64 (.x 0)), (77, .int .i64 (.x 1))]
def h3T : Tm := tmS 7 ((75, .tbl 2 0 1 []) :: ba3)
def h3M (o : List Bool) : Ms := ⟨[], [], 2, 0, 0, 0, o, []⟩
def b3T : Tm := tmS 7 ((75, .tbl 2 0 1 [(1, 0)]) :: ba3)
def b3M : Ms := ⟨[⟨[.ptr 1 0], false⟩, ⟨limbs 0, false⟩], [], 2, 0, 1, 0, [], []⟩
def c3T : Tm := tmS 7 ((16, .ptr 1 0) :: (75, .tbl 2 0 1 []) :: ba3)
def d3T : Tm := tmS 7 ((81, .opq 3) :: (83, .agg (octsS 0 0 32)) :: (75, .tbl 2 0 1 []) :: ba3)
def d3M : Ms := ⟨[], [], 2, 0, 1, 1, [], []⟩
def r0_tr : List Ent := []
def r0_ob : List Ob := [.s 0 0, .i (.x 1) (.c 0), .i (.x 0) (.x 0)]
theorem r0_run : runTo Tryd.prog (RR tabW6 6) 88 ((cutB (cP2 Tryd.prog fR)).drop 1) (tmS 7 [(5, .tbl 2 0 1 []), (14, .opq 3)]) (⟨[], [], 1, 0, 0, 0, [], []⟩) (h3T) (h3M []) = some (.normal, r0_tr, r0_ob) := by kernel_rfl
def r1t_tr : List Ent := [.asm (.x 0) true, .db 0 (.lss) [.x 1, .x 0] [] []]
def r1t_ob : List Ob := [.s 0 0, .i (.x 1) (.x 1), .i (.x 0) (.x 0)]
theorem r1t_run : runTo Tryd.prog (RR tabW6 6) 88 (lpH (cP2 Tryd.prog fR)) (h3T) (h3M [true]) (h3T) (h3M []) = some (.normal, r1t_tr, r1t_ob) := by kernel_rfl
def r1f_tr : List Ent := [.asm (.x 0) false, .db 0 (.lss) [.x 1, .x 0] [] []]
def r1f_ob : List Ob := [.s 0 0, .i (.x 1) (.x 1), .i (.x 0) (.x 0)]
theorem r1f_run : runTo Tryd.prog (RR tabW6 6) 88 (lpH (cP2 Tryd.prog fR)) (h3T) (h3M [false]) (h3T) (h3M []) = some (.exit 4, r1f_tr, r1f_ob) := by kernel_rfl
def r2_tr : List Ent := []
def r2_ob : List Ob := [.s 0 0, .i (.x 1) (.x 1), .i (.x 0) (.x 0), .i (.l 0 0) (.l 0 0), .i (.l 0 1) (.l 0 1), .i (.l 0 2) (.l 0 2), .i (.l 0 3) (.l 0 3), .i (.l 0 4) (.l 0 4)]
theorem r2_run : runTo Tryd.prog (RR tabW6 6) 88 ((lpB (cP2 Tryd.prog fR)).take 1) (b3T) (b3M) (c3T) (b3M) = some (.normal, r2_tr, r2_ob) := by kernel_rfl
def r5_tr : List Ent := [.di 2 (.add (.i64)) [.x 1, .c 1]]
def r5_ob : List Ob := [.s 0 0, .i (.x 1) (.x 2), .i (.x 0) (.x 0)]
theorem r5_run : runTo Tryd.prog (RR tabW6 6) 88 (lpE (cP2 Tryd.prog fR)) (h3T) (h3M []) (h3T) (h3M []) = some (.normal, r5_tr, r5_ob) := by kernel_rfl
def o3_tr : List Ent := [.dn 0 (.canon) [0] [] []]
def o3_ob : List Ob := [.i (.o 0 0) (.o 0 0), .i (.o 0 1) (.o 0 1), .i (.o 0 2) (.o 0 2), .i (.o 0 3) (.o 0 3), .i (.o 0 4) (.o 0 4), .i (.o 0 5) (.o 0 5), .i (.o 0 6) (.o 0 6), .i (.o 0 7) (.o 0 7), .i (.o 0 8) (.o 0 8), .i (.o 0 9) (.o 0 9), .i (.o 0 10) (.o 0 10), .i (.o 0 11) (.o 0 11), .i (.o 0 12) (.o 0 12), .i (.o 0 13) (.o 0 13), .i (.o 0 14) (.o 0 14), .i (.o 0 15) (.o 0 15), .i (.o 0 16) (.o 0 16), .i (.o 0 17) (.o 0 17), .i (.o 0 18) (.o 0 18), .i (.o 0 19) (.o 0 19), .i (.o 0 20) (.o 0 20), .i (.o 0 21) (.o 0 21), .i (.o 0 22) (.o 0 22), .i (.o 0 23) (.o 0 23), .i (.o 0 24) (.o 0 24), .i (.o 0 25) (.o 0 25), .i (.o 0 26) (.o 0 26), .i (.o 0 27) (.o 0 27), .i (.o 0 28) (.o 0 28), .i (.o 0 29) (.o 0 29), .i (.o 0 30) (.o 0 30), .i (.o 0 31) (.o 0 31), .s 0 0, .i (.x 1) (.x 1), .i (.x 0) (.x 0)]
theorem o3_run : runOps Tryd.prog (RR tabW6 6) 88 (nthO (lpB (cP2 Tryd.prog fR)) 1) ((nthO (lpB (cP2 Tryd.prog fR)) 1).take 3) (c3T) (b3M) (d3T) (d3M) = some (o3_tr, o3_ob) := by kernel_rfl

/-! ### the bytes told so far -/
def bsV (N : Nat) : List Value := (octs N 0 32).map (Value.int .u8)
theorem bsV_len (N : Nat) : (bsV N).length = 32 := by
  unfold bsV
  have : ∀ k i, (octs N i k).length = k := by
    intro k
    induction k with
    | zero => intro i; rfl
    | succ k ih => intro i; simp [octs, ih]
  simp [this]
theorem flat_len {f : Nat → List Value} (h : ∀ t, (f t).length = 32) : ∀ i, ((List.range i).flatMap f).length = i * 32
  | 0 => by simp
  | i + 1 => by rw [List.range_succ, List.flatMap_append, List.length_append, flat_len h i]; simp [h]; omega
theorem flat_get {f : Nat → List Value} (h : ∀ t, (f t).length = 32) : ∀ {i t j : Nat}, t < i → j < 32 → ((List.range i).flatMap f)[t * 32 + j]? = (f t)[j]?
  | 0, t, j, ht, _ => by omega
  | i + 1, t, j, ht, hj => by
    rw [List.range_succ, List.flatMap_append]
    rcases Nat.lt_or_eq_of_le (Nat.lt_succ_iff.1 ht) with h1 | rfl
    · rw [List.getElem?_append_left (by rw [flat_len h]; omega)]
      exact flat_get h h1 hj
    · rw [List.getElem?_append_right (by rw [flat_len h]; omega), flat_len h, show t * 32 + j - t * 32 = j by omega]
      simp
theorem bsV_get {N j : Nat} (hj : j < 32) : (bsV N)[j]? = some (.int .u8 (octet N j : Nat)) := by
  unfold bsV
  have : ∀ (k i j : Nat), j < k → (octs N i k)[j]? = some ((octet N (i + j) : Nat) : Int) := by
    intro k
    induction k with
    | zero => intro i j hj; omega
    | succ k ih =>
      intro i j hj
      cases j with
      | zero => simp [octs]
      | succ j => simp only [octs, List.getElem?_cons_succ]; rw [ih (i + 1) j (by omega), show i + 1 + j = i + (j + 1) by omega]
  rw [List.getElem?_map, this 32 0 j hj, Nat.zero_add]; rfl
theorem bys_of {w : World} {H n : Nat} {v : Value} {N : Nat → Nat} (h : w.ownsRow H 28 32 v n ((List.range n).flatMap fun t => bsV (N t))) : ByS w v n N := by
  obtain ⟨h1, ⟨rfl, rfl⟩ | ⟨g, cap, cur, rfl, h3⟩⟩ := h
  · exact ⟨none, 0, rfl, fun i hi => by omega⟩
  · refine ⟨some ⟨g, 0, none⟩, cap, rfl, fun i hi => ⟨g, 0, rfl, fun j hj => ?_⟩⟩
    show w.cell? ⟨g, 0 + i * 32 + j, none⟩ = _
    rw [Nat.zero_add, World.ownsRow.cellAt (h := ⟨h1, .inr ⟨g, cap, cur, rfl, h3⟩⟩) (i * 32 + j) (by omega), flat_get (fun t => bsV_len _) hi hj, bsV_get hj]
/-- The list under way: its block is no register's and not the pointers'. -/
structure Told (w : World) (H n i : Nat) (vo v5 : Value) (ps : Nat → Nat × Nat) (N : Nat → Nat) : Prop where
  own : w.ownsRow H 28 32 vo i ((List.range i).flatMap fun t => bsV (N t))
  far : ∀ g, vo.ownBlock = some g → v5.ownBlock ≠ some g ∧ ∀ t, t < n → (ps t).1 ≠ g
theorem ownsRow.fr0 {w w' : World} {base size n : Nat} {v : Value} {e : TypeId} {xs : List Value} (h : w.ownsRow base e size v n xs) (hf : Fr (fun _ _ => False) w w') : w'.ownsRow base e size v n xs := by
  obtain ⟨h1, h2 | ⟨g, cap, cur, rfl, h3⟩⟩ := h
  · exact ⟨h1, .inl h2⟩
  · exact ownsRow.of_fr ⟨h1, .inr ⟨g, cap, cur, rfl, h3⟩⟩ hf fun _ => id
theorem Told.fr {w w' : World} {H n i : Nat} {vo v5 : Value} {ps : Nat → Nat × Nat} {N : Nat → Nat} (h : Told w H n i vo v5 ps N) (hf : Fr (fun _ _ => False) w w') : Told w' H n i vo v5 ps N := ⟨ownsRow.fr0 h.own hf, h.far⟩
def env3 (n i : Int) (e : Elt) (vs : List Value) : Env := ⟨fun t => if t = 0 then n else i, fun _ => false, fun _ => e, fun _ => 0, fun t => vs.getD t .nilIface⟩
def I3 (n : Nat) (es : Nat → Elt) (w0 : World) (v5 : Value) (ps : Nat → Nat × Nat) (m : Nat) (a : Act) (w : World) : Prop :=
  ∃ i vo, m = n - i ∧ i ≤ n ∧ a.tmps.size = 88 ∧ a.defers = [] ∧ a.tmps.getD 14 undef = vo ∧ a.tmps.getD 75 undef = v5 ∧ a.tmps.getD 76 undef = .int .i64 (n : Nat) ∧ a.tmps.getD 77 undef = .int .i64 (i : Nat) ∧
    Below w0.heap.size w0 w ∧ Held w w0.heap.size n v5 ps es ∧ Told w w0.heap.size n i vo v5 ps fun t => canonE (es t)
def D3 (n : Nat) (es : Nat → Elt) (w0 : World) (a : Act) (w : World) : Prop :=
  ∃ vo, a.tmps.size = 88 ∧ a.defers = [] ∧ a.tmps.getD 14 undef = vo ∧ Below w0.heap.size w0 w ∧ (ByS w vo n fun t => canonE (es t)) ∧ ∀ g, vo.ownBlock = some g → w0.heap.size ≤ g ∧ g < w.heap.size
theorem h3_rep {n i : Nat} {vo v5 : Value} {e : Elt} {a : Act} {w : World} {o : List Bool} (hs : a.tmps.size = 88) (hd : a.defers = []) (g14 : a.tmps.getD 14 undef = vo) (g75 : a.tmps.getD 75 undef = v5) (g76 : a.tmps.getD 76 undef = .int .i64 (n : Nat)) (g77 : a.tmps.getD 77 undef = .int .i64 (i : Nat))
    (hn : inR .i64 ((n : Nat) : Int)) (hi : i ≤ n) (hv : ∃ ad cap, v5 = .slice ad n cap) : SRep (env3 n i e [.nilIface, .nilIface, v5, vo]) (fun _ _ => False) w (fun _ => none) 88 h3T (h3M o) a w := by
  refine srep_mk hs hd mrep_nil grep_nil fun x hx => ?_
  simp only [ba3, List.mem_cons, List.not_mem_nil, or_false] at hx
  rcases hx with rfl | rfl | rfl | rfl
  · obtain ⟨ad, cap, ev⟩ := hv
    simp only [VRel]
    exact ⟨g75, ad, n, cap, g75.trans ev, rfl, hn, fun jc hj => by simp at hj⟩
  · simp only [VRel]; exact g14
  · simp only [VRel]; exact ⟨g76, hn⟩
  · simp only [VRel]; exact ⟨g77, nat64 hn hi⟩
theorem cut3 : cP2 Tryd.prog fR = cutB (cP2 Tryd.prog fR) ++ .block 4 (.loop (unloop (cutC (cP2 Tryd.prog fR)))) :: cP3 Tryd.prog fR := by
  have h : cutOk (cP2 Tryd.prog fR) = true := by kernel_rfl
  have h1 : isLoop (cutC (cP2 Tryd.prog fR)) = true := by kernel_rfl
  have h2 : cutI (cP2 Tryd.prog fR) = 4 := by kernel_rfl
  have := cut_eq h
  rw [unloop_eq h1, h2] at this
  exact this
theorem cut3r : lpOf (cP2 Tryd.prog fR) = lpH (cP2 Tryd.prog fR) ++ .block 5 (cutC (lpOf (cP2 Tryd.prog fR))) :: lpE (cP2 Tryd.prog fR) := by
  have h : cutOk (lpOf (cP2 Tryd.prog fR)) = true := by kernel_rfl
  have h2 : cutI (lpOf (cP2 Tryd.prog fR)) = 5 := by kernel_rfl
  have := cut_eq h
  rw [h2] at this
  exact this
theorem lpB3 : lpB (cP2 Tryd.prog fR) = (lpB (cP2 Tryd.prog fR)).take 1 ++ [nthC (lpB (cP2 Tryd.prog fR)) 1] := by kernel_rfl
theorem reg3 : isReg (nthC (lpB (cP2 Tryd.prog fR)) 1) = true := by kernel_rfl
/-- A slice of one, then an append and the assignment. -/
def chkBA (l : List Oper) (u s x d e : Nat) (t : TypeId) : Bool := match l with
  | ⟨some d1, .buildSlice t1 n parts, _, _, _, none⟩ :: l' => Nat.beq d1 x && Nat.beq t1 t && Nat.beq n 1 && (match parts.toList with
    | [(0, .tmp u')] => Nat.beq u' u
    | _ => false) && chkApp l' s x d e t
  | _ => false
theorem chkBA_ok {l : List Oper} {u s x d e : Nat} {t : TypeId} (h : chkBA l u s x d e t = true) : ∃ oS l', l = oS :: l' ∧ oS.guard = none ∧ oS.op = .buildSlice t 1 #[(0, .tmp u)] ∧ oS.dst = some x ∧ chkApp l' s x d e t = true := by
  unfold chkBA at h
  split at h
  · rename_i d1 t1 n parts _ _ _ l'
    simp only [Bool.and_eq_true] at h
    obtain ⟨⟨⟨⟨h1, h2⟩, h3⟩, h4⟩, h5⟩ := h
    split at h4
    · rename_i u' e1
      have a1 := Nat.eq_of_beq_eq_true h1
      have a2 := Nat.eq_of_beq_eq_true h2
      have a3 := Nat.eq_of_beq_eq_true h3
      have a4 := Nat.eq_of_beq_eq_true h4
      subst a1 a2 a3 a4
      obtain rfl : parts = #[(0, .tmp u')] := by rw [← Array.toList_inj]; exact e1
      exact ⟨_, l', rfl, rfl, rfl, rfl, h5⟩
    · cases h4
  · cases h
theorem app3 : chkBA ((nthO (lpB (cP2 Tryd.prog fR)) 1).drop 3) 83 81 84 85 14 22 = true := by kernel_rfl
theorem undBS : Tryd.prog.underlying 22 = some (.slice 28) := by kernel_rfl
theorem infB : (Tryd.prog.info? 28).map (fun i => (i.size, i.bytes, i.zero.map (·.cells.size))) = some (32, 32, some 32) := by kernel_rfl
theorem regcell_rep {w : World} {g i : Nat} {q : Nat × Nat} {ρ : Env} (hc : w.cell? ⟨g, i, none⟩ = some (ptrV q)) (hr : Rd w q (ρ.e 0)) (hne : g ≠ q.1) : MRep ρ (fun _ _ => False) w (adrL [(g, i), q]) b3M.mem w := by
  refine mrep_ptr rfl (fun c p ch h1 h2 => ?_) (fun c c' p p' ch ch' hlt h1 h2 h3 h4 => ?_)
  · match c with
    | 0 =>
      obtain rfl := Option.some.inj h1
      obtain rfl := Option.some.inj h2
      refine ⟨rfl, cell_lt hc, fun j x hx => ?_⟩
      match j with
      | 0 =>
        simp only [List.getElem?_cons_zero, Option.some.injEq] at hx
        subst hx
        refine ⟨_, hc, ?_⟩
        simp only [VRel]
        exact ⟨q.1, q.2, rfl, rfl⟩
      | j + 1 => simp at hx
    | 1 =>
      obtain rfl := Option.some.inj h1
      obtain rfl := Option.some.inj h2
      exact ⟨rfl, cell_lt (hr 0 (by decide)), limbs_cell hr⟩
    | c + 2 => simp at h1
  · match c, c' with
    | 0, 1 =>
      obtain rfl := Option.some.inj h1
      obtain rfl := Option.some.inj h2
      exact .inl hne
    | 0, 0 => omega
    | 1, 1 => omega
    | 1, 0 => omega
    | _, c' + 2 => simp at h2
    | c + 2, _ => simp at h1
/-- One more told. -/
theorem told_more {w3 w4 w5 : World} {H n i g cap : Nat} {vo v5 : Value} {ps : Nat → Nat × Nat} {es : Nat → Elt} {N : Nat → Nat} (hM : Held w3 H n v5 ps es) (hT : Told w3 H n i vo v5 ps N) (hH : H ≤ w3.heap.size) (hg34 : w3.grownBy w4 none) (hgrow : w4.grownBy w5 vo.ownBlock)
    (ho : w5.ownsRow H 28 32 (.slice (some ⟨g, 0, none⟩) (i + 1) cap) (i + 1) (((List.range i).flatMap fun t => bsV (N t)) ++ bsV (N i))) (hat : vo.ownBlock = some g ∨ g = w4.heap.size) :
    Held w5 H n v5 ps es ∧ Told w5 H n (i + 1) (.slice (some ⟨g, 0, none⟩) (i + 1) cap) v5 ps N := by
  have hlt5 := hM.own.lt
  have blk : ∀ t, t < n → (ps t).1 < w3.heap.size := fun t ht => cell_lt (hM.regs.rd t ht 0 (by decide))
  have hs34 := hg34.size
  have hg35 : ∀ b, b < w3.heap.size → some b ≠ vo.ownBlock → w5.heap[b]? = w3.heap[b]? := fun b hb hne => (hgrow.block b (by omega) hne).trans (hg34.block b hb (by simp))
  have cel : ∀ {b o : Nat} {v : Value}, some b ≠ vo.ownBlock → w3.cell? ⟨b, o, none⟩ = some v → w5.cell? ⟨b, o, none⟩ = some v := fun hne h => by rw [World.cell?_of_block (hg35 _ (cell_lt h) hne)]; exact h
  have frz : ∀ {b o : Nat} {v : Value}, some b ≠ vo.ownBlock → w3.cell? ⟨b, o, none⟩ = some v → w5.frozen? ⟨b, o, none⟩ = w3.frozen? ⟨b, o, none⟩ := fun hne h => World.frozen?_of_block (hg35 _ (cell_lt h) hne)
  have far : ∀ t, t < n → some (ps t).1 ≠ vo.ownBlock := fun t ht e => (hT.far _ e.symm).2 t ht rfl
  refine ⟨⟨⟨fun t ht j hj => cel (far t ht) (hM.regs.rd t ht j hj), fun t ht j hj => ?_, hM.regs.new, hM.regs.dis⟩, ?_, hM.ne⟩, ?_, fun g' hg' => ?_⟩
  · obtain ⟨⟨v, h1⟩, h2⟩ := hM.regs.own t ht j hj
    exact ⟨⟨v, cel (far t ht) h1⟩, by rw [frz (far t ht) h1]; exact h2⟩
  · obtain ⟨h1, h2 | ⟨g0, cap0, cur, rfl, h3, h4, h5⟩⟩ := hM.own
    · exact ⟨h1, .inl h2⟩
    · refine ⟨h1, .inr ⟨g0, cap0, cur, rfl, h3, ?_, h5⟩⟩
      rw [hg35 g0 (hlt5 g0 rfl).2 (fun e => (hT.far g0 e.symm).1 rfl)]
      exact h4
  · rw [List.range_succ, List.flatMap_append, List.flatMap_cons, List.flatMap_nil, List.append_nil]
    exact ho
  · obtain rfl : g = g' := by simpa [Value.ownBlock] using hg'
    rcases hat with h | h
    · exact hT.far g h
    · exact ⟨fun e => by have := (hlt5 g e).2; omega, fun t ht e => by have := blk t ht; omega⟩
end Go.Proofs.YtpaidbefbkokfaaDoor

/- FieldRun's third loop: its round. No condition. -/
namespace Go.Proofs.YtpaidbefbkokfaaDoor
open Go Go.RowKit
set_option linter.unusedVariables false
set_option linter.unusedSimpArgs false
set_option maxRecDepth 100000

theorem octsS_vals {ρ : Env} {α : Adr} {n : Nat} : ∀ {k i : Nat} {us : List Value}, VRels ρ α (octsS n i k) us → us = (octs (ρ.n n) i k).map (Value.int .u8)
  | 0, i, us, h => by simpa only [octsS, octs, VRels, List.map_nil] using h
  | k + 1, i, us, h => by
    simp only [octsS, VRels, VRel, Sx.val] at h
    obtain ⟨u, t, rfl, ⟨rfl, _⟩, h2⟩ := h
    rw [octsS_vals h2]; rfl
theorem bytesS_val {ρ : Env} {α : Adr} {n : Nat} {v : Value} (h : VRel ρ α (.agg (octsS n 0 32)) v) : v = bytesV (ρ.n n) := by
  simp only [VRel] at h
  obtain ⟨us, rfl, h2⟩ := h
  rw [octsS_vals h2]; rfl
theorem bytesV_cells (N : Nat) : (bytesV N).cells = (bsV N).toArray := rfl
theorem round3 {n : Nat} {es : Nat → Elt} {w0 : World} {v5 : Value} {ps : Nat → Nat × Nat} (hn32 : n * 32 ≤ 140737488355328) {Qp : Exit → Act → World → Prop} (hexit : ∀ a w, D3 n es w0 a w → Qp .normal a w) (m : Nat) (a : Act) (w : World) (hI : I3 n es w0 v5 ps m a w) :
    wps Tryd.prog (fun e a' w' => match e with
        | .normal => ∃ m', m' < m ∧ I3 n es w0 v5 ps m' a' w'
        | .exit i => if i = 4 then Qp .normal a' w' else Qp (.exit i) a' w'
        | e => Qp e a' w') (lpOf (cP2 Tryd.prog fR)) a w := by
  obtain ⟨i, vo, rfl, hi, hs, hd, g14, g75, g76, g77, hb, hM, hT⟩ := hI
  have hn := i64_of hn32
  have hH : w0.heap.size ≤ w.heap.size := hb.size
  rw [cut3r]
  refine wps_app _ _ ?_
  rcases Nat.lt_or_eq_of_le hi with hlt | heq
  · refine to_head mix_ok (RR_ok tabW6_ok _) r1t_run (K := fun ρH => ρH.v = (env3 n i zeroE [.nilIface, .nilIface, v5, vo]).v ∧ ρH.i 0 = n ∧ ρH.i 1 = i) (h3_rep (e := zeroE) (o := [true]) hs hd g14 g75 g76 g77 hn hi hM.sl) (fun ρ' ha hd' => ?_) fun ρH α1 a1 w1 hK _ hr1 => ?_
    · have i0 : ρ'.i 0 = n := ha.i 0 (by decide)
      have i1 : ρ'.i 1 = i := ha.i 1 (by decide)
      simp only [r1t_tr, Defs, Ent.def, Fb.sem, List.map_cons, List.map_nil, Sx.val, and_true, true_and] at hd'
      refine ⟨?_, ρ', rfl, ?_, ha.v, i0, i1⟩
      · simp only [r1t_tr, Asms, Ent.asn, Sb.val, and_true]
        rw [hd', i0, i1]
        exact decide_eq_true (by omega)
      · simp only [r1t_ob, Obs, Ob.ok, and_true]
    simp only [SE.toExit, Exit.then]
    obtain ⟨kv, k0, k1⟩ := hK
    have f14 : a1.tmps.getD 14 undef = vo := (sr_opq hr1 (t := 14) (q := 3) rfl).trans (congrFun kv 3)
    have f75 : a1.tmps.getD 75 undef = v5 := (sr_tbl hr1 (t := 75) (q := 2) (i := 0) (k := 1) (l := []) rfl).trans (congrFun kv 2)
    have f76 : a1.tmps.getD 76 undef = .int .i64 (n : Nat) := by rw [sr_int hr1 (t := 76) (k := .i64) (x := .x 0) rfl]; simp only [Sx.val, k0]
    have f77 : a1.tmps.getD 77 undef = .int .i64 (i : Nat) := by rw [sr_int hr1 (t := 77) (k := .i64) (x := .x 1) rfl]; simp only [Sx.val, k1]
    have hM1 := hM.fr hr1.mem.fr
    have hT1 := hT.fr hr1.mem.fr
    have hb1 := below_fr0 hb hr1.mem.fr hH
    have hH1 : w0.heap.size ≤ w1.heap.size := hb1.size
    obtain ⟨g, cap, ev5, hrs, hg⟩ := hM1.regS (Nat.lt_of_le_of_lt (Nat.zero_le i) hlt)
    refine wps_blk ?_
    show wps _ _ (lpB (cP2 Tryd.prog fR)) a1 w1
    rw [lpB3]
    refine wps_app _ _ ?_
    have hcell : w1.cell? ⟨g, i, none⟩ = some (ptrV (ps i)) := by have := hrs.cell i hlt; rwa [Nat.zero_add] at this
    have hrb : SRep (env3 n i (es i) [.nilIface, .nilIface, v5, vo]) (fun _ _ => False) w1 (adrL [(g, i), ps i]) 88 b3T b3M a1 w1 := by
      refine srep_mk hr1.tm.size hr1.tm.defers (regcell_rep hcell (hM1.regs.rd i hlt) (hrs.ne i hlt)) grep_nil fun x hx => ?_
      simp only [ba3, List.mem_cons, List.not_mem_nil, or_false] at hx
      rcases hx with rfl | rfl | rfl | rfl
      · simp only [VRel]
        refine ⟨f75, _, n, cap, f75.trans ev5, rfl, hn, fun jc hjc => ?_⟩
        obtain rfl := List.mem_singleton.1 hjc
        refine ⟨show (0 : Int) ≤ (i : Nat) by omega, show ((i : Nat) : Int) < (n : Nat) by omega, g, 0, rfl, ?_⟩
        show some (g, i) = some (g, 0 + ((i : Nat) : Int).toNat * 1)
        rw [Int.toNat_natCast, Nat.mul_one, Nat.zero_add]
      · simp only [VRel]; exact f14
      · simp only [VRel]; exact ⟨f76, hn⟩
      · simp only [VRel]; exact ⟨f77, nat64 hn hi⟩
    refine to_head mix_ok (RR_ok tabW6_ok _) r2_run (K := fun ρH => ρH.v = (env3 n i (es i) [.nilIface, .nilIface, v5, vo]).v ∧ ρH.i 0 = n ∧ ρH.i 1 = i ∧ ρH.e 0 = es i) hrb (fun ρ' ha hd' => ⟨by simp only [r2_tr, Asms], ρ', rfl, by simp only [r2_ob, Obs, Ob.ok, and_true], ha.v, ha.i 0 (by decide), ha.i 1 (by decide), ha.e 0 (by decide)⟩) fun ρ2 α2 a2 w2 hK2 _ hr2 => ?_
    simp only [SE.toExit, Exit.then]
    refine wps_reg reg3 ?_
    have hl : opsOf (nthC (lpB (cP2 Tryd.prog fR)) 1) = (opsOf (nthC (lpB (cP2 Tryd.prog fR)) 1)).take 3 ++ (opsOf (nthC (lpB (cP2 Tryd.prog fR)) 1)).drop 3 := (List.take_append_drop 3 _).symm
    have o3 : runOps Tryd.prog (RR tabW6 6) 88 (opsOf (nthC (lpB (cP2 Tryd.prog fR)) 1)) ((opsOf (nthC (lpB (cP2 Tryd.prog fR)) 1)).take 3) c3T b3M d3T d3M = some (o3_tr, o3_ob) := o3_run
    conv => arg 4; rw [hl]
    refine to_ops (RR_ok tabW6_ok _) o3 (K := fun ρH => ρH.v = (env3 n i (es i) [.nilIface, .nilIface, v5, vo]).v ∧ ρH.i 0 = n ∧ ρH.i 1 = i ∧ ρH.n 0 = canonE (es i)) hr2 (fun ρ' ha hd' => ?_) fun ρ3 α3 a3 w3 hK3 _ hr3 => ?_
    · refine ⟨by simp only [o3_tr, Asms, Ent.asn, and_true], ρ', rfl, by simp only [o3_ob, Obs, Ob.ok, and_true], ha.v.trans hK2.1, (ha.i 0 (by decide)).trans hK2.2.1, (ha.i 1 (by decide)).trans hK2.2.2.1, ?_⟩
      have e0 : ρ'.n 0 = canonE (ρ'.e 0) := hd'.1
      rw [e0, (ha.e 0 (by decide)).trans hK2.2.2.2]
    obtain ⟨kv3, k03, k13, kn3⟩ := hK3
    have t81 : a3.tmps.getD 81 undef = vo := (sr_opq hr3 (t := 81) (q := 3) rfl).trans (congrFun kv3 3)
    have t75 : a3.tmps.getD 75 undef = v5 := (sr_tbl hr3 (t := 75) (q := 2) (i := 0) (k := 1) (l := []) rfl).trans (congrFun kv3 2)
    have t76 : a3.tmps.getD 76 undef = .int .i64 (n : Nat) := by rw [sr_int hr3 (t := 76) (k := .i64) (x := .x 0) rfl]; simp only [Sx.val, k03]
    have t77 : a3.tmps.getD 77 undef = .int .i64 (i : Nat) := by rw [sr_int hr3 (t := 77) (k := .i64) (x := .x 1) rfl]; simp only [Sx.val, k13]
    have t83 : a3.tmps.getD 83 undef = bytesV (canonE (es i)) := by
      have h := hr3.tm.get 83 (.agg (octsS 0 0 32)) rfl
      have e := bytesS_val h
      rw [e, kn3]
    have hs3 := hr3.tm.size
    have hb3 := below_fr0 hb1 hr3.mem.fr hH1
    have hM3 := hM1.fr hr3.mem.fr
    have hT3 := hT1.fr hr3.mem.fr
    obtain ⟨oS, l', hlS, gS, hS, dS, happ⟩ := chkBA_ok app3
    obtain ⟨oA, oB, hlA, gA, hA, dA, gB, hB, dB⟩ := chkApp_ok happ
    obtain ⟨ti, z, hti, hz, hsz, hby, hzs⟩ := info_of infB
    have hlS' : (opsOf (nthC (lpB (cP2 Tryd.prog fR)) 1)).drop 3 = oS :: l' := hlS
    rw [hlS', hlA]
    have hzr : ((Array.range (1 * ti.size)).map (z.cells[· % z.cells.size]!)).size = 32 := by simp [hsz]
    have hfill : Instr.fill (fun i => some (i * ti.size, ti.size)) ((Array.range (1 * ti.size)).map (z.cells[· % z.cells.size]!)) ((#[(0, Operand.tmp 83)] : Array (Nat × Operand)).map fun (i, x) => (i, a3.eval x)).toList = some (bsV (canonE (es i))).toArray := by
      have h := Great.fill_whole (s := ti.size) (by rw [hsz]; decide) [bytesV (canonE (es i))] ((Array.range (1 * ti.size)).map (z.cells[· % z.cells.size]!)) (fun v hv => by obtain rfl := List.mem_singleton.1 hv; rw [bytesV_cells, List.size_toArray, bsV_len, hsz]) (by rw [hzr, hsz]; rfl)
      have e1 : ((#[(0, Operand.tmp 83)] : Array (Nat × Operand)).map fun (i, x) => (i, a3.eval x)).toList = (([bytesV (canonE (es i))].zipIdx 0).map fun x => (x.2, x.1)) := by
        simp only [List.map_toArray, List.map_cons, List.map_nil, List.zipIdx_cons, List.zipIdx_nil]
        rw [show a3.eval (.tmp 83) = bytesV (canonE (es i)) from t83]
      rw [e1, h]
      simp only [List.flatMap_cons, List.flatMap_nil, List.append_nil, bytesV_cells]
    refine wpList_buildSlice gS _ 28 1 _ hS _ ti z undBS hti hz (by rw [hsz]; decide) (by rw [hsz]; decide) hfill ?_
    rw [dS]
    have hg34 : w3.grownBy (w3.alloc (.cells (bsV (canonE (es i))).toArray 28)) none := ⟨rfl, rfl, rfl, by simp, fun k hk _ => Below.heap_alloc _ _ _ hk⟩
    have hT4 : (w3.alloc (.cells (bsV (canonE (es i))).toArray 28)).ownsRow w0.heap.size 28 32 vo i ((List.range i).flatMap fun t => bsV (canonE (es t))) := hT3.own.alloc _
    have hnews : ∀ j u, (bsV (canonE (es i)))[j]? = some u → (w3.alloc (.cells (bsV (canonE (es i))).toArray 28)).cell? ((⟨w3.heap.size, 0, none⟩ : Addr).add j) = some u := by
      intro j u hu
      rw [add_none, Nat.zero_add, World.cell?_alloc_new]
      simpa using hu
    have e81 : (a3.put (some 84) (.slice (some ⟨w3.heap.size, 0, none⟩) 1 1)).eval (.tmp 81) = vo := (put_getD_ne (fun e => by cases e)).trans t81
    have e84 : (a3.put (some 84) (.slice (some ⟨w3.heap.size, 0, none⟩) 1 1)).eval (.tmp 84) = .slice (some ⟨w3.heap.size, 0, none⟩) 1 1 := put_getD_self (by rw [hs3]; decide)
    have hb4 : w0.heap.size ≤ (w3.alloc (.cells (bsV (canonE (es i))).toArray 28)).heap.size := Nat.le_trans hb3.size hg34.size
    refine wpList_append_lies _ gA (.tmp 81) (.tmp 84) _ hA w0.heap.size _ ti z 32 32 undBS hti hz hsz hby hzs (by decide) vo i _ e81 hT4 ⟨w3.heap.size, 0, none⟩ 1 1 (bsV (canonE (es i))) e84 (by rw [bsV_len]) hnews (fun u hu => ?_) (by decide) (by unfold maxLen; omega) (by omega) hb4 _ rfl fun g2 cap2 w5 hown hgrow hat hlt5 => ?_
    · unfold bsV at hu
      obtain ⟨x, _, rfl⟩ := List.mem_map.1 hu
      rfl
    refine wpList_assign gB (.tmp 85) hB ?_
    rw [dA, dB]
    obtain ⟨hM5, hT5⟩ := told_more (N := fun t => canonE (es t)) hM3 hT3 hb3.size hg34 hgrow hown hat
    have hb5 : Below w0.heap.size w0 w5 := Below.of_grown (Below.of_grown hb3 hg34 hb3.size (fun k e => by cases e)) hgrow hb4 fun k e => (hT3.own.lt k e).1
    generalize hv' : Value.slice (some ⟨g2, 0, none⟩) (i + 1) cap2 = v' at *
    generalize hvs : Value.slice (some ⟨w3.heap.size, 0, none⟩) 1 1 = vs at *
    have e85 : ((a3.put (some 84) vs).put (some 85) v').eval (.tmp 85) = v' := put_getD_self (by rw [put_size, hs3]; decide)
    rw [e85]
    show wps _ _ (lpE (cP2 Tryd.prog fR)) _ w5
    have q : ∀ t, t ≠ 84 → t ≠ 85 → t ≠ 14 → (((a3.put (some 84) vs).put (some 85) v').put (some 14) v').tmps.getD t undef = a3.tmps.getD t undef := fun t h1 h2 h3 => by
      rw [put_getD_ne (fun e => h3 (Option.some.inj e).symm), put_getD_ne (fun e => h2 (Option.some.inj e).symm), put_getD_ne (fun e => h1 (Option.some.inj e).symm)]
    have q14 : (((a3.put (some 84) vs).put (some 85) v').put (some 14) v').tmps.getD 14 undef = v' := put_getD_self (by rw [put_size, put_size, hs3]; decide)
    refine to_head mix_ok (RR_ok tabW6_ok _) r5_run (K := fun ρH => ρH.v = (env3 n i zeroE [.nilIface, .nilIface, v5, v']).v ∧ ρH.i 0 = n ∧ ρH.i 1 = ((i + 1 : Nat) : Int)) (h3_rep (e := zeroE) (o := []) (by rw [put_size, put_size, put_size]; exact hs3) (by rw [put_defers, put_defers, put_defers]; exact hr3.tm.defers) q14 ((q 75 (by decide) (by decide) (by decide)).trans t75) ((q 76 (by decide) (by decide) (by decide)).trans t76) ((q 77 (by decide) (by decide) (by decide)).trans t77) hn hi hM5.sl) (fun ρ' ha hd' => ?_) fun ρ6 α6 a6 w6 hK6 _ hr6 => ?_
    · have i0 : ρ'.i 0 = n := ha.i 0 (by decide)
      have i1 : ρ'.i 1 = i := ha.i 1 (by decide)
      have i2 : ρ'.i 2 = wr .i64 (ρ'.i 1 + 1) := hd'.1
      refine ⟨by simp only [r5_tr, Asms, Ent.asn, and_true], ⟨fun j => if j = 1 then ρ'.i 2 else ρ'.i j, ρ'.b, ρ'.e, ρ'.n, ρ'.v⟩, rfl, by simp [r5_ob, Obs, Ob.ok, Sx.val], ha.v, i0, ?_⟩
      show ρ'.i 2 = ((i + 1 : Nat) : Int)
      rw [i2, i1]
      simp only [wr]
      omega
    obtain ⟨kv6, k06, k16⟩ := hK6
    simp only [SE.toExit]
    refine ⟨n - (i + 1), by omega, i + 1, v', rfl, hlt, hr6.tm.size, hr6.tm.defers, (sr_opq hr6 (t := 14) (q := 3) rfl).trans (congrFun kv6 3), (sr_tbl hr6 (t := 75) (q := 2) (i := 0) (k := 1) (l := []) rfl).trans (congrFun kv6 2), ?_, ?_, below_fr0 hb5 hr6.mem.fr hb5.size, hM5.fr hr6.mem.fr, hT5.fr hr6.mem.fr⟩
    · rw [sr_int hr6 (t := 76) (k := .i64) (x := .x 0) rfl]; simp only [Sx.val, k06]
    · rw [sr_int hr6 (t := 77) (k := .i64) (x := .x 1) rfl]; simp only [Sx.val, k16]
  · subst heq
    refine to_head mix_ok (RR_ok tabW6_ok _) r1f_run (K := fun ρH => ρH.v = (env3 i i zeroE [.nilIface, .nilIface, v5, vo]).v) (h3_rep (e := zeroE) (o := [false]) hs hd g14 g75 g76 g77 hn hi hM.sl) (fun ρ' ha hd' => ?_) fun ρH α1 a1 w1 hK _ hr1 => ?_
    · have i0 : ρ'.i 0 = i := ha.i 0 (by decide)
      have i1 : ρ'.i 1 = i := ha.i 1 (by decide)
      simp only [r1f_tr, Defs, Ent.def, Fb.sem, List.map_cons, List.map_nil, Sx.val, and_true, true_and] at hd'
      refine ⟨?_, ρ', rfl, ?_, ha.v⟩
      · simp only [r1f_tr, Asms, Ent.asn, Sb.val, and_true]
        rw [hd', i0, i1]
        exact decide_eq_false (by omega)
      · simp only [r1f_ob, Obs, Ob.ok, and_true]
    simp only [SE.toExit, Exit.then, if_true]
    exact hexit a1 w1 ⟨vo, hr1.tm.size, hr1.tm.defers, (sr_opq hr1 (t := 14) (q := 3) rfl).trans (congrFun hK 3), below_fr0 hb hr1.mem.fr hH, bys_of (hT.fr hr1.mem.fr).own, (hT.fr hr1.mem.fr).own.lt⟩
end Go.Proofs.YtpaidbefbkokfaaDoor

/- FieldRun: its contract. No condition. -/
namespace Go.Proofs.YtpaidbefbkokfaaDoor
open Go Go.RowKit
set_option linter.unusedVariables false
set_option linter.unusedSimpArgs false
set_option maxRecDepth 100000

def z0_tr : List Ent := []
def z0_mem : List Chunk := []
theorem z0_run : runRet Tryd.prog (RR tabW6 6) 88 fR (cP3 Tryd.prog fR) (tmS 7 [(14, .opq 3)]) (⟨[], [], 0, 0, 0, 0, [], []⟩) = some ([.opq 3], z0_tr, z0_mem) := by kernel_rfl

def f0 (n : Nat) (N : Nat → Nat) : Nat → F := fun i => if i < n then inF (N i) else 0
theorem pre1 : cutB (cP0 Tryd.prog fR) = nthC (cutB (cP0 Tryd.prog fR)) 0 :: nthC (cutB (cP0 Tryd.prog fR)) 1 :: (cutB (cP0 Tryd.prog fR)).drop 2 := by kernel_rfl
theorem pre1a : isReg (nthC (cutB (cP0 Tryd.prog fR)) 0) = true := by kernel_rfl
theorem pre1b : isReg (nthC (cutB (cP0 Tryd.prog fR)) 1) = true := by kernel_rfl
theorem pre1c : chkNil (opsOf (nthC (cutB (cP0 Tryd.prog fR)) 0)) 4 = true := by kernel_rfl
theorem pre1d : chkNil (opsOf (nthC (cutB (cP0 Tryd.prog fR)) 1)) 5 = true := by kernel_rfl
theorem pre3 : cutB (cP2 Tryd.prog fR) = nthC (cutB (cP2 Tryd.prog fR)) 0 :: (cutB (cP2 Tryd.prog fR)).drop 1 := by kernel_rfl
theorem pre3a : isReg (nthC (cutB (cP2 Tryd.prog fR)) 0) = true := by kernel_rfl
theorem pre3c : chkNil (opsOf (nthC (cutB (cP2 Tryd.prog fR)) 0)) 14 = true := by kernel_rfl
theorem ntR : fnNt Tryd.prog fR = 88 := by kernel_rfl
/-- A region that assigns the nil slice. -/
theorem wps_nil {c : Code} {d : Nat} {l : List Code} {Q : Exit → Act → World → Prop} {a : Act} {w : World} (hc : isReg c = true) (hn : chkNil (opsOf c) d = true) (h : wps Tryd.prog Q l (a.put (some d) (.slice none 0 0)) w) : wps Tryd.prog Q (c :: l) a w := by
  refine wps_reg hc ?_
  obtain ⟨o, hl, hg, ho, hd⟩ := chkNil_ok hn
  rw [hl]
  refine wpList_assign hg _ ho ?_
  rw [hd]
  exact h
section
variable {n L : Nat} {N : Nat → Nat} {ops : Nat → Opr} {w0 : World} {v0 v1 : Value} {q0 q1 q2 : Nat × Nat}
def PostR (n L : Nat) (N : Nat → Nat) (ops : Nat → Opr) (w0 : World) (v : Value) (w' : World) : Prop := Below w0.heap.size w0 w' ∧ (ByS w' v n fun t => (runG n ops (f0 n N) L t).val) ∧ ∀ g, v.ownBlock = some g → w0.heap.size ≤ g ∧ g < w'.heap.size
theorem end3 {es : Nat → Elt} (hfe : ∀ i, (es i).fe = runG n ops (f0 n N) L i) (a : Act) (w : World) (h : D3 n es w0 a w) : wps Tryd.prog (RetQ Tryd.prog fR (PostR n L N ops w0)) (cP3 Tryd.prog fR) a w := by
  obtain ⟨vo, hs, hd, g14, hb, hby, hg⟩ := h
  have hr : SRep (env3 0 0 zeroE [.nilIface, .nilIface, .nilIface, vo]) (fun _ _ => False) w (fun _ => none) 88 (tmS 7 [(14, .opq 3)]) ⟨[], [], 0, 0, 0, 0, [], []⟩ a w := by
    refine srep_mk hs hd mrep_nil grep_nil fun x hx => ?_
    simp only [List.mem_cons, List.not_mem_nil, or_false] at hx
    subst hx
    simp only [VRel]; exact g14
  refine to_ret mix_ok (RR_ok tabW6_ok _) z0_run hr fun ρ' ha hd' => ⟨by simp only [z0_tr, Asms], fun α' w' v he hv hm => ?_⟩
  simp only [retOf, VRel] at hv
  have ev : v = vo := by rw [hv, ha.v]; rfl
  subst ev
  refine ⟨below_fr0 hb hm.fr hb.size, ?_, fun g e => ⟨(hg g e).1, Nat.lt_of_lt_of_le (hg g e).2 hm.fr.size⟩⟩
  have h1 := hby.below (hm.fr.below)
  obtain ⟨ad, cap, e1, e2⟩ := h1
  refine ⟨ad, cap, e1, fun i hi => ?_⟩
  show ∃ b s, ad = some ⟨b, s, none⟩ ∧ RoN 32 w' (b, s + i * 32) (runG n ops (f0 n N) L i).val
  rw [← hfe i]
  exact e2 i hi
theorem end2 (hn32 : n * 32 ≤ 140737488355328) {v5 : Value} {ps : Nat → Nat × Nat} (a : Act) (w : World) (h : D2 n L ops (f0 n N) w0 v5 ps a w) : wps Tryd.prog (RetQ Tryd.prog fR (PostR n L N ops w0)) (cP2 Tryd.prog fR) a w := by
  obtain ⟨es, hs, hd, g5, hb, hM, hfe⟩ := h
  have hn := i64_of hn32
  rw [cut3]
  refine wps_app _ _ ?_
  rw [pre3]
  refine wps_nil pre3a pre3c ?_
  have hr : SRep (env3 n 0 zeroE [.nilIface, .nilIface, v5, .slice none 0 0]) (fun _ _ => False) w (fun _ => none) 88 (tmS 7 [(5, .tbl 2 0 1 []), (14, .opq 3)]) ⟨[], [], 1, 0, 0, 0, [], []⟩ (a.put (some 14) (.slice none 0 0)) w := by
    refine srep_mk (by rw [put_size]; exact hs) (by rw [put_defers]; exact hd) mrep_nil grep_nil fun x hx => ?_
    simp only [List.mem_cons, List.not_mem_nil, or_false] at hx
    have e5 : (a.put (some 14) (.slice none 0 0)).tmps.getD 5 undef = v5 := (put_getD_ne (by decide)).trans g5
    rcases hx with rfl | rfl
    · obtain ⟨ad, cap, ev⟩ := hM.sl
      simp only [VRel]
      exact ⟨e5, ad, n, cap, e5.trans ev, rfl, hn, fun jc hj => by simp at hj⟩
    · simp only [VRel]
      exact put_getD_self (by rw [hs]; decide)
  refine to_head mix_ok (RR_ok tabW6_ok _) r0_run (K := fun ρH => ρH.v = (env3 n 0 zeroE [.nilIface, .nilIface, v5, .slice none 0 0]).v ∧ ρH.i 0 = n ∧ ρH.i 1 = 0) hr (fun ρ' ha hd' => ⟨by simp only [r0_tr, Asms], ⟨fun t => if t = 1 then 0 else ρ'.i t, ρ'.b, ρ'.e, ρ'.n, ρ'.v⟩, rfl, by simp [r0_ob, Obs, Ob.ok, Sx.val], ha.v, ha.i 0 (by decide), rfl⟩) fun ρH α1 a1 w1 hK _ hr1 => ?_
  obtain ⟨kv, k0, k1⟩ := hK
  simp only [SE.toExit, Exit.then, wps]
  have hI : I3 n es w0 v5 ps (n - 0) a1 w1 := by
    refine ⟨0, .slice none 0 0, rfl, Nat.zero_le _, hr1.tm.size, hr1.tm.defers, (sr_opq hr1 (t := 14) (q := 3) rfl).trans (congrFun kv 3), (sr_tbl hr1 (t := 75) (q := 2) (i := 0) (k := 1) (l := []) rfl).trans (congrFun kv 2), ?_, ?_, below_fr0 hb hr1.mem.fr hb.size, hM.fr hr1.mem.fr, ⟨rfl, .inl ⟨rfl, rfl⟩⟩, fun g e => by cases e⟩
    · rw [sr_int hr1 (t := 76) (k := .i64) (x := .x 0) rfl]; simp only [Sx.val, k0]
    · rw [sr_int hr1 (t := 77) (k := .i64) (x := .x 1) rfl]; simp only [Sx.val, k1]; rfl
  exact loop_raw (I3 n es w0 v5 ps) (round3 hn32 fun a w h => end3 hfe a w h) hI
theorem end1 (hn32 : n * 32 ≤ 140737488355328) (hL : inR .i64 ((L : Nat) : Int)) (hv1 : OpS w0 v1 L ops) (hvar : VarsAt w0 w0.heap.size q0 q1 q2) (a : Act) (w : World) (h : D1 n N w0 v1 a w) : wps Tryd.prog (RetQ Tryd.prog fR (PostR n L N ops w0)) (cP1 Tryd.prog fR) a w := by
  obtain ⟨v5, ps, es, hs, hd, g1, g5, hb, hM⟩ := h
  have hn := i64_of hn32
  have hH5 : Held w w0.heap.size n v5 ps es := ⟨hM.regs, hM.own, hM.ne⟩
  rw [cut2]
  refine wps_app _ _ ?_
  have hr : SRep (envP n L 0 noOp [.nilIface, v1, v5]) (fun _ _ => False) w (fun _ => none) 88 (tmS 7 [(1, .tbl 1 1 5 []), (5, .tbl 2 0 1 [])]) ⟨[], [], 2, 0, 0, 0, [], []⟩ a w := by
    refine srep_mk hs hd mrep_nil grep_nil fun x hx => ?_
    simp only [List.mem_cons, List.not_mem_nil, or_false] at hx
    rcases hx with rfl | rfl
    · obtain ⟨ad, cap, ev, _⟩ := hv1
      simp only [VRel]
      exact ⟨g1, ad, L, cap, g1.trans ev, rfl, hL, fun jc hj => by simp at hj⟩
    · obtain ⟨ad, cap, ev⟩ := hH5.sl
      simp only [VRel]
      exact ⟨g5, ad, n, cap, g5.trans ev, rfl, hn, fun jc hj => by simp at hj⟩
  refine to_head mix_ok (RR_ok tabU_ok _) q0_run (K := fun ρH => ρH.v = (envP n L 0 noOp [.nilIface, v1, v5]).v ∧ ρH.i 0 = n ∧ ρH.i 1 = L ∧ ρH.i 2 = 0) hr (fun ρ' ha hd' => ⟨by simp only [q0_tr, Asms], ⟨fun t => if t = 2 then 0 else ρ'.i t, ρ'.b, ρ'.e, ρ'.n, ρ'.v⟩, rfl, by simp [q0_ob, Obs, Ob.ok, Sx.val], ha.v, ha.i 0 (by decide), ha.i 1 (by decide), rfl⟩) fun ρH α1 a1 w1 hK _ hr1 => ?_
  obtain ⟨kv, k0, k1, k2⟩ := hK
  simp only [SE.toExit, Exit.then, wps]
  have hI : I2 n L ops (f0 n N) w0 v1 v5 ps (L - 0) a1 w1 := by
    refine ⟨0, es, rfl, Nat.zero_le _, hr1.tm.size, hr1.tm.defers, (sr_opq hr1 (t := 5) (q := 2) rfl).trans (congrFun kv 2), ?_, (sr_tbl hr1 (t := 31) (q := 1) (i := 1) (k := 5) (l := []) rfl).trans (congrFun kv 1), ?_, ?_, below_fr0 hb hr1.mem.fr hb.size, hH5.fr hr1.mem.fr, hM.val⟩
    · rw [sr_int hr1 (t := 8) (k := .i64) (x := .x 0) rfl]; simp only [Sx.val, k0]
    · rw [sr_int hr1 (t := 32) (k := .i64) (x := .x 1) rfl]; simp only [Sx.val, k1]
    · rw [sr_int hr1 (t := 33) (k := .i64) (x := .x 2) rfl]; simp only [Sx.val, k2]; rfl
  exact loop_raw (I2 n L ops (f0 n N) w0 v1 v5 ps) (round2 hn hL hv1 hvar fun a w h => end2 hn32 a w h) hI
/-- FieldRun. -/
theorem fieldRun_c (hn32 : n * 32 ≤ 140737488355328) (hL : inR .i64 ((L : Nat) : Int)) (hv0 : ByS w0 v0 n N) (hv1 : OpS w0 v1 L ops) (hvar : VarsAt w0 w0.heap.size q0 q1 q2) : Invokes Tryd.prog fR #[v0, v1] w0 (PostR n L N ops w0) := by
  have hn := i64_of hn32
  refine fn_invokes (S := fun _ _ => False) (w0 := w0) (ρ := envL 0 0 0 [v0, v1]) (α := fun _ => none) (ms := ⟨[], [], 0, 0, 0, 0, [], []⟩) (args := [.opq 0, .opq 1]) (vs := [v0, v1]) (by kernel_rfl) mrep_nil grep_nil (by simp only [VRels, VRel]; exact ⟨_, _, rfl, rfl, _, _, rfl, rfl, rfl⟩) (by rw [ntR]; decide) fun a hr => ?_
  rw [ntR] at hr
  have hs := hr.tm.size
  have hd := hr.tm.defers
  have g0 : a.tmps.getD 0 undef = v0 := sr_opq hr (t := 0) (q := 0) rfl
  have g1 : a.tmps.getD 1 undef = v1 := sr_opq hr (t := 1) (q := 1) rfl
  show wps _ _ (cP0 Tryd.prog fR) a w0
  rw [cut1]
  refine wps_app _ _ ?_
  rw [pre1]
  refine wps_nil pre1a pre1c ?_
  refine wps_nil pre1b pre1d ?_
  have hr2 : SRep (envL n 0 0 [v0, v1, .slice none 0 0]) (fun _ _ => False) w0 (fun _ => none) 88 (tmS 7 [(0, .tbl 0 0 32 []), (1, .opq 1), (5, .opq 2)]) ⟨[], [], 1, 0, 0, 0, [], []⟩ ((a.put (some 4) (.slice none 0 0)).put (some 5) (.slice none 0 0)) w0 := by
    refine srep_mk (by rw [put_size, put_size]; exact hs) (by rw [put_defers, put_defers]; exact hd) mrep_nil grep_nil fun x hx => ?_
    have q : ∀ t, t ≠ 4 → t ≠ 5 → ((a.put (some 4) (.slice none 0 0)).put (some 5) (.slice none 0 0)).tmps.getD t undef = a.tmps.getD t undef := fun t h1 h2 => by
      rw [put_getD_ne (fun e => h2 (Option.some.inj e).symm), put_getD_ne (fun e => h1 (Option.some.inj e).symm)]
    simp only [List.mem_cons, List.not_mem_nil, or_false] at hx
    rcases hx with rfl | rfl | rfl
    · obtain ⟨ad, cap, ev, _⟩ := hv0
      simp only [VRel]
      have e0 := (q 0 (by decide) (by decide)).trans g0
      exact ⟨e0, ad, n, cap, e0.trans ev, rfl, hn, fun jc hj => by simp at hj⟩
    · simp only [VRel]; exact (q 1 (by decide) (by decide)).trans g1
    · simp only [VRel]; exact put_getD_self (by rw [put_size, hs]; decide)
  refine to_head mix_ok (RR_ok tabW6_ok _) p0_run (K := fun ρH => ρH.v = (envL n 0 0 [v0, v1, .slice none 0 0]).v ∧ ρH.i 0 = n ∧ ρH.i 1 = 0) hr2 (fun ρ' ha hd' => ⟨by simp only [p0_tr, Asms], ⟨fun t => if t = 1 then 0 else ρ'.i t, ρ'.b, ρ'.e, ρ'.n, ρ'.v⟩, rfl, by simp [p0_ob, Obs, Ob.ok, Sx.val], ha.v, ha.i 0 (by decide), rfl⟩) fun ρH α1 a1 w1 hK _ hr1 => ?_
  obtain ⟨kv, k0, k1⟩ := hK
  simp only [SE.toExit, Exit.then, wps]
  have hI : I1 n N w0 v0 v1 (n - 0) a1 w1 := by
    refine ⟨0, .slice none 0 0, fun _ => (0, 0), fun _ => zeroE, rfl, Nat.zero_le _, hr1.tm.size, hr1.tm.defers, (sr_opq hr1 (t := 1) (q := 1) rfl).trans (congrFun kv 1), (sr_opq hr1 (t := 5) (q := 2) rfl).trans (congrFun kv 2), (sr_tbl hr1 (t := 17) (q := 0) (i := 0) (k := 32) (l := []) rfl).trans (congrFun kv 0), ?_, ?_, hr1.mem.fr.below, ⟨⟨fun i hi => by omega, fun i hi => by omega, fun i hi => by omega, fun i j hi => by omega⟩, fun i => by rw [if_neg (by omega)]; exact zeroE_fe, ⟨rfl, .inl ⟨rfl, rfl⟩⟩, fun i hi => by omega⟩⟩
    · rw [sr_int hr1 (t := 18) (k := .i64) (x := .x 0) rfl]; simp only [Sx.val, k0]
    · rw [sr_int hr1 (t := 19) (k := .i64) (x := .x 1) rfl]; simp only [Sx.val, k1]; rfl
  exact loop_raw (I1 n N w0 v0 v1) (round1 hn32 hv0 fun a w h => end1 hn32 hL hv1 hvar a w h) hI
end
end Go.Proofs.YtpaidbefbkokfaaDoor
