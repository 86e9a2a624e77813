/- FieldRun's second loop: the steps are made. No condition. -/
import Derived.Test.YtpaidbefbkokfaaDoorFr2
import Derived.Test.YtpaidbefbkokfaaDoorUss
namespace Go.Proofs.YtpaidbefbkokfaaDoor
open Go Go.RowKit
set_option linter.unusedVariables false
set_option linter.unusedSimpArgs false
set_option maxRecDepth 100000

def ba2 : List (Nat × SV) := [(5, .opq 2), (8, .int .i64 (.x 0)), (32, .int .i64 (.x 1)), (33, .int .i64 (.x 2))]
def h2T : Tm := tmS 7 ((31, .tbl 1 1 5 []) :: ba2)
def h2M (o : List Bool) : Ms := ⟨[], [], 3, 0, 0, 0, o, []⟩
def opC : List SV := [.int .i64 (.x 3), .int .i64 (.x 4), .int .i64 (.x 5), .int .i64 (.x 6), .int .u32 (.w 0 0)]
def b2T : Tm := tmS 7 ((31, .tbl 1 1 5 [(2, 0)]) :: ba2)
def b2M : Ms := ⟨[⟨opC, false⟩], [], 7, 0, 0, 1, [], []⟩
def e2T : Tm := tmS 7 ((10, .ptr 1 0) :: (11, .bool (.x 0)) :: (12, .bool (.x 1)) :: (13, .bool (.x 2)) :: (31, .tbl 1 1 5 []) :: ba2)
def e2M (o : List Bool) : Ms := ⟨[⟨opC, false⟩, ⟨opC, true⟩], [], 7, 3, 0, 1, o, []⟩
def f2T : Tm := tmS 7 ((70, .bool (.x 3)) :: (10, .ptr 1 0) :: (31, .tbl 1 1 5 []) :: ba2)
def f2M : Ms := ⟨[⟨opC, false⟩, ⟨opC, true⟩], [], 7, 4, 0, 1, [], []⟩
def g2T : Tm := tmS 7 ((71, .opq 2) :: (72, .agg opC) :: (31, .tbl 1 1 5 []) :: ba2)
def q0_tr : List Ent := []
def q0_ob : List Ob := [.s 1 1, .i (.x 2) (.c 0), .i (.x 0) (.x 0), .i (.x 1) (.x 1)]
theorem q0_run : runTo Tryd.prog (RR tabU 6) 88 (cutB (cP1 Tryd.prog fR)) (tmS 7 [(1, .tbl 1 1 5 []), (5, .tbl 2 0 1 [])]) (⟨[], [], 2, 0, 0, 0, [], []⟩) (h2T) (h2M []) = some (.normal, q0_tr, q0_ob) := by kernel_rfl
def q1t_tr : List Ent := [.asm (.x 0) true, .db 0 (.lss) [.x 2, .x 1] [] []]
def q1t_ob : List Ob := [.s 1 1, .i (.x 2) (.x 2), .i (.x 0) (.x 0), .i (.x 1) (.x 1)]
theorem q1t_run : runTo Tryd.prog (RR tabU 6) 88 (lpH (cP1 Tryd.prog fR)) (h2T) (h2M [true]) (h2T) (h2M []) = some (.normal, q1t_tr, q1t_ob) := by kernel_rfl
def q1f_tr : List Ent := [.asm (.x 0) false, .db 0 (.lss) [.x 2, .x 1] [] []]
def q1f_ob : List Ob := [.s 1 1, .i (.x 2) (.x 2), .i (.x 0) (.x 0), .i (.x 1) (.x 1)]
theorem q1f_run : runTo Tryd.prog (RR tabU 6) 88 (lpH (cP1 Tryd.prog fR)) (h2T) (h2M [false]) (h2T) (h2M []) = some (.exit 2, q1f_tr, q1f_ob) := by kernel_rfl
def q2_tr : List Ent := [.db 2 (.fx "usYf" usYf) [.x 3] [] [], .db 1 (.fx "usXf" usXf) [.x 3] [] [], .db 0 (.fx "isKf" isKf) [.x 3] [] []]
def q2_ob : List Ob := [.s 1 1, .b (.x 0) (.x 0), .i (.x 2) (.x 2), .b (.x 2) (.x 2), .i (.x 0) (.x 0), .i (.x 1) (.x 1), .b (.x 1) (.x 1), .i (.x 3) (.x 3), .i (.x 4) (.x 4), .i (.x 5) (.x 5), .i (.x 6) (.x 6), .i (.w 0 0) (.w 0 0), .i (.x 3) (.x 3), .i (.x 4) (.x 4), .i (.x 5) (.x 5), .i (.x 6) (.x 6), .i (.w 0 0) (.w 0 0)]
theorem q2_run : runTo Tryd.prog (RR tabU 6) 88 ((lpB (cP1 Tryd.prog fR)).take 2) (b2T) (b2M) (e2T) (e2M []) = some (.normal, q2_tr, q2_ob) := by kernel_rfl
def q3a_tr : List Ent := [.asm (.x 0) false]
def q3a_ob : List Ob := [.s 1 1, .i (.x 2) (.x 2), .i (.x 0) (.x 0), .i (.x 1) (.x 1), .b (.x 3) (.c false), .i (.x 3) (.x 3), .i (.x 4) (.x 4), .i (.x 5) (.x 5), .i (.x 6) (.x 6), .i (.w 0 0) (.w 0 0), .i (.x 3) (.x 3), .i (.x 4) (.x 4), .i (.x 5) (.x 5), .i (.x 6) (.x 6), .i (.w 0 0) (.w 0 0)]
theorem q3a_run : runTo Tryd.prog (RR tabU 6) 88 (((lpB (cP1 Tryd.prog fR)).drop 2).take 1) (e2T) (e2M [false]) (f2T) (f2M) = some (.normal, q3a_tr, q3a_ob) := by kernel_rfl
def q3b_tr : List Ent := [.asm (.x 3) false, .db 3 (.fx "regF" regF) [.x 4, .x 0] [] [], .asm (.x 0) true]
def q3b_ob : List Ob := [.s 1 1, .i (.x 2) (.x 2), .i (.x 0) (.x 0), .i (.x 1) (.x 1), .b (.x 3) (.c false), .i (.x 3) (.x 3), .i (.x 4) (.x 4), .i (.x 5) (.x 5), .i (.x 6) (.x 6), .i (.w 0 0) (.w 0 0), .i (.x 3) (.x 3), .i (.x 4) (.x 4), .i (.x 5) (.x 5), .i (.x 6) (.x 6), .i (.w 0 0) (.w 0 0)]
theorem q3b_run : runTo Tryd.prog (RR tabU 6) 88 (((lpB (cP1 Tryd.prog fR)).drop 2).take 1) (e2T) (e2M [true, false]) (f2T) (f2M) = some (.normal, q3b_tr, q3b_ob) := by kernel_rfl
def q3c_tr : List Ent := [.db 6 (.fx "regF" regF) [.x 6, .x 0] [] [], .asm (.x 5) false, .db 5 (.not) [] [] [.x 2], .asm (.x 4) true, .db 4 (.not) [] [] [.x 1], .asm (.x 3) true, .db 3 (.fx "regF" regF) [.x 4, .x 0] [] [], .asm (.x 0) true]
def q3c_ob : List Ob := [.s 1 1, .i (.x 2) (.x 2), .i (.x 0) (.x 0), .i (.x 1) (.x 1), .b (.x 3) (.x 6), .i (.x 3) (.x 3), .i (.x 4) (.x 4), .i (.x 5) (.x 5), .i (.x 6) (.x 6), .i (.w 0 0) (.w 0 0), .i (.x 3) (.x 3), .i (.x 4) (.x 4), .i (.x 5) (.x 5), .i (.x 6) (.x 6), .i (.w 0 0) (.w 0 0)]
theorem q3c_run : runTo Tryd.prog (RR tabU 6) 88 (((lpB (cP1 Tryd.prog fR)).drop 2).take 1) (e2T) (e2M [true, true, true, false]) (f2T) (f2M) = some (.normal, q3c_tr, q3c_ob) := by kernel_rfl
def q3d_tr : List Ent := [.asm (.x 5) false, .db 5 (.fx "regF" regF) [.x 5, .x 0] [] [], .asm (.x 4) false, .db 4 (.not) [] [] [.x 1], .asm (.x 3) true, .db 3 (.fx "regF" regF) [.x 4, .x 0] [] [], .asm (.x 0) true]
def q3d_ob : List Ob := [.s 1 1, .i (.x 2) (.x 2), .i (.x 0) (.x 0), .i (.x 1) (.x 1), .b (.x 3) (.c false), .i (.x 3) (.x 3), .i (.x 4) (.x 4), .i (.x 5) (.x 5), .i (.x 6) (.x 6), .i (.w 0 0) (.w 0 0), .i (.x 3) (.x 3), .i (.x 4) (.x 4), .i (.x 5) (.x 5), .i (.x 6) (.x 6), .i (.w 0 0) (.w 0 0)]
theorem q3d_run : runTo Tryd.prog (RR tabU 6) 88 (((lpB (cP1 Tryd.prog fR)).drop 2).take 1) (e2T) (e2M [true, true, false, false]) (f2T) (f2M) = some (.normal, q3d_tr, q3d_ob) := by kernel_rfl
def q3e_tr : List Ent := [.asm (.x 5) true, .db 5 (.not) [] [] [.x 2], .asm (.x 4) true, .db 4 (.not) [] [] [.x 1], .asm (.x 3) true, .db 3 (.fx "regF" regF) [.x 4, .x 0] [] [], .asm (.x 0) true]
def q3e_ob : List Ob := [.s 1 1, .i (.x 2) (.x 2), .i (.x 0) (.x 0), .i (.x 1) (.x 1), .b (.x 3) (.c true), .i (.x 3) (.x 3), .i (.x 4) (.x 4), .i (.x 5) (.x 5), .i (.x 6) (.x 6), .i (.w 0 0) (.w 0 0), .i (.x 3) (.x 3), .i (.x 4) (.x 4), .i (.x 5) (.x 5), .i (.x 6) (.x 6), .i (.w 0 0) (.w 0 0)]
theorem q3e_run : runTo Tryd.prog (RR tabU 6) 88 (((lpB (cP1 Tryd.prog fR)).drop 2).take 1) (e2T) (e2M [true, true, true, true]) (f2T) (f2M) = some (.normal, q3e_tr, q3e_ob) := by kernel_rfl
def q3g_tr : List Ent := [.asm (.x 6) true, .db 6 (.not) [] [] [.x 2], .asm (.x 5) true, .db 5 (.fx "regF" regF) [.x 5, .x 0] [] [], .asm (.x 4) false, .db 4 (.not) [] [] [.x 1], .asm (.x 3) true, .db 3 (.fx "regF" regF) [.x 4, .x 0] [] [], .asm (.x 0) true]
def q3g_ob : List Ob := [.s 1 1, .i (.x 2) (.x 2), .i (.x 0) (.x 0), .i (.x 1) (.x 1), .b (.x 3) (.c true), .i (.x 3) (.x 3), .i (.x 4) (.x 4), .i (.x 5) (.x 5), .i (.x 6) (.x 6), .i (.w 0 0) (.w 0 0), .i (.x 3) (.x 3), .i (.x 4) (.x 4), .i (.x 5) (.x 5), .i (.x 6) (.x 6), .i (.w 0 0) (.w 0 0)]
theorem q3g_run : runTo Tryd.prog (RR tabU 6) 88 (((lpB (cP1 Tryd.prog fR)).drop 2).take 1) (e2T) (e2M [true, true, false, true, true]) (f2T) (f2M) = some (.normal, q3g_tr, q3g_ob) := by kernel_rfl
def q3h_tr : List Ent := [.db 7 (.fx "regF" regF) [.x 6, .x 0] [] [], .asm (.x 6) false, .db 6 (.not) [] [] [.x 2], .asm (.x 5) true, .db 5 (.fx "regF" regF) [.x 5, .x 0] [] [], .asm (.x 4) false, .db 4 (.not) [] [] [.x 1], .asm (.x 3) true, .db 3 (.fx "regF" regF) [.x 4, .x 0] [] [], .asm (.x 0) true]
def q3h_ob : List Ob := [.s 1 1, .i (.x 2) (.x 2), .i (.x 0) (.x 0), .i (.x 1) (.x 1), .b (.x 3) (.x 7), .i (.x 3) (.x 3), .i (.x 4) (.x 4), .i (.x 5) (.x 5), .i (.x 6) (.x 6), .i (.w 0 0) (.w 0 0), .i (.x 3) (.x 3), .i (.x 4) (.x 4), .i (.x 5) (.x 5), .i (.x 6) (.x 6), .i (.w 0 0) (.w 0 0)]
theorem q3h_run : runTo Tryd.prog (RR tabU 6) 88 (((lpB (cP1 Tryd.prog fR)).drop 2).take 1) (e2T) (e2M [true, true, false, true, false]) (f2T) (f2M) = some (.normal, q3h_tr, q3h_ob) := by kernel_rfl
def q5_tr : List Ent := [.di 3 (.add (.i64)) [.x 2, .c 1]]
def q5_ob : List Ob := [.s 1 1, .i (.x 2) (.x 3), .i (.x 0) (.x 0), .i (.x 1) (.x 1)]
theorem q5_run : runTo Tryd.prog (RR tabU 6) 88 (lpE (cP1 Tryd.prog fR)) (h2T) (h2M []) (h2T) (h2M []) = some (.normal, q5_tr, q5_ob) := by kernel_rfl
def o2_tr : List Ent := []
def o2_ob : List Ob := [.s 1 1, .i (.x 2) (.x 2), .i (.x 0) (.x 0), .i (.x 1) (.x 1), .i (.x 3) (.x 3), .i (.x 4) (.x 4), .i (.x 5) (.x 5), .i (.x 6) (.x 6), .i (.w 0 0) (.w 0 0), .i (.x 3) (.x 3), .i (.x 4) (.x 4), .i (.x 5) (.x 5), .i (.x 6) (.x 6), .i (.w 0 0) (.w 0 0), .i (.x 3) (.x 3), .i (.x 4) (.x 4), .i (.x 5) (.x 5), .i (.x 6) (.x 6), .i (.w 0 0) (.w 0 0)]
theorem o2_run : runOps Tryd.prog (RR tabU 6) 88 (opsOf (thenC (nthC (lpB (cP1 Tryd.prog fR)) 3))) ((opsOf (thenC (nthC (lpB (cP1 Tryd.prog fR)) 3))).take 2) (f2T) (f2M) (g2T) (f2M) = some (o2_tr, o2_ob) := by kernel_rfl

theorem sr_bool {ρ : Env} {nt : Nat} {α : Adr} {S : Nat → Nat → Prop} {w0 : World} {tm : Tm} {ms : Ms} {a : Act} {w : World} (hr : SRep ρ S w0 α nt tm ms a w) {t : Nat} {x : Sb} (h : tm.get t = some (.bool x)) : a.tmps.getD t undef = .bool (x.val ρ) := by
  have := hr.tm.get t _ h
  simpa only [VRel] using this
theorem ro_rep {w : World} {p : Nat × Nat} {ρ : Env} {cells : List SV} (h : Lies ρ w p ⟨cells, false⟩) : MRep ρ (fun _ _ => False) w (adrL [p]) [⟨cells, false⟩] w := by
  have hm : MRep ρ (SofL [p] [⟨cells, false⟩]) w (adrL [p]) [⟨cells, false⟩] w := by
    refine mrep_of rfl (fun c q ch h1 h2 => ?_) (fun c c' q q' ch ch' hlt h1 h2 h3 h4 => ?_)
    · match c with
      | 0 =>
        obtain rfl := Option.some.inj h1
        obtain rfl := Option.some.inj h2
        exact h
      | c + 1 => simp at h1
    · match c' with
      | 0 => omega
      | c' + 1 => simp at h2
  refine ⟨hm.fr.mono fun b j hs => ?_, hm.out, hm.cell, hm.lt, fun c ch b s h1 h2 h3 => ?_, hm.dis⟩
  · obtain ⟨c, q, ch, h1, h2, h3, _⟩ := hs
    match c with
    | 0 => obtain rfl := Option.some.inj h2; cases h3
    | c + 1 => simp at h1
  · match c with
    | 0 => obtain rfl := Option.some.inj h1; cases h3
    | c + 1 => simp at h1
/-! ### the script -/
def opCells (o : Opr) : List Value := [.int .i64 o.k, .int .i64 o.Z, .int .i64 o.X, .int .i64 o.Y, .int .u32 o.N]
def OpS (w : World) (v : Value) (L : Nat) (ops : Nat → Opr) : Prop := ∃ (ad : Option Addr) (cap : Nat), v = .slice ad L cap ∧ ∀ j, j < L → (ops j).Fits ∧ ∃ b s, ad = some ⟨b, s, none⟩ ∧ ∀ t v, (opCells (ops j))[t]? = some v → w.cell? ⟨b, s + j * 5 + t, none⟩ = some v
theorem OpS.below {w w' : World} {v : Value} {L : Nat} {ops : Nat → Opr} (h : OpS w v L ops) (hb : Below w.heap.size w w') : OpS w' v L ops := by
  obtain ⟨ad, cap, rfl, h2⟩ := h
  refine ⟨ad, cap, rfl, fun j hj => ?_⟩
  obtain ⟨hf, b, s, h3, h4⟩ := h2 j hj
  exact ⟨hf, b, s, h3, fun t v ht => by rw [hb.cell (p := ⟨b, s + j * 5 + t, none⟩) (cell_lt (h4 t v ht))]; exact h4 t v ht⟩
structure Held (w : World) (H n : Nat) (v : Value) (ps : Nat → Nat × Nat) (es : Nat → Elt) : Prop where
  regs : Regs w H n ps es
  own : w.ownsRow H 29 1 v n ((List.range n).map fun i => ptrV (ps i))
  ne : ∀ i, i < n → v.ownBlock ≠ some (ps i).1
theorem Held.fr {w w' : World} {H k : Nat} {v : Value} {ps : Nat → Nat × Nat} {es : Nat → Elt} (h : Held w H k v ps es) (hf : Fr (fun _ _ => False) w w') : Held w' H k v ps es := by
  refine ⟨h.regs.fr hf fun _ _ _ => id, ?_, h.ne⟩
  obtain ⟨h1, h2 | ⟨g, cap, cur, rfl, h3⟩⟩ := h.own
  · exact ⟨h1, .inl h2⟩
  · exact ownsRow.of_fr h.own hf fun _ => id
theorem Held.sl {w : World} {H n : Nat} {v : Value} {ps : Nat → Nat × Nat} {es : Nat → Elt} (h : Held w H n v ps es) : ∃ ad cap, v = .slice ad n cap := by
  obtain ⟨h1, ⟨h2, h3⟩ | ⟨g, cap, cur, rfl, h3⟩⟩ := h.own
  · exact ⟨none, 0, by rw [h2, h3]⟩
  · exact ⟨_, _, rfl⟩
theorem Held.regS {w : World} {H n : Nat} {v : Value} {ps : Nat → Nat × Nat} {es : Nat → Elt} (h : Held w H n v ps es) (hn : 0 < n) : ∃ g cap, v = .slice (some ⟨g, 0, none⟩) n cap ∧ RegS w H n ps g 0 ∧ H ≤ g := by
  obtain ⟨g, cap, rfl, h1, h2⟩ := h.own.form hn
  refine ⟨g, cap, rfl, ⟨fun i hi => ?_, fun _ => h1, fun i hi e => h.ne i hi (by rw [← e]; rfl)⟩, h1⟩
  rw [Nat.zero_add, h.own.cellAt i (by omega), List.getElem?_map, List.getElem?_range hi]
  rfl
/-- What a script leaves, of the registers' values. -/
noncomputable def runG (n : Nat) (ops : Nat → Opr) (f : Nat → F) : Nat → (Nat → F)
  | 0 => f
  | j + 1 => if (ops j).does n = true then stepG n (ops j) (runG n ops f j) else runG n ops f j
def envP (n L j : Int) (o : Opr) (vs : List Value) : Env := ⟨fun t => [n, L, j, o.k, o.Z, o.X, o.Y].getD t 0, fun _ => false, fun _ => zeroE, fun _ => o.N, fun t => vs.getD t .nilIface⟩
def noOp : Opr := ⟨0, 0, 0, 0, 0⟩
def I2 (n L : Nat) (ops : Nat → Opr) (f0 : Nat → F) (w0 : World) (v1 v5 : Value) (ps : Nat → Nat × Nat) (m : Nat) (a : Act) (w : World) : Prop :=
  ∃ j es, m = L - j ∧ j ≤ L ∧ a.tmps.size = 88 ∧ a.defers = [] ∧ a.tmps.getD 5 undef = v5 ∧ a.tmps.getD 8 undef = .int .i64 (n : Nat) ∧ a.tmps.getD 31 undef = v1 ∧ a.tmps.getD 32 undef = .int .i64 (L : Nat) ∧ a.tmps.getD 33 undef = .int .i64 (j : Nat) ∧
    Below w0.heap.size w0 w ∧ Held w w0.heap.size n v5 ps es ∧ ∀ i, (es i).fe = runG n ops f0 j i
def D2 (n L : Nat) (ops : Nat → Opr) (f0 : Nat → F) (w0 : World) (v5 : Value) (ps : Nat → Nat × Nat) (a : Act) (w : World) : Prop :=
  ∃ es, a.tmps.size = 88 ∧ a.defers = [] ∧ a.tmps.getD 5 undef = v5 ∧ Below w0.heap.size w0 w ∧ Held w w0.heap.size n v5 ps es ∧ ∀ i, (es i).fe = runG n ops f0 L i
theorem nat64 {a b : Nat} (hb : inR .i64 ((b : Nat) : Int)) (h : a ≤ b) : inR .i64 ((a : Nat) : Int) := ⟨by simp only [lo]; omega, by have := hb.2; simp only [hi] at *; omega⟩
theorem h2_rep {n L j : Nat} {v1 v5 : Value} {a : Act} {w : World} {o : List Bool} (hs : a.tmps.size = 88) (hd : a.defers = []) (g5 : a.tmps.getD 5 undef = v5) (g8 : a.tmps.getD 8 undef = .int .i64 (n : Nat)) (g31 : a.tmps.getD 31 undef = v1) (g32 : a.tmps.getD 32 undef = .int .i64 (L : Nat)) (g33 : a.tmps.getD 33 undef = .int .i64 (j : Nat))
    (hn : inR .i64 ((n : Nat) : Int)) (hL : inR .i64 ((L : Nat) : Int)) (hj : j ≤ L) (hv1 : ∃ ad cap, v1 = .slice ad L cap) : SRep (envP n L j noOp [.nilIface, v1, v5]) (fun _ _ => False) w (fun _ => none) 88 h2T (h2M o) a w := by
  refine srep_mk hs hd mrep_nil grep_nil fun x hx => ?_
  simp only [ba2, List.mem_cons, List.not_mem_nil, or_false] at hx
  rcases hx with rfl | rfl | rfl | rfl | rfl
  · obtain ⟨ad, cap, e⟩ := hv1
    simp only [VRel]
    exact ⟨g31, ad, L, cap, g31.trans e, rfl, hL, fun jc hj => by simp at hj⟩
  · simp only [VRel]; exact g5
  · simp only [VRel]; exact ⟨g8, hn⟩
  · simp only [VRel]; exact ⟨g32, hL⟩
  · simp only [VRel]; exact ⟨g33, nat64 hL hj⟩
theorem cut2 : cP1 Tryd.prog fR = cutB (cP1 Tryd.prog fR) ++ .block 2 (.loop (unloop (cutC (cP1 Tryd.prog fR)))) :: cP2 Tryd.prog fR := by
  have h : cutOk (cP1 Tryd.prog fR) = true := by kernel_rfl
  have h1 : isLoop (cutC (cP1 Tryd.prog fR)) = true := by kernel_rfl
  have h2 : cutI (cP1 Tryd.prog fR) = 2 := by kernel_rfl
  have := cut_eq h
  rw [unloop_eq h1, h2] at this
  exact this
theorem cut2r : lpOf (cP1 Tryd.prog fR) = lpH (cP1 Tryd.prog fR) ++ .block 3 (cutC (lpOf (cP1 Tryd.prog fR))) :: lpE (cP1 Tryd.prog fR) := by
  have h : cutOk (lpOf (cP1 Tryd.prog fR)) = true := by kernel_rfl
  have h2 : cutI (lpOf (cP1 Tryd.prog fR)) = 3 := by kernel_rfl
  have := cut_eq h
  rw [h2] at this
  exact this
noncomputable def cnd2 : Code := nthC (lpB (cP1 Tryd.prog fR)) 3
theorem lpB2 : lpB (cP1 Tryd.prog fR) = (lpB (cP1 Tryd.prog fR)).take 2 ++ (((lpB (cP1 Tryd.prog fR)).drop 2).take 1 ++ [cnd2]) := by kernel_rfl
theorem cnd2_is : isCond cnd2 = true := by kernel_rfl
theorem cnd2_t : condT cnd2 = 70 := by kernel_rfl
theorem cnd2_x : flat (thenC cnd2) = [thenC cnd2] := by kernel_rfl
theorem cnd2_y : flat (elseC cnd2) = [] := by kernel_rfl
theorem reg2 : isReg (thenC cnd2) = true := by kernel_rfl
/-- One call of two arguments. -/
def chkCall (l : List Oper) (f s x d : Nat) : Bool := match l with
  | [⟨some d1, .call ⟨.value (.func g), args, _⟩, _, _, _, none⟩] => Nat.beq d1 d && Nat.beq g f && (match args.toList with
    | [.tmp s', .tmp x'] => Nat.beq s' s && Nat.beq x' x
    | _ => false)
  | _ => false
theorem chkCall_ok {l : List Oper} {f s x d : Nat} (h : chkCall l f s x d = true) : ∃ oC ts, l = [oC] ∧ oC.guard = none ∧ oC.op = .call ⟨.value (.func f), #[.tmp s, .tmp x], ts⟩ ∧ oC.dst = some d := by
  unfold chkCall at h
  split at h
  · rename_i d1 g args ts _ _ _
    simp only [Bool.and_eq_true] at h
    obtain ⟨⟨h1, h2⟩, h4⟩ := h
    split at h4
    · rename_i s' x' e1
      simp only [Bool.and_eq_true] at h4
      obtain ⟨k1, k2⟩ := h4
      have a1 := Nat.eq_of_beq_eq_true h1
      have a2 := Nat.eq_of_beq_eq_true h2
      have a3 := Nat.eq_of_beq_eq_true k1
      have a4 := Nat.eq_of_beq_eq_true k2
      subst a1 a2 a3 a4
      obtain rfl : args = #[.tmp s', .tmp x'] := by rw [← Array.toList_inj]; exact e1
      exact ⟨_, ts, rfl, rfl, rfl, rfl⟩
    · cases h4
  · cases h
theorem call2 : chkCall ((opsOf (thenC cnd2)).drop 2) fStep 71 72 73 = true := by kernel_rfl
theorem op_lies {w : World} {b s : Nat} {n L j : Int} {o : Opr} {vs : List Value} (hf : o.Fits) (h : ∀ t v, (opCells o)[t]? = some v → w.cell? ⟨b, s + t, none⟩ = some v) : Lies (envP n L j o vs) w (b, s) ⟨opC, false⟩ := by
  have hN : word o.N 0 = o.N := word0 hf.N
  refine ⟨fun t x hx => ?_, cell_lt (h 0 _ rfl), fun e => by cases e⟩
  match t, hx with
  | 0, hx => obtain rfl := Option.some.inj hx; exact ⟨_, h 0 _ rfl, fun α => by simp only [VRel]; exact ⟨rfl, hf.k⟩⟩
  | 1, hx => obtain rfl := Option.some.inj hx; exact ⟨_, h 1 _ rfl, fun α => by simp only [VRel]; exact ⟨rfl, hf.Z⟩⟩
  | 2, hx => obtain rfl := Option.some.inj hx; exact ⟨_, h 2 _ rfl, fun α => by simp only [VRel]; exact ⟨rfl, hf.X⟩⟩
  | 3, hx => obtain rfl := Option.some.inj hx; exact ⟨_, h 3 _ rfl, fun α => by simp only [VRel]; exact ⟨rfl, hf.Y⟩⟩
  | 4, hx =>
    obtain rfl := Option.some.inj hx
    refine ⟨_, h 4 _ rfl, fun α => ?_⟩
    simp only [VRel]
    have e : (Sx.w 0 0).val (envP n L j o vs) = ((o.N : Nat) : Int) := by simp only [Sx.val, envP, hN]
    rw [e]
    refine ⟨rfl, ?_⟩
    have := hf.N
    show (0 : Int) ≤ ((o.N : Nat) : Int) ∧ ((o.N : Nat) : Int) < (4294967296 : Int)
    omega
  | t + 5, hx => simp [opC] at hx
/-- The state at the registers' test. -/
structure KE (n L j : Nat) (o : Opr) (vs : List Value) (ρ : Env) : Prop where
  v : ρ.v = (envP n L j o vs).v
  i0 : ρ.i 0 = n
  i1 : ρ.i 1 = L
  i2 : ρ.i 2 = j
  i3 : ρ.i 3 = o.k
  i4 : ρ.i 4 = o.Z
  i5 : ρ.i 5 = o.X
  i6 : ρ.i 6 = o.Y
  n0 : ρ.n 0 = o.N
theorem KE.ag {n L j : Nat} {o : Opr} {vs : List Value} {ρ ρ' : Env} (h : KE n L j o vs ρ) {nb ne : Nat} (ha : Agree ⟨7, nb, ne, 1⟩ ρ ρ') : KE n L j o vs ρ' :=
  ⟨ha.v.trans h.v, (ha.i 0 (show 0 < 7 by decide)).trans h.i0, (ha.i 1 (show 1 < 7 by decide)).trans h.i1, (ha.i 2 (show 2 < 7 by decide)).trans h.i2, (ha.i 3 (show 3 < 7 by decide)).trans h.i3, (ha.i 4 (show 4 < 7 by decide)).trans h.i4, (ha.i 5 (show 5 < 7 by decide)).trans h.i5, (ha.i 6 (show 6 < 7 by decide)).trans h.i6, (ha.n 0 (show 0 < 1 by decide)).trans h.n0⟩
theorem KE.b {n L j : Nat} {o : Opr} {vs : List Value} {ρ : Env} (h : KE n L j o vs ρ) (f : Nat → Bool) : KE n L j o vs { ρ with b := f } := ⟨h.v, h.i0, h.i1, h.i2, h.i3, h.i4, h.i5, h.i6, h.n0⟩
theorem q3_any {n L j : Nat} {o : Opr} {vs : List Value} {ρ : Env} {α : Adr} {w0 w : World} {a : Act} {Q : Exit → Act → World → Prop} (hk : KE n L j o vs ρ) (e0 : ρ.b 0 = isK o.k) (e1 : ρ.b 1 = usX o.k) (e2 : ρ.b 2 = usY o.k)
    (hr : SRep ρ (fun _ _ => False) w0 α 88 e2T (e2M []) a w) (hQ : ∀ ρH α' a' w', KE n L j o vs ρH → ρH.b 3 = o.does n → SRep ρH (fun _ _ => False) w0 α' 88 f2T f2M a' w' → Q .normal a' w') : wps Tryd.prog Q (((lpB (cP1 Tryd.prog fR)).drop 2).take 1) a w := by
  have fin : ∀ {ρ' : Env} (b : Bool), KE n L j o vs ρ' → b = o.does n → ∃ ρH : Env, ρH = { ρ' with b := fun t => if t = 3 then b else ρ'.b t } ∧ KE n L j o vs ρH ∧ ρH.b 3 = o.does n := fun b hk' hb => ⟨_, rfl, hk'.b _, hb⟩
  have rg : ∀ (ρ' : Env) (i : Int), ρ'.i 0 = n → regF [i, ρ'.i 0] [] [] = regB i n := fun ρ' i h => by rw [h]; rfl
  cases c0 : isK o.k with
  | false =>
    refine to_head mix_ok (RR_ok tabU_ok _) q3a_run (K := fun ρH => KE n L j o vs ρH ∧ ρH.b 3 = o.does n) (hr.orc rfl rfl) (fun ρ' ha hd => ?_) fun ρH α' a' w' hK _ hr' => hQ ρH α' a' w' hK.1 hK.2 hr'
    have hk' := hk.ag ha
    have b0 : ρ'.b 0 = false := (ha.b 0 (show 0 < 3 by decide)).trans (e0.trans c0)
    refine ⟨by simp only [q3a_tr, Asms, Ent.asn, Sb.val, and_true]; exact b0, { ρ' with b := fun t => if t = 3 then false else ρ'.b t }, rfl, by simp [q3a_ob, Obs, Ob.ok, Sx.val, Sb.val], hk'.b _, ?_⟩
    show false = o.does n
    simp [Opr.does, c0]
  | true =>
    cases c1 : regB o.Z n with
    | false =>
      refine to_head mix_ok (RR_ok tabU_ok _) q3b_run (K := fun ρH => KE n L j o vs ρH ∧ ρH.b 3 = o.does n) (hr.orc rfl rfl) (fun ρ' ha hd => ?_) fun ρH α' a' w' hK _ hr' => hQ ρH α' a' w' hK.1 hK.2 hr'
      have hk' := hk.ag ha
      have b0 : ρ'.b 0 = true := (ha.b 0 (show 0 < 3 by decide)).trans (e0.trans c0)
      simp only [q3b_tr, Defs, Ent.def, Fb.sem, List.map_cons, List.map_nil, Sx.val, and_true, true_and, rg ρ' _ hk'.i0, hk'.i4, c1] at hd
      refine ⟨by simp only [q3b_tr, Asms, Ent.asn, Sb.val, and_true, true_and]; exact ⟨hd, b0⟩, { ρ' with b := fun t => if t = 3 then false else ρ'.b t }, rfl, by simp [q3b_ob, Obs, Ob.ok, Sx.val, Sb.val], hk'.b _, ?_⟩
      show false = o.does n
      simp [Opr.does, c0, c1]
    | true =>
      cases c2 : usX o.k with
      | false =>
        cases c3 : usY o.k with
        | true =>
          refine to_head mix_ok (RR_ok tabU_ok _) q3c_run (K := fun ρH => KE n L j o vs ρH ∧ ρH.b 3 = o.does n) (hr.orc rfl rfl) (fun ρ' ha hd => ?_) fun ρH α' a' w' hK _ hr' => hQ ρH α' a' w' hK.1 hK.2 hr'
          have hk' := hk.ag ha
          have b0 : ρ'.b 0 = true := (ha.b 0 (show 0 < 3 by decide)).trans (e0.trans c0)
          have b1 : ρ'.b 1 = false := (ha.b 1 (show 1 < 3 by decide)).trans (e1.trans c2)
          have b2 : ρ'.b 2 = true := (ha.b 2 (show 2 < 3 by decide)).trans (e2.trans c3)
          simp only [q3c_tr, Defs, Ent.def, Fb.sem, List.map_cons, List.map_nil, Sx.val, Sb.val, and_true, true_and, rg ρ' _ hk'.i0, hk'.i4, hk'.i6, c1, b1, b2] at hd
          obtain ⟨d6, d5, d4, d3⟩ := hd
          refine ⟨by simp only [q3c_tr, Asms, Ent.asn, Sb.val, and_true, true_and]; exact ⟨d5, d4, d3, b0⟩, { ρ' with b := fun t => if t = 3 then ρ'.b 6 else ρ'.b t }, rfl, by simp [q3c_ob, Obs, Ob.ok, Sx.val, Sb.val], hk'.b _, ?_⟩
          show ρ'.b 6 = o.does n
          rw [d6]
          simp [Opr.does, c0, c1, c2, c3]
        | false =>
          refine to_head mix_ok (RR_ok tabU_ok _) q3e_run (K := fun ρH => KE n L j o vs ρH ∧ ρH.b 3 = o.does n) (hr.orc rfl rfl) (fun ρ' ha hd => ?_) fun ρH α' a' w' hK _ hr' => hQ ρH α' a' w' hK.1 hK.2 hr'
          have hk' := hk.ag ha
          have b0 : ρ'.b 0 = true := (ha.b 0 (show 0 < 3 by decide)).trans (e0.trans c0)
          have b1 : ρ'.b 1 = false := (ha.b 1 (show 1 < 3 by decide)).trans (e1.trans c2)
          have b2 : ρ'.b 2 = false := (ha.b 2 (show 2 < 3 by decide)).trans (e2.trans c3)
          simp only [q3e_tr, Defs, Ent.def, Fb.sem, List.map_cons, List.map_nil, Sx.val, Sb.val, and_true, true_and, rg ρ' _ hk'.i0, hk'.i4, c1, b1, b2] at hd
          obtain ⟨d5, d4, d3⟩ := hd
          refine ⟨by simp only [q3e_tr, Asms, Ent.asn, Sb.val, and_true, true_and]; exact ⟨d5, d4, d3, b0⟩, { ρ' with b := fun t => if t = 3 then true else ρ'.b t }, rfl, by simp [q3e_ob, Obs, Ob.ok, Sx.val, Sb.val], hk'.b _, ?_⟩
          show true = o.does n
          simp [Opr.does, c0, c1, c2, c3]
      | true =>
        cases c4 : regB o.X n with
        | false =>
          refine to_head mix_ok (RR_ok tabU_ok _) q3d_run (K := fun ρH => KE n L j o vs ρH ∧ ρH.b 3 = o.does n) (hr.orc rfl rfl) (fun ρ' ha hd => ?_) fun ρH α' a' w' hK _ hr' => hQ ρH α' a' w' hK.1 hK.2 hr'
          have hk' := hk.ag ha
          have b0 : ρ'.b 0 = true := (ha.b 0 (show 0 < 3 by decide)).trans (e0.trans c0)
          have b1 : ρ'.b 1 = true := (ha.b 1 (show 1 < 3 by decide)).trans (e1.trans c2)
          simp only [q3d_tr, Defs, Ent.def, Fb.sem, List.map_cons, List.map_nil, Sx.val, Sb.val, and_true, true_and, rg ρ' _ hk'.i0, hk'.i4, hk'.i5, c1, c4, b1] at hd
          obtain ⟨d5, d4, d3⟩ := hd
          refine ⟨by simp only [q3d_tr, Asms, Ent.asn, Sb.val, and_true, true_and]; exact ⟨d5, d4, d3, b0⟩, { ρ' with b := fun t => if t = 3 then false else ρ'.b t }, rfl, by simp [q3d_ob, Obs, Ob.ok, Sx.val, Sb.val], hk'.b _, ?_⟩
          show false = o.does n
          simp [Opr.does, c0, c1, c2, c4]
        | true =>
          cases c3 : usY o.k with
          | false =>
            refine to_head mix_ok (RR_ok tabU_ok _) q3g_run (K := fun ρH => KE n L j o vs ρH ∧ ρH.b 3 = o.does n) (hr.orc rfl rfl) (fun ρ' ha hd => ?_) fun ρH α' a' w' hK _ hr' => hQ ρH α' a' w' hK.1 hK.2 hr'
            have hk' := hk.ag ha
            have b0 : ρ'.b 0 = true := (ha.b 0 (show 0 < 3 by decide)).trans (e0.trans c0)
            have b1 : ρ'.b 1 = true := (ha.b 1 (show 1 < 3 by decide)).trans (e1.trans c2)
            have b2 : ρ'.b 2 = false := (ha.b 2 (show 2 < 3 by decide)).trans (e2.trans c3)
            simp only [q3g_tr, Defs, Ent.def, Fb.sem, List.map_cons, List.map_nil, Sx.val, Sb.val, and_true, true_and, rg ρ' _ hk'.i0, hk'.i4, hk'.i5, c1, c4, b1, b2] at hd
            obtain ⟨d6, d5, d4, d3⟩ := hd
            refine ⟨by simp only [q3g_tr, Asms, Ent.asn, Sb.val, and_true, true_and]; exact ⟨d6, d5, d4, d3, b0⟩, { ρ' with b := fun t => if t = 3 then true else ρ'.b t }, rfl, by simp [q3g_ob, Obs, Ob.ok, Sx.val, Sb.val], hk'.b _, ?_⟩
            show true = o.does n
            simp [Opr.does, c0, c1, c2, c3, c4]
          | true =>
            refine to_head mix_ok (RR_ok tabU_ok _) q3h_run (K := fun ρH => KE n L j o vs ρH ∧ ρH.b 3 = o.does n) (hr.orc rfl rfl) (fun ρ' ha hd => ?_) fun ρH α' a' w' hK _ hr' => hQ ρH α' a' w' hK.1 hK.2 hr'
            have hk' := hk.ag ha
            have b0 : ρ'.b 0 = true := (ha.b 0 (show 0 < 3 by decide)).trans (e0.trans c0)
            have b1 : ρ'.b 1 = true := (ha.b 1 (show 1 < 3 by decide)).trans (e1.trans c2)
            have b2 : ρ'.b 2 = true := (ha.b 2 (show 2 < 3 by decide)).trans (e2.trans c3)
            simp only [q3h_tr, Defs, Ent.def, Fb.sem, List.map_cons, List.map_nil, Sx.val, Sb.val, and_true, true_and, rg ρ' _ hk'.i0, hk'.i4, hk'.i5, hk'.i6, c1, c4, b1, b2] at hd
            obtain ⟨d7, d6, d5, d4, d3⟩ := hd
            refine ⟨by simp only [q3h_tr, Asms, Ent.asn, Sb.val, and_true, true_and]; exact ⟨d6, d5, d4, d3, b0⟩, { ρ' with b := fun t => if t = 3 then ρ'.b 7 else ρ'.b t }, rfl, by simp [q3h_ob, Obs, Ob.ok, Sx.val, Sb.val], hk'.b _, ?_⟩
            show ρ'.b 7 = o.does n
            rw [d7]
            simp [Opr.does, c0, c1, c2, c3, c4]
end Go.Proofs.YtpaidbefbkokfaaDoor

/- FieldRun's second loop: its round. No condition. -/
namespace Go.Proofs.YtpaidbefbkokfaaDoor
open Go Go.RowKit
set_option linter.unusedVariables false
set_option linter.unusedSimpArgs false
set_option maxRecDepth 100000

theorem cell_below {H : Nat} {w w' : World} {b o : Nat} {v : Value} (hb : Below H w w') (hlt : b < H) (h : w.cell? ⟨b, o, none⟩ = some v) : w'.cell? ⟨b, o, none⟩ = some v := by
  rw [hb.cell (p := ⟨b, o, none⟩) hlt]; exact h
theorem tail2 {n L j : Nat} {ops : Nat → Opr} {f0 : Nat → F} {w0 : World} {v1 v5 : Value} {ps : Nat → Nat × Nat} {Qp : Exit → Act → World → Prop} (hn : inR .i64 ((n : Nat) : Int)) (hL : inR .i64 ((L : Nat) : Int)) (hv1 : OpS w0 v1 L ops) (hlt : j < L)
    {a : Act} {w : World} {es : Nat → Elt} (hs : a.tmps.size = 88) (hd : a.defers = []) (g5 : a.tmps.getD 5 undef = v5) (g8 : a.tmps.getD 8 undef = .int .i64 (n : Nat)) (g31 : a.tmps.getD 31 undef = v1) (g32 : a.tmps.getD 32 undef = .int .i64 (L : Nat)) (g33 : a.tmps.getD 33 undef = .int .i64 (j : Nat))
    (hb : Below w0.heap.size w0 w) (hM : Held w w0.heap.size n v5 ps es) (hf : ∀ i, (es i).fe = runG n ops f0 (j + 1) i) :
    wps Tryd.prog (fun e a' w' => match e with
        | .normal => ∃ m', m' < L - j ∧ I2 n L ops f0 w0 v1 v5 ps m' a' w'
        | .exit i => if i = 2 then Qp .normal a' w' else Qp (.exit i) a' w'
        | e => Qp e a' w') (lpE (cP1 Tryd.prog fR)) a w := by
  obtain ⟨ad, cap, ev1, _⟩ := hv1
  refine to_head mix_ok (RR_ok tabU_ok _) q5_run (K := fun ρH => ρH.v = (envP n L j noOp [.nilIface, v1, v5]).v ∧ ρH.i 0 = n ∧ ρH.i 1 = L ∧ ρH.i 2 = ((j + 1 : Nat) : Int)) (h2_rep (o := []) hs hd g5 g8 g31 g32 g33 hn hL (Nat.le_of_lt hlt) ⟨ad, cap, ev1⟩) (fun ρ' ha hd' => ?_) fun ρ6 α6 a6 w6 hK6 _ hr6 => ?_
  · have i0 : ρ'.i 0 = n := ha.i 0 (by decide)
    have i1 : ρ'.i 1 = L := ha.i 1 (by decide)
    have i2 : ρ'.i 2 = j := ha.i 2 (by decide)
    have i3 : ρ'.i 3 = wr .i64 (ρ'.i 2 + 1) := hd'.1
    refine ⟨by simp only [q5_tr, Asms, Ent.asn, and_true], ⟨fun t => if t = 2 then ρ'.i 3 else ρ'.i t, ρ'.b, ρ'.e, ρ'.n, ρ'.v⟩, rfl, by simp [q5_ob, Obs, Ob.ok, Sx.val], ha.v, i0, i1, ?_⟩
    show ρ'.i 3 = ((j + 1 : Nat) : Int)
    have := hL.2
    simp only [hi] at this
    rw [i3, i2]
    simp only [wr]
    omega
  obtain ⟨kv, k0, k1, k2⟩ := hK6
  simp only [SE.toExit]
  refine ⟨L - (j + 1), by omega, j + 1, es, rfl, hlt, hr6.tm.size, hr6.tm.defers, (sr_opq hr6 (t := 5) (q := 2) rfl).trans (congrFun kv 2), ?_, (sr_tbl hr6 (t := 31) (q := 1) (i := 1) (k := 5) (l := []) rfl).trans (congrFun kv 1), ?_, ?_, below_fr0 hb hr6.mem.fr hb.size, hM.fr hr6.mem.fr, hf⟩
  · rw [sr_int hr6 (t := 8) (k := .i64) (x := .x 0) rfl]; simp only [Sx.val, k0]
  · rw [sr_int hr6 (t := 32) (k := .i64) (x := .x 1) rfl]; simp only [Sx.val, k1]
  · rw [sr_int hr6 (t := 33) (k := .i64) (x := .x 2) rfl]; simp only [Sx.val, k2]
theorem round2 {n L : Nat} {ops : Nat → Opr} {f0 : Nat → F} {w0 : World} {v1 v5 : Value} {ps : Nat → Nat × Nat} {q0 q1 q2 : Nat × Nat} (hn : inR .i64 ((n : Nat) : Int)) (hL : inR .i64 ((L : Nat) : Int)) (hv1 : OpS w0 v1 L ops) (hvar : VarsAt w0 w0.heap.size q0 q1 q2)
    {Qp : Exit → Act → World → Prop} (hexit : ∀ a w, D2 n L ops f0 w0 v5 ps a w → Qp .normal a w) (m : Nat) (a : Act) (w : World) (hI : I2 n L ops f0 w0 v1 v5 ps m a w) :
    wps Tryd.prog (fun e a' w' => match e with
        | .normal => ∃ m', m' < m ∧ I2 n L ops f0 w0 v1 v5 ps m' a' w'
        | .exit i => if i = 2 then Qp .normal a' w' else Qp (.exit i) a' w'
        | e => Qp e a' w') (lpOf (cP1 Tryd.prog fR)) a w := by
  obtain ⟨j, es, rfl, hj, hs, hd, g5, g8, g31, g32, g33, hb, hM, hf⟩ := hI
  have hv1' := hv1
  obtain ⟨ad, cap, ev1, hrd⟩ := hv1
  have hH : w0.heap.size ≤ w.heap.size := hb.size
  rw [cut2r]
  refine wps_app _ _ ?_
  rcases Nat.lt_or_eq_of_le hj with hlt | heq
  · refine to_head mix_ok (RR_ok tabU_ok _) q1t_run (K := fun ρH => ρH.v = (envP n L j noOp [.nilIface, v1, v5]).v ∧ ρH.i 0 = n ∧ ρH.i 1 = L ∧ ρH.i 2 = j) (h2_rep (o := [true]) hs hd g5 g8 g31 g32 g33 hn hL hj ⟨ad, cap, ev1⟩) (fun ρ' ha hd' => ?_) fun ρH α1 a1 w1 hK _ hr1 => ?_
    · have i0 : ρ'.i 0 = n := ha.i 0 (by decide)
      have i1 : ρ'.i 1 = L := ha.i 1 (by decide)
      have i2 : ρ'.i 2 = j := ha.i 2 (by decide)
      simp only [q1t_tr, Defs, Ent.def, Fb.sem, List.map_cons, List.map_nil, Sx.val, and_true, true_and] at hd'
      refine ⟨?_, ρ', rfl, ?_, ha.v, i0, i1, i2⟩
      · simp only [q1t_tr, Asms, Ent.asn, Sb.val, and_true]
        rw [hd', i1, i2]
        exact decide_eq_true (by omega)
      · simp only [q1t_ob, Obs, Ob.ok, and_true]
    simp only [SE.toExit, Exit.then]
    obtain ⟨kv, k0, k1, k2⟩ := hK
    have f5 : a1.tmps.getD 5 undef = v5 := (sr_opq hr1 (t := 5) (q := 2) rfl).trans (congrFun kv 2)
    have f31 : a1.tmps.getD 31 undef = v1 := (sr_tbl hr1 (t := 31) (q := 1) (i := 1) (k := 5) (l := []) rfl).trans (congrFun kv 1)
    have f8 : a1.tmps.getD 8 undef = .int .i64 (n : Nat) := by rw [sr_int hr1 (t := 8) (k := .i64) (x := .x 0) rfl]; simp only [Sx.val, k0]
    have f32 : a1.tmps.getD 32 undef = .int .i64 (L : Nat) := by rw [sr_int hr1 (t := 32) (k := .i64) (x := .x 1) rfl]; simp only [Sx.val, k1]
    have f33 : a1.tmps.getD 33 undef = .int .i64 (j : Nat) := by rw [sr_int hr1 (t := 33) (k := .i64) (x := .x 2) rfl]; simp only [Sx.val, k2]
    have hM1 := hM.fr hr1.mem.fr
    have hb1 := below_fr0 hb hr1.mem.fr hH
    have hH1 : w0.heap.size ≤ w1.heap.size := hb1.size
    obtain ⟨hfit, b, s, hbs, hro⟩ := hrd j hlt
    have hro1 : ∀ t v, (opCells (ops j))[t]? = some v → w1.cell? ⟨b, s + j * 5 + t, none⟩ = some v := fun t v ht => cell_below hb1 (cell_lt (hro t v ht)) (hro t v ht)
    refine wps_blk ?_
    show wps _ _ (lpB (cP1 Tryd.prog fR)) a1 w1
    rw [lpB2]
    refine wps_app _ _ ?_
    have hrb : SRep (envP n L j (ops j) [.nilIface, v1, v5]) (fun _ _ => False) w1 (adrL [(b, s + j * 5)]) 88 b2T b2M a1 w1 := by
      refine srep_mk hr1.tm.size hr1.tm.defers (ro_rep (op_lies hfit hro1)) grep_nil fun x hx => ?_
      simp only [ba2, List.mem_cons, List.not_mem_nil, or_false] at hx
      rcases hx with rfl | rfl | rfl | rfl | rfl
      · simp only [VRel]
        refine ⟨f31, ad, L, cap, f31.trans ev1, rfl, hL, fun jc hjc => ?_⟩
        obtain rfl := List.mem_singleton.1 hjc
        refine ⟨show (0 : Int) ≤ (j : Nat) by omega, show ((j : Nat) : Int) < (L : Nat) by omega, b, s, hbs, ?_⟩
        show some (b, s + j * 5) = some (b, s + ((j : Nat) : Int).toNat * 5)
        rw [Int.toNat_natCast]
      · simp only [VRel]; exact f5
      · simp only [VRel]; exact ⟨f8, hn⟩
      · simp only [VRel]; exact ⟨f32, hL⟩
      · simp only [VRel]; exact ⟨f33, nat64 hL hj⟩
    have hke : KE n L j (ops j) [.nilIface, v1, v5] (envP n L j (ops j) [.nilIface, v1, v5]) := ⟨rfl, rfl, rfl, rfl, rfl, rfl, rfl, rfl, rfl⟩
    refine to_head mix_ok (RR_ok tabU_ok _) q2_run (K := fun ρH => KE n L j (ops j) [.nilIface, v1, v5] ρH ∧ ρH.b 0 = isK (ops j).k ∧ ρH.b 1 = usX (ops j).k ∧ ρH.b 2 = usY (ops j).k) hrb (fun ρ' ha hd' => ?_) fun ρ2 α2 a2 w2 hK2 _ hr2 => ?_
    · have hk' := hke.ag ha
      simp only [q2_tr, Defs, Ent.def, Fb.sem, List.map_cons, List.map_nil, Sx.val, and_true, true_and, hk'.i3] at hd'
      obtain ⟨d2, d1, d0⟩ := hd'
      exact ⟨by simp only [q2_tr, Asms, Ent.asn, and_true], ρ', rfl, by simp only [q2_ob, Obs, Ob.ok, and_true], hk', d0, d1, d2⟩
    simp only [SE.toExit, Exit.then]
    refine wps_app _ _ ?_
    refine q3_any hK2.1 hK2.2.1 hK2.2.2.1 hK2.2.2.2 hr2 fun ρ3 α3 a3 w3 hk3 hb3 hr3 => ?_
    simp only [Exit.then]
    have e5 : a3.tmps.getD 5 undef = v5 := (sr_opq hr3 (t := 5) (q := 2) rfl).trans (congrFun hk3.v 2)
    have e31 : a3.tmps.getD 31 undef = v1 := (sr_tbl hr3 (t := 31) (q := 1) (i := 1) (k := 5) (l := []) rfl).trans (congrFun hk3.v 1)
    have e8 : a3.tmps.getD 8 undef = .int .i64 (n : Nat) := by rw [sr_int hr3 (t := 8) (k := .i64) (x := .x 0) rfl]; simp only [Sx.val, hk3.i0]
    have e32 : a3.tmps.getD 32 undef = .int .i64 (L : Nat) := by rw [sr_int hr3 (t := 32) (k := .i64) (x := .x 1) rfl]; simp only [Sx.val, hk3.i1]
    have e33 : a3.tmps.getD 33 undef = .int .i64 (j : Nat) := by rw [sr_int hr3 (t := 33) (k := .i64) (x := .x 2) rfl]; simp only [Sx.val, hk3.i2]
    have e70 : a3.eval (.tmp 70) = .bool ((ops j).does n) := by
      show a3.tmps.getD 70 undef = _
      rw [sr_bool hr3 (t := 70) (x := .x 3) rfl]; simp only [Sb.val, hb3]
    have hb3' := below_fr0 hb1 hr3.mem.fr hH1
    have hM3 := hM1.fr hr3.mem.fr
    rw [cond_eq cnd2_is, cnd2_t]
    refine wps_if e70 ?_
    cases hdo : (ops j).does n with
    | false =>
      rw [if_neg (by simp), cnd2_y]
      show wps _ _ (lpE (cP1 Tryd.prog fR)) a3 w3
      refine tail2 hn hL hv1' hlt hr3.tm.size hr3.tm.defers e5 e8 e31 e32 e33 hb3' hM3 fun i => ?_
      rw [hf i]
      show _ = (if (ops j).does n = true then stepG n (ops j) (runG n ops f0 j) else runG n ops f0 j) i
      rw [hdo, if_neg (by simp)]
    | true =>
      rw [if_pos rfl, cnd2_x]
      refine wps_reg reg2 ?_
      have hl : opsOf (thenC cnd2) = (opsOf (thenC cnd2)).take 2 ++ (opsOf (thenC cnd2)).drop 2 := (List.take_append_drop 2 _).symm
      have o2 : runOps Tryd.prog (RR tabU 6) 88 (opsOf (thenC cnd2)) ((opsOf (thenC cnd2)).take 2) f2T f2M g2T f2M = some (o2_tr, o2_ob) := o2_run
      conv => arg 4; rw [hl]
      refine to_ops (RR_ok tabU_ok _) o2 (K := fun ρH => KE n L j (ops j) [.nilIface, v1, v5] ρH) hr3 (fun ρ' ha hd' => ⟨by simp only [o2_tr, Asms], ρ', rfl, by simp only [o2_ob, Obs, Ob.ok, and_true], hk3.ag ha⟩) fun ρ4 α4 a4 w4 hk4 _ hr4 => ?_
      have t71 : a4.tmps.getD 71 undef = v5 := (sr_opq hr4 (t := 71) (q := 2) rfl).trans (congrFun hk4.v 2)
      have t5 : a4.tmps.getD 5 undef = v5 := (sr_opq hr4 (t := 5) (q := 2) rfl).trans (congrFun hk4.v 2)
      have t31 : a4.tmps.getD 31 undef = v1 := (sr_tbl hr4 (t := 31) (q := 1) (i := 1) (k := 5) (l := []) rfl).trans (congrFun hk4.v 1)
      have t8 : a4.tmps.getD 8 undef = .int .i64 (n : Nat) := by rw [sr_int hr4 (t := 8) (k := .i64) (x := .x 0) rfl]; simp only [Sx.val, hk4.i0]
      have t32 : a4.tmps.getD 32 undef = .int .i64 (L : Nat) := by rw [sr_int hr4 (t := 32) (k := .i64) (x := .x 1) rfl]; simp only [Sx.val, hk4.i1]
      have t33 : a4.tmps.getD 33 undef = .int .i64 (j : Nat) := by rw [sr_int hr4 (t := 33) (k := .i64) (x := .x 2) rfl]; simp only [Sx.val, hk4.i2]
      have t72 : a4.tmps.getD 72 undef = opV (ops j) := by
        have h := hr4.tm.get 72 (.agg opC) rfl
        simp only [opC, VRel, VRels, Sx.val, hk4.i3, hk4.i4, hk4.i5, hk4.i6, hk4.n0, word0 hfit.N] at h
        obtain ⟨us, h0, u0, t0, rfl, ⟨rfl, _⟩, u1, t1, rfl, ⟨rfl, _⟩, u2, t2, rfl, ⟨rfl, _⟩, u3, t3, rfl, ⟨rfl, _⟩, u4, t4, rfl, ⟨rfl, _⟩, rfl⟩ := h
        rw [h0]; rfl
      have hb4 := below_fr0 hb1 hr4.mem.fr hH1
      have hM4 := hM1.fr hr4.mem.fr
      have hnpos : 0 < n := by
        simp only [Opr.does, Bool.and_eq_true] at hdo
        obtain ⟨i, _, hi⟩ := regB_nat hdo.1.1.2
        omega
      obtain ⟨g, cap5, ev5, hrs, hg⟩ := hM4.regS hnpos
      have hstep := (stepG_ok hn hfit hdo).2 w0.heap.size w4 ps es g 0 cap5 q0 q1 q2 hb4.size (hvar.fr (Fr.of_below hb4 fun _ _ => False) fun _ _ h => h.elim) hM4.regs hrs
      obtain ⟨oC, ts, hlC, gC, hC, dC'⟩ := chkCall_ok call2
      rw [hlC]
      refine wpList_call gC hC (vs := #[v5, opV (ops j)]) (by simp only [List.map_toArray, List.map_cons, List.map_nil]; show #[a4.tmps.getD 71 undef, a4.tmps.getD 72 undef] = _; rw [t71, t72]) (by rw [ev5]; exact hstep) ?_
      rintro v W' ⟨rfl, ⟨es', hreg', hfe'⟩, hfr⟩
      rw [dC']
      have hs4 := hr4.tm.size
      have q : ∀ t, t ≠ 73 → (a4.put (some 73) (.tuple #[])).tmps.getD t undef = a4.tmps.getD t undef := fun t h1 => put_getD_ne fun e => h1 (Option.some.inj e).symm
      have hM5 : Held W' w0.heap.size n v5 ps es' := by
        refine ⟨hreg', ?_, hM4.ne⟩
        have ho := hM4.own
        rw [ev5] at ho ⊢
        exact ownsRow.of_fr ho hfr fun jj ⟨i, hi, e⟩ => hrs.ne i hi e
      have hb5 : Below w0.heap.size w0 W' := Below.of_fr hb4 hfr hb4.size fun b' jj ⟨i, hi, e⟩ => by rw [e]; exact hM4.regs.new i hi
      show wps _ _ (lpE (cP1 Tryd.prog fR)) _ W'
      refine tail2 hn hL hv1' hlt (by rw [put_size]; exact hs4) (by rw [put_defers]; exact hr4.tm.defers) ((q 5 (by decide)).trans t5) ((q 8 (by decide)).trans t8) ((q 31 (by decide)).trans t31) ((q 32 (by decide)).trans t32) ((q 33 (by decide)).trans t33) hb5 hM5 fun i => ?_
      rw [hfe' i]
      show _ = (if (ops j).does n = true then stepG n (ops j) (runG n ops f0 j) else runG n ops f0 j) i
      rw [hdo, if_pos rfl, show (fun i => (es i).fe) = runG n ops f0 j from funext hf]
  · subst heq
    refine to_head mix_ok (RR_ok tabU_ok _) q1f_run (K := fun ρH => ρH.v = (envP n j j noOp [.nilIface, v1, v5]).v) (h2_rep (o := [false]) hs hd g5 g8 g31 g32 g33 hn hL hj ⟨ad, cap, ev1⟩) (fun ρ' ha hd' => ?_) fun ρH α1 a1 w1 hK _ hr1 => ?_
    · have i1 : ρ'.i 1 = j := ha.i 1 (by decide)
      have i2 : ρ'.i 2 = j := ha.i 2 (by decide)
      simp only [q1f_tr, Defs, Ent.def, Fb.sem, List.map_cons, List.map_nil, Sx.val, and_true, true_and] at hd'
      refine ⟨?_, ρ', rfl, ?_, ha.v⟩
      · simp only [q1f_tr, Asms, Ent.asn, Sb.val, and_true]
        rw [hd', i1, i2]
        exact decide_eq_false (by omega)
      · simp only [q1f_ob, Obs, Ob.ok, and_true]
    simp only [SE.toExit, Exit.then, if_true]
    exact hexit a1 w1 ⟨es, hr1.tm.size, hr1.tm.defers, (sr_opq hr1 (t := 5) (q := 2) rfl).trans (congrFun hK 2), below_fr0 hb hr1.mem.fr hH, hM.fr hr1.mem.fr, hf⟩
end Go.Proofs.YtpaidbefbkokfaaDoor
