/- alike: two lists of the same bytes. No condition. -/
import Derived.Test.YtpaidbefbkokfaaDoorFr7
namespace Go.Proofs.YtpaidbefbkokfaaDoor
open Go Go.RowKit
set_option linter.unusedVariables false
set_option linter.unusedSimpArgs false
set_option maxRecDepth 100000

def fAl : FuncId := 5
def haT : Tm := tmS 7 [(0, .tbl 0 0 32 []), (1, .tbl 1 0 32 []), (5, .int .i64 (.x 1))]
def haM (o : List Bool) : Ms := ⟨[], [], 2, 0, 0, 0, o, []⟩
def baTa : Tm := tmS 7 [(0, .tbl 0 0 32 [(1, 0)]), (1, .tbl 1 0 32 [(1, 1)]), (5, .int .i64 (.x 1))]
def baMa : Ms := ⟨[⟨octsS 0 0 32, false⟩, ⟨octsS 0 0 32, false⟩], [], 2, 0, 0, 1, [false], []⟩
def a0_tr : List Ent := [.asm (.x 0) false, .db 0 (.neq) [.x 0, .x 0] [] []]
def a0_ob : List Ob := [.s 0 0, .s 0 0, .i (.x 1) (.c 0)]
theorem a0_run : runTo Tryd.prog (RR tabW6 6) 26 (cutB (cP0 Tryd.prog fAl)) (tmS 7 [(0, .tbl 0 0 32 []), (1, .tbl 1 0 32 [])]) (⟨[], [], 1, 0, 0, 0, [false], []⟩) (haT) (haM []) = some (.normal, a0_tr, a0_ob) := by kernel_rfl
def a1t_tr : List Ent := [.asm (.x 0) true, .db 0 (.lss) [.x 1, .x 0] [] []]
def a1t_ob : List Ob := [.s 0 0, .s 0 0, .i (.x 1) (.x 1)]
theorem a1t_run : runTo Tryd.prog (RR tabW6 6) 26 (lpH (cP0 Tryd.prog fAl)) (haT) (haM [true]) (haT) (haM []) = some (.normal, a1t_tr, a1t_ob) := by kernel_rfl
def a1f_tr : List Ent := [.asm (.x 0) false, .db 0 (.lss) [.x 1, .x 0] [] []]
def a1f_ob : List Ob := [.s 0 0, .s 0 0, .i (.x 1) (.x 1)]
theorem a1f_run : runTo Tryd.prog (RR tabW6 6) 26 (lpH (cP0 Tryd.prog fAl)) (haT) (haM [false]) (haT) (haM []) = some (.exit 0, a1f_tr, a1f_ob) := by kernel_rfl
def a2_tr : List Ent := [.asm (.x 0) false, .db 0 (.neqs) [.o 0 0, .o 0 1, .o 0 2, .o 0 3, .o 0 4, .o 0 5, .o 0 6, .o 0 7, .o 0 8, .o 0 9, .o 0 10, .o 0 11, .o 0 12, .o 0 13, .o 0 14, .o 0 15, .o 0 16, .o 0 17, .o 0 18, .o 0 19, .o 0 20, .o 0 21, .o 0 22, .o 0 23, .o 0 24, .o 0 25, .o 0 26, .o 0 27, .o 0 28, .o 0 29, .o 0 30, .o 0 31, .o 0 0, .o 0 1, .o 0 2, .o 0 3, .o 0 4, .o 0 5, .o 0 6, .o 0 7, .o 0 8, .o 0 9, .o 0 10, .o 0 11, .o 0 12, .o 0 13, .o 0 14, .o 0 15, .o 0 16, .o 0 17, .o 0 18, .o 0 19, .o 0 20, .o 0 21, .o 0 22, .o 0 23, .o 0 24, .o 0 25, .o 0 26, .o 0 27, .o 0 28, .o 0 29, .o 0 30, .o 0 31] [] []]
def a2_ob : List Ob := [.s 0 0, .s 0 0, .i (.x 1) (.x 1)]
theorem a2_run : runTo Tryd.prog (RR tabW6 6) 26 (lpB (cP0 Tryd.prog fAl)) (baTa) (baMa) (haT) (⟨[], [], 2, 0, 0, 1, [], []⟩) = some (.normal, a2_tr, a2_ob) := by kernel_rfl
def a5_tr : List Ent := [.di 2 (.add (.i64)) [.x 1, .c 1]]
def a5_ob : List Ob := [.s 0 0, .s 0 0, .i (.x 1) (.x 2)]
theorem a5_run : runTo Tryd.prog (RR tabW6 6) 26 (lpE (cP0 Tryd.prog fAl)) (haT) (haM []) (haT) (haM []) = some (.normal, a5_tr, a5_ob) := by kernel_rfl
def a8_tr : List Ent := []
def a8_mem : List Chunk := []
theorem a8_run : runRet Tryd.prog (RR tabW6 6) 26 fAl (cP1 Tryd.prog fAl) (haT) (haM []) = some ([.bool (.c true)], a8_tr, a8_mem) := by kernel_rfl

theorem cutA0 : cP0 Tryd.prog fAl = cutB (cP0 Tryd.prog fAl) ++ .block 0 (.loop (unloop (cutC (cP0 Tryd.prog fAl)))) :: cP1 Tryd.prog fAl := by
  have h : cutOk (cP0 Tryd.prog fAl) = true := by kernel_rfl
  have h1 : isLoop (cutC (cP0 Tryd.prog fAl)) = true := by kernel_rfl
  have h2 : cutI (cP0 Tryd.prog fAl) = 0 := by kernel_rfl
  have := cut_eq h
  rw [unloop_eq h1, h2] at this
  exact this
theorem cutAr : lpOf (cP0 Tryd.prog fAl) = lpH (cP0 Tryd.prog fAl) ++ .block 1 (cutC (lpOf (cP0 Tryd.prog fAl))) :: lpE (cP0 Tryd.prog fAl) := by
  have h : cutOk (lpOf (cP0 Tryd.prog fAl)) = true := by kernel_rfl
  have h2 : cutI (lpOf (cP0 Tryd.prog fAl)) = 1 := by kernel_rfl
  have := cut_eq h
  rw [h2] at this
  exact this
theorem ntA : fnNt Tryd.prog fAl = 26 := by kernel_rfl
theorem two_rep {w : World} {p q : Nat × Nat} {ρ : Env} (hp : RoN 32 w p (ρ.n 0)) (hq : RoN 32 w q (ρ.n 0)) (hne : p.1 ≠ q.1) : MRep ρ (fun _ _ => False) w (adrL [p, q]) baMa.mem w := by
  refine mrep_ptr rfl (fun c r ch h1 h2 => ?_) (fun c c' r r' ch ch' hlt h1 h2 h3 h4 => ?_)
  · match c with
    | 0 =>
      obtain rfl := Option.some.inj h1
      obtain rfl := Option.some.inj h2
      have hl := lies_octs (ρ := ρ) (n := 0) (by decide) hp
      exact ⟨rfl, hl.lt, fun j x hx => by obtain ⟨v, e1, e2⟩ := hl.cell j x hx; exact ⟨v, e1, e2 _⟩⟩
    | 1 =>
      obtain rfl := Option.some.inj h1
      obtain rfl := Option.some.inj h2
      have hl := lies_octs (ρ := ρ) (n := 0) (by decide) hq
      exact ⟨rfl, hl.lt, fun j x hx => by obtain ⟨v, e1, e2⟩ := hl.cell j x hx; exact ⟨v, e1, e2 _⟩⟩
    | c + 2 => simp at h1
  · match c, c' with
    | 0, 1 =>
      obtain rfl := Option.some.inj h1
      obtain rfl := Option.some.inj h2
      exact .inl hne
    | 0, 0 => omega
    | 1, 1 => omega
    | 1, 0 => omega
    | _, c' + 2 => simp at h2
    | c + 2, _ => simp at h1
def IA (n : Nat) (N : Nat → Nat) (w0 : World) (va vb : Value) (m : Nat) (a : Act) (w : World) : Prop :=
  ∃ i, m = n - i ∧ i ≤ n ∧ a.tmps.size = 26 ∧ a.defers = [] ∧ a.tmps.getD 0 undef = va ∧ a.tmps.getD 1 undef = vb ∧ a.tmps.getD 5 undef = .int .i64 (i : Nat) ∧ Below w0.heap.size w0 w
theorem ha_rep {n i : Nat} {va vb : Value} {a : Act} {w : World} {o : List Bool} (hs : a.tmps.size = 26) (hd : a.defers = []) (g0 : a.tmps.getD 0 undef = va) (g1 : a.tmps.getD 1 undef = vb) (g5 : a.tmps.getD 5 undef = .int .i64 (i : Nat))
    (hn : inR .i64 ((n : Nat) : Int)) (hi : i ≤ n) (hva : ∃ ad cap, va = .slice ad n cap) (hvb : ∃ ad cap, vb = .slice ad n cap) : SRep (envL n i 0 [va, vb]) (fun _ _ => False) w (fun _ => none) 26 haT (haM o) a w := by
  refine srep_mk hs hd mrep_nil grep_nil fun x hx => ?_
  simp only [List.mem_cons, List.not_mem_nil, or_false] at hx
  rcases hx with rfl | rfl | rfl
  · obtain ⟨ad, cap, e⟩ := hva
    simp only [VRel]
    exact ⟨g0, ad, n, cap, g0.trans e, rfl, hn, fun jc hj => by simp at hj⟩
  · obtain ⟨ad, cap, e⟩ := hvb
    simp only [VRel]
    exact ⟨g1, ad, n, cap, g1.trans e, rfl, hn, fun jc hj => by simp at hj⟩
  · simp only [VRel]; exact ⟨g5, nat64 hn hi⟩
theorem neqs_same {ρ : Env} {l : List Sx} {b : Nat} (h : ρ.b b = Fb.sem .neqs ((l ++ l).map (Sx.val ρ)) [] []) : ρ.b b = false := by
  rw [h, List.map_append]
  show (!decide (((l.map (Sx.val ρ) ++ l.map (Sx.val ρ)).take ((l.map (Sx.val ρ) ++ l.map (Sx.val ρ)).length / 2)) = ((l.map (Sx.val ρ) ++ l.map (Sx.val ρ)).drop ((l.map (Sx.val ρ) ++ l.map (Sx.val ρ)).length / 2)))) = false
  rw [show (l.map (Sx.val ρ) ++ l.map (Sx.val ρ)).length / 2 = (l.map (Sx.val ρ)).length by rw [List.length_append]; omega, List.take_left, List.drop_left]
  simp
theorem roundA {n : Nat} {N : Nat → Nat} {w0 : World} {va vb : Value} (hn : inR .i64 ((n : Nat) : Int)) (hva : ByS w0 va n N) (hvb : ByS w0 vb n N) (hap : ∀ g, va.ownBlock = some g → vb.ownBlock ≠ some g)
    {Qp : Exit → Act → World → Prop} (hexit : ∀ a w, IA n N w0 va vb 0 a w → Qp .normal a w) (m : Nat) (a : Act) (w : World) (hI : IA n N w0 va vb m a w) :
    wps Tryd.prog (fun e a' w' => match e with
        | .normal => ∃ m', m' < m ∧ IA n N w0 va vb m' a' w'
        | .exit i => if i = 0 then Qp .normal a' w' else Qp (.exit i) a' w'
        | e => Qp e a' w') (lpOf (cP0 Tryd.prog fAl)) a w := by
  obtain ⟨i, rfl, hi, hs, hd, g0, g1, g5, hb⟩ := hI
  obtain ⟨ada, capa, eva, hra⟩ := hva
  obtain ⟨adb, capb, evb, hrb⟩ := hvb
  have hH : w0.heap.size ≤ w.heap.size := hb.size
  rw [cutAr]
  refine wps_app _ _ ?_
  rcases Nat.lt_or_eq_of_le hi with hlt | heq
  · refine to_head mix_ok (RR_ok tabW6_ok _) a1t_run (K := fun ρH => ρH.v = (envL n i 0 [va, vb]).v ∧ ρH.i 1 = i) (ha_rep (o := [true]) hs hd g0 g1 g5 hn hi ⟨ada, capa, eva⟩ ⟨adb, capb, evb⟩) (fun ρ' ha hd' => ?_) fun ρH α1 a1 w1 hK _ hr1 => ?_
    · have i0 : ρ'.i 0 = n := ha.i 0 (by decide)
      have i1 : ρ'.i 1 = i := ha.i 1 (by decide)
      simp only [a1t_tr, Defs, Ent.def, Fb.sem, List.map_cons, List.map_nil, Sx.val, and_true, true_and] at hd'
      refine ⟨?_, ρ', rfl, ?_, ha.v, i1⟩
      · simp only [a1t_tr, Asms, Ent.asn, Sb.val, and_true]
        rw [hd', i0, i1]
        exact decide_eq_true (by omega)
      · simp only [a1t_ob, Obs, Ob.ok, and_true]
    simp only [SE.toExit, Exit.then]
    obtain ⟨kv, k1⟩ := hK
    have f0 : a1.tmps.getD 0 undef = va := (sr_tbl hr1 (t := 0) (q := 0) (i := 0) (k := 32) (l := []) rfl).trans (congrFun kv 0)
    have f1 : a1.tmps.getD 1 undef = vb := (sr_tbl hr1 (t := 1) (q := 1) (i := 0) (k := 32) (l := []) rfl).trans (congrFun kv 1)
    have f5 : a1.tmps.getD 5 undef = .int .i64 (i : Nat) := by rw [sr_int hr1 (t := 5) (k := .i64) (x := .x 1) rfl]; simp only [Sx.val, k1]
    have hb1 := below_fr0 hb hr1.mem.fr hH
    obtain ⟨ba, sa, ea, roa⟩ := hra i hlt
    obtain ⟨bb, sb, eb, rob⟩ := hrb i hlt
    have roa1 := roa.below hb1 (cell_lt (roa 0 (by decide)))
    have rob1 := rob.below hb1 (cell_lt (rob 0 (by decide)))
    have hne : ba ≠ bb := fun e => hap ba (by rw [eva, ea]; rfl) (by rw [evb, eb, e]; rfl)
    refine wps_blk ?_
    show wps _ _ (lpB (cP0 Tryd.prog fAl)) a1 w1
    have hr : SRep (envL n i (N i) [va, vb]) (fun _ _ => False) w1 (adrL [(ba, sa + i * 32), (bb, sb + i * 32)]) 26 baTa baMa a1 w1 := by
      refine srep_mk hr1.tm.size hr1.tm.defers (two_rep roa1 rob1 hne) grep_nil fun x hx => ?_
      simp only [List.mem_cons, List.not_mem_nil, or_false] at hx
      rcases hx with rfl | rfl | rfl
      · simp only [VRel]
        refine ⟨f0, ada, n, capa, f0.trans eva, rfl, hn, fun jc hjc => ?_⟩
        obtain rfl := List.mem_singleton.1 hjc
        refine ⟨show (0 : Int) ≤ (i : Nat) by omega, show ((i : Nat) : Int) < (n : Nat) by omega, ba, sa, ea, ?_⟩
        show some (ba, sa + i * 32) = some (ba, sa + ((i : Nat) : Int).toNat * 32)
        rw [Int.toNat_natCast]
      · simp only [VRel]
        refine ⟨f1, adb, n, capb, f1.trans evb, rfl, hn, fun jc hjc => ?_⟩
        obtain rfl := List.mem_singleton.1 hjc
        refine ⟨show (0 : Int) ≤ (i : Nat) by omega, show ((i : Nat) : Int) < (n : Nat) by omega, bb, sb, eb, ?_⟩
        show some (bb, sb + i * 32) = some (bb, sb + ((i : Nat) : Int).toNat * 32)
        rw [Int.toNat_natCast]
      · simp only [VRel]; exact ⟨f5, nat64 hn hi⟩
    refine to_head mix_ok (RR_ok tabW6_ok _) a2_run (K := fun ρH => ρH.v = (envL n i 0 [va, vb]).v ∧ ρH.i 1 = i) hr (fun ρ' ha hd' => ?_) fun ρ2 α2 a2 w2 hK2 _ hr2 => ?_
    · have e0 : ρ'.b 0 = false := neqs_same (l := octX 0 0 32) hd'.2.1
      exact ⟨⟨e0, trivial, trivial⟩, ρ', rfl, by simp only [a2_ob, Obs, Ob.ok, and_true], ha.v, ha.i 1 (by decide)⟩
    simp only [SE.toExit]
    obtain ⟨kv2, k12⟩ := hK2
    have hb2 := below_fr0 hb1 hr2.mem.fr hb1.size
    refine to_head mix_ok (RR_ok tabW6_ok _) a5_run (K := fun ρH => ρH.v = (envL n i 0 [va, vb]).v ∧ ρH.i 1 = ((i + 1 : Nat) : Int)) (ha_rep (o := []) hr2.tm.size hr2.tm.defers ((sr_tbl hr2 (t := 0) (q := 0) (i := 0) (k := 32) (l := []) rfl).trans (congrFun kv2 0)) ((sr_tbl hr2 (t := 1) (q := 1) (i := 0) (k := 32) (l := []) rfl).trans (congrFun kv2 1)) (by rw [sr_int hr2 (t := 5) (k := .i64) (x := .x 1) rfl]; simp only [Sx.val, k12]) hn hi ⟨ada, capa, eva⟩ ⟨adb, capb, evb⟩) (fun ρ' ha hd' => ?_) fun ρ6 α6 a6 w6 hK6 _ hr6 => ?_
    · have i1 : ρ'.i 1 = i := ha.i 1 (by decide)
      have i2 : ρ'.i 2 = wr .i64 (ρ'.i 1 + 1) := hd'.1
      refine ⟨by simp only [a5_tr, Asms, Ent.asn, and_true], ⟨fun j => if j = 1 then ρ'.i 2 else ρ'.i j, ρ'.b, ρ'.e, ρ'.n, ρ'.v⟩, rfl, by simp [a5_ob, Obs, Ob.ok, Sx.val], ha.v, ?_⟩
      show ρ'.i 2 = ((i + 1 : Nat) : Int)
      have := hn.2
      simp only [Go.Proofs.YtpaidbefbkokfaaDoor.hi] at this
      rw [i2, i1]
      simp only [wr]
      omega
    obtain ⟨kv6, k16⟩ := hK6
    simp only [SE.toExit]
    refine ⟨n - (i + 1), by omega, i + 1, rfl, hlt, hr6.tm.size, hr6.tm.defers, (sr_tbl hr6 (t := 0) (q := 0) (i := 0) (k := 32) (l := []) rfl).trans (congrFun kv6 0), (sr_tbl hr6 (t := 1) (q := 1) (i := 0) (k := 32) (l := []) rfl).trans (congrFun kv6 1), ?_, below_fr0 hb2 hr6.mem.fr hb2.size⟩
    rw [sr_int hr6 (t := 5) (k := .i64) (x := .x 1) rfl]; simp only [Sx.val, k16]
  · subst heq
    refine to_head mix_ok (RR_ok tabW6_ok _) a1f_run (K := fun ρH => ρH.v = (envL i i 0 [va, vb]).v ∧ ρH.i 1 = i) (ha_rep (o := [false]) hs hd g0 g1 g5 hn hi ⟨ada, capa, eva⟩ ⟨adb, capb, evb⟩) (fun ρ' ha hd' => ?_) fun ρH α1 a1 w1 hK _ hr1 => ?_
    · have i0 : ρ'.i 0 = i := ha.i 0 (by decide)
      have i1 : ρ'.i 1 = i := ha.i 1 (by decide)
      simp only [a1f_tr, Defs, Ent.def, Fb.sem, List.map_cons, List.map_nil, Sx.val, and_true, true_and] at hd'
      refine ⟨?_, ρ', rfl, ?_, ha.v, i1⟩
      · simp only [a1f_tr, Asms, Ent.asn, Sb.val, and_true]
        rw [hd', i0, i1]
        exact decide_eq_false (by omega)
      · simp only [a1f_ob, Obs, Ob.ok, and_true]
    simp only [SE.toExit, Exit.then, if_true]
    obtain ⟨kv, k1⟩ := hK
    refine hexit a1 w1 ⟨i, by omega, Nat.le_refl _, hr1.tm.size, hr1.tm.defers, (sr_tbl hr1 (t := 0) (q := 0) (i := 0) (k := 32) (l := []) rfl).trans (congrFun kv 0), (sr_tbl hr1 (t := 1) (q := 1) (i := 0) (k := 32) (l := []) rfl).trans (congrFun kv 1), ?_, below_fr0 hb hr1.mem.fr hH⟩
    rw [sr_int hr1 (t := 5) (k := .i64) (x := .x 1) rfl]; simp only [Sx.val, k1]
theorem alike_c {n : Nat} {N : Nat → Nat} {w0 : World} {va vb : Value} (hn : inR .i64 ((n : Nat) : Int)) (hva : ByS w0 va n N) (hvb : ByS w0 vb n N) (hap : ∀ g, va.ownBlock = some g → vb.ownBlock ≠ some g) :
    Invokes Tryd.prog fAl #[va, vb] w0 fun v w' => v = .bool true ∧ Below w0.heap.size w0 w' := by
  have hva' := hva
  have hvb' := hvb
  obtain ⟨ada, capa, eva, _⟩ := hva'
  obtain ⟨adb, capb, evb, _⟩ := hvb'
  refine fn_invokes (S := fun _ _ => False) (w0 := w0) (ρ := envL n 0 0 [va, vb]) (α := fun _ => none) (ms := ⟨[], [], 1, 0, 0, 0, [false], []⟩) (args := [.tbl 0 0 32 [], .tbl 1 0 32 []]) (vs := [va, vb]) (by kernel_rfl) mrep_nil grep_nil ?_ (by rw [ntA]; decide) fun a hr => ?_
  · simp only [VRels, VRel]
    exact ⟨_, _, rfl, ⟨rfl, ada, n, capa, eva, rfl, hn, fun jc hj => by simp at hj⟩, _, _, rfl, ⟨rfl, adb, n, capb, evb, rfl, hn, fun jc hj => by simp at hj⟩, rfl⟩
  rw [ntA] at hr
  show wps _ _ (cP0 Tryd.prog fAl) a w0
  rw [cutA0]
  refine wps_app _ _ ?_
  have hr2 : SRep (envL n 0 0 [va, vb]) (fun _ _ => False) w0 (fun _ => none) 26 (tmS 7 [(0, .tbl 0 0 32 []), (1, .tbl 1 0 32 [])]) ⟨[], [], 1, 0, 0, 0, [false], []⟩ a w0 := by
    refine srep_mk hr.tm.size hr.tm.defers mrep_nil grep_nil fun x hx => ?_
    simp only [List.mem_cons, List.not_mem_nil, or_false] at hx
    rcases hx with rfl | rfl
    · exact hr.tm.get 0 _ rfl
    · exact hr.tm.get 1 _ rfl
  refine to_head mix_ok (RR_ok tabW6_ok _) a0_run (K := fun ρH => ρH.v = (envL n 0 0 [va, vb]).v ∧ ρH.i 1 = 0) hr2 (fun ρ' ha hd' => ?_) fun ρH α1 a1 w1 hK _ hr1 => ?_
  · simp only [a0_tr, Defs, Ent.def, Fb.sem, List.map_cons, List.map_nil, Sx.val, and_true, true_and, bne_self_eq_false] at hd'
    exact ⟨by simp only [a0_tr, Asms, Ent.asn, Sb.val, and_true, true_and]; exact hd', ⟨fun t => if t = 1 then 0 else ρ'.i t, ρ'.b, ρ'.e, ρ'.n, ρ'.v⟩, rfl, by simp [a0_ob, Obs, Ob.ok, Sx.val], ha.v, rfl⟩
  obtain ⟨kv, k1⟩ := hK
  simp only [SE.toExit, Exit.then, wps]
  have hI : IA n N w0 va vb (n - 0) a1 w1 := by
    refine ⟨0, rfl, Nat.zero_le _, hr1.tm.size, hr1.tm.defers, (sr_tbl hr1 (t := 0) (q := 0) (i := 0) (k := 32) (l := []) rfl).trans (congrFun kv 0), (sr_tbl hr1 (t := 1) (q := 1) (i := 0) (k := 32) (l := []) rfl).trans (congrFun kv 1), ?_, hr1.mem.fr.below⟩
    rw [sr_int hr1 (t := 5) (k := .i64) (x := .x 1) rfl]; simp only [Sx.val, k1]; rfl
  refine loop_raw (IA n N w0 va vb) (roundA hn hva hvb hap fun a2 w2 h => ?_) hI
  obtain ⟨i, hm, hi, hs, hd, g0, g1, g5, hb⟩ := h
  simp only [Exit.then]
  refine to_ret mix_ok (RR_ok tabW6_ok _) a8_run (ha_rep (o := []) hs hd g0 g1 g5 hn hi ⟨ada, capa, eva⟩ ⟨adb, capb, evb⟩) fun ρ' ha hd' => ⟨by simp only [a8_tr, Asms], fun α' w' v he hv hm' => ⟨?_, below_fr0 hb hm'.fr hb.size⟩⟩
  simpa only [retOf, VRel, Sb.val] using hv
end Go.Proofs.YtpaidbefbkokfaaDoor
