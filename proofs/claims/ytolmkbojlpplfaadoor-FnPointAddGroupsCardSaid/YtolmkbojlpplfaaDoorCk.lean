/- The check that points are initialized: contracts and rule. No condition. -/
import Derived.Test.YtolmkbojlpplfaaDoorPt
import Derived.Test.YtolmkbojlpplfaaDoorBit
namespace Go.Proofs.YtolmkbojlpplfaaDoor
open Go Go.RowKit
set_option linter.unusedVariables false
set_option linter.unusedSimpArgs false
set_option maxRecDepth 100000

/-- The limbs are all 0. -/
def zB (e : Elt) : Bool := decide ([e.1.at 0, e.1.at 1, e.1.at 2, e.1.at 3, e.1.at 4] = [0, 0, 0, 0, 0])
theorem zB_fe {e : Elt} (h : zB e = true) : e.fe = 0 := by
  have h1 : [e.1.at 0, e.1.at 1, e.1.at 2, e.1.at 3, e.1.at 4] = [0, 0, 0, 0, 0] := of_decide_eq_true h
  simp only [List.cons.injEq, and_true] at h1
  refine fe_of_limbs fun j hj => ?_
  match j, hj with
  | 0, _ => exact h1.1
  | 1, _ => exact h1.2.1
  | 2, _ => exact h1.2.2.1
  | 3, _ => exact h1.2.2.2.1
  | 4, _ => exact h1.2.2.2.2
theorem lz {ρ : Env} {k e : Nat} (h : Ent.def ρ (.db k .eqs [.l e 0, .l e 1, .l e 2, .l e 3, .l e 4, .c 0, .c 0, .c 0, .c 0, .c 0] [] [])) : ρ.b k = zB (ρ.e e) := by
  simpa [Ent.def, Fb.sem, Sx.val, zB] using h
theorem lies_two {ρ : Env} {w : World} {p : Nat × Nat} {a b : Nat} {α : Adr} (h1 : Rd w p (ρ.e a)) (h2 : Rd w (p.1, p.2 + 5) (ρ.e b)) : p.1 < w.heap.size ∧ ∀ j x, (limbs a ++ limbs b)[j]? = some x → ∃ v, w.cell? ⟨p.1, p.2 + j, none⟩ = some v ∧ VRel ρ α x v := by
  refine ⟨cell_lt (h1 0 (by omega)), fun j x hx => ?_⟩
  rcases limbs_app_get hx with ⟨hj, rfl⟩ | ⟨hj, hx⟩
  · exact ⟨_, h1 j hj, limb_rel⟩
  · obtain ⟨rfl, hj2⟩ := limbs_get hx
    have := h2 (j - 5) hj2
    rw [show p.2 + 5 + (j - 5) = p.2 + j by omega] at this
    exact ⟨_, this, limb_rel⟩
def envX (es : List Elt) : Env := ⟨fun _ => 0, fun _ => false, fun j => es.getD j zeroE, fun _ => 0, fun _ => .nilIface⟩
def ckN_ms : Ms := ⟨[⟨[.ptr 1 0], false⟩, ⟨[.int .u64 (.l 0 0), .int .u64 (.l 0 1), .int .u64 (.l 0 2), .int .u64 (.l 0 3), .int .u64 (.l 0 4), .int .u64 (.l 1 0), .int .u64 (.l 1 1), .int .u64 (.l 1 2), .int .u64 (.l 1 3), .int .u64 (.l 1 4)], false⟩], [.asm (.x 0) false, .db 0 (.eqs) [.l 0 0, .l 0 1, .l 0 2, .l 0 3, .l 0 4, .c 0, .c 0, .c 0, .c 0, .c 0] [] []], 0, 1, 2, 0, [], []⟩
theorem ckN_run : runOk (body tabB 2 40) (⟨[⟨[.ptr 1 0], false⟩, ⟨limbs 0 ++ limbs 1, false⟩], [], 0, 0, 2, 0, [false], []⟩) ([.slice 0 0 1 1]) (.tuple []) ckN_ms := ⟨by kernel_rfl, by kernel_rfl, by kernel_rfl, by kernel_rfl⟩
def ckT_ms : Ms := ⟨[⟨[.ptr 1 0], false⟩, ⟨[.int .u64 (.l 0 0), .int .u64 (.l 0 1), .int .u64 (.l 0 2), .int .u64 (.l 0 3), .int .u64 (.l 0 4), .int .u64 (.l 1 0), .int .u64 (.l 1 1), .int .u64 (.l 1 2), .int .u64 (.l 1 3), .int .u64 (.l 1 4)], false⟩], [.asm (.x 1) false, .db 1 (.eqs) [.l 1 0, .l 1 1, .l 1 2, .l 1 3, .l 1 4, .c 0, .c 0, .c 0, .c 0, .c 0] [] [], .asm (.x 0) true, .db 0 (.eqs) [.l 0 0, .l 0 1, .l 0 2, .l 0 3, .l 0 4, .c 0, .c 0, .c 0, .c 0, .c 0] [] []], 0, 2, 2, 0, [], []⟩
theorem ckT_run : runOk (body tabB 2 40) (⟨[⟨[.ptr 1 0], false⟩, ⟨limbs 0 ++ limbs 1, false⟩], [], 0, 0, 2, 0, [true, false], []⟩) ([.slice 0 0 1 1]) (.tuple []) ckT_ms := ⟨by kernel_rfl, by kernel_rfl, by kernel_rfl, by kernel_rfl⟩
def ckNN_ms : Ms := ⟨[⟨[.ptr 1 0, .ptr 2 0], false⟩, ⟨[.int .u64 (.l 0 0), .int .u64 (.l 0 1), .int .u64 (.l 0 2), .int .u64 (.l 0 3), .int .u64 (.l 0 4), .int .u64 (.l 1 0), .int .u64 (.l 1 1), .int .u64 (.l 1 2), .int .u64 (.l 1 3), .int .u64 (.l 1 4)], false⟩, ⟨[.int .u64 (.l 2 0), .int .u64 (.l 2 1), .int .u64 (.l 2 2), .int .u64 (.l 2 3), .int .u64 (.l 2 4), .int .u64 (.l 3 0), .int .u64 (.l 3 1), .int .u64 (.l 3 2), .int .u64 (.l 3 3), .int .u64 (.l 3 4)], false⟩], [.asm (.x 1) false, .db 1 (.eqs) [.l 2 0, .l 2 1, .l 2 2, .l 2 3, .l 2 4, .c 0, .c 0, .c 0, .c 0, .c 0] [] [], .asm (.x 0) false, .db 0 (.eqs) [.l 0 0, .l 0 1, .l 0 2, .l 0 3, .l 0 4, .c 0, .c 0, .c 0, .c 0, .c 0] [] []], 0, 2, 4, 0, [], []⟩
theorem ckNN_run : runOk (body tabB 2 40) (⟨[⟨[.ptr 1 0, .ptr 2 0], false⟩, ⟨limbs 0 ++ limbs 1, false⟩, ⟨limbs 2 ++ limbs 3, false⟩], [], 0, 0, 4, 0, [false, false], []⟩) ([.slice 0 0 2 2]) (.tuple []) ckNN_ms := ⟨by kernel_rfl, by kernel_rfl, by kernel_rfl, by kernel_rfl⟩
def ckTN_ms : Ms := ⟨[⟨[.ptr 1 0, .ptr 2 0], false⟩, ⟨[.int .u64 (.l 0 0), .int .u64 (.l 0 1), .int .u64 (.l 0 2), .int .u64 (.l 0 3), .int .u64 (.l 0 4), .int .u64 (.l 1 0), .int .u64 (.l 1 1), .int .u64 (.l 1 2), .int .u64 (.l 1 3), .int .u64 (.l 1 4)], false⟩, ⟨[.int .u64 (.l 2 0), .int .u64 (.l 2 1), .int .u64 (.l 2 2), .int .u64 (.l 2 3), .int .u64 (.l 2 4), .int .u64 (.l 3 0), .int .u64 (.l 3 1), .int .u64 (.l 3 2), .int .u64 (.l 3 3), .int .u64 (.l 3 4)], false⟩], [.asm (.x 2) false, .db 2 (.eqs) [.l 2 0, .l 2 1, .l 2 2, .l 2 3, .l 2 4, .c 0, .c 0, .c 0, .c 0, .c 0] [] [], .asm (.x 1) false, .db 1 (.eqs) [.l 1 0, .l 1 1, .l 1 2, .l 1 3, .l 1 4, .c 0, .c 0, .c 0, .c 0, .c 0] [] [], .asm (.x 0) true, .db 0 (.eqs) [.l 0 0, .l 0 1, .l 0 2, .l 0 3, .l 0 4, .c 0, .c 0, .c 0, .c 0, .c 0] [] []], 0, 3, 4, 0, [], []⟩
theorem ckTN_run : runOk (body tabB 2 40) (⟨[⟨[.ptr 1 0, .ptr 2 0], false⟩, ⟨limbs 0 ++ limbs 1, false⟩, ⟨limbs 2 ++ limbs 3, false⟩], [], 0, 0, 4, 0, [true, false, false], []⟩) ([.slice 0 0 2 2]) (.tuple []) ckTN_ms := ⟨by kernel_rfl, by kernel_rfl, by kernel_rfl, by kernel_rfl⟩
def ckNT_ms : Ms := ⟨[⟨[.ptr 1 0, .ptr 2 0], false⟩, ⟨[.int .u64 (.l 0 0), .int .u64 (.l 0 1), .int .u64 (.l 0 2), .int .u64 (.l 0 3), .int .u64 (.l 0 4), .int .u64 (.l 1 0), .int .u64 (.l 1 1), .int .u64 (.l 1 2), .int .u64 (.l 1 3), .int .u64 (.l 1 4)], false⟩, ⟨[.int .u64 (.l 2 0), .int .u64 (.l 2 1), .int .u64 (.l 2 2), .int .u64 (.l 2 3), .int .u64 (.l 2 4), .int .u64 (.l 3 0), .int .u64 (.l 3 1), .int .u64 (.l 3 2), .int .u64 (.l 3 3), .int .u64 (.l 3 4)], false⟩], [.asm (.x 2) false, .db 2 (.eqs) [.l 3 0, .l 3 1, .l 3 2, .l 3 3, .l 3 4, .c 0, .c 0, .c 0, .c 0, .c 0] [] [], .asm (.x 1) true, .db 1 (.eqs) [.l 2 0, .l 2 1, .l 2 2, .l 2 3, .l 2 4, .c 0, .c 0, .c 0, .c 0, .c 0] [] [], .asm (.x 0) false, .db 0 (.eqs) [.l 0 0, .l 0 1, .l 0 2, .l 0 3, .l 0 4, .c 0, .c 0, .c 0, .c 0, .c 0] [] []], 0, 3, 4, 0, [], []⟩
theorem ckNT_run : runOk (body tabB 2 40) (⟨[⟨[.ptr 1 0, .ptr 2 0], false⟩, ⟨limbs 0 ++ limbs 1, false⟩, ⟨limbs 2 ++ limbs 3, false⟩], [], 0, 0, 4, 0, [false, true, false], []⟩) ([.slice 0 0 2 2]) (.tuple []) ckNT_ms := ⟨by kernel_rfl, by kernel_rfl, by kernel_rfl, by kernel_rfl⟩
def ckTT_ms : Ms := ⟨[⟨[.ptr 1 0, .ptr 2 0], false⟩, ⟨[.int .u64 (.l 0 0), .int .u64 (.l 0 1), .int .u64 (.l 0 2), .int .u64 (.l 0 3), .int .u64 (.l 0 4), .int .u64 (.l 1 0), .int .u64 (.l 1 1), .int .u64 (.l 1 2), .int .u64 (.l 1 3), .int .u64 (.l 1 4)], false⟩, ⟨[.int .u64 (.l 2 0), .int .u64 (.l 2 1), .int .u64 (.l 2 2), .int .u64 (.l 2 3), .int .u64 (.l 2 4), .int .u64 (.l 3 0), .int .u64 (.l 3 1), .int .u64 (.l 3 2), .int .u64 (.l 3 3), .int .u64 (.l 3 4)], false⟩], [.asm (.x 3) false, .db 3 (.eqs) [.l 3 0, .l 3 1, .l 3 2, .l 3 3, .l 3 4, .c 0, .c 0, .c 0, .c 0, .c 0] [] [], .asm (.x 2) true, .db 2 (.eqs) [.l 2 0, .l 2 1, .l 2 2, .l 2 3, .l 2 4, .c 0, .c 0, .c 0, .c 0, .c 0] [] [], .asm (.x 1) false, .db 1 (.eqs) [.l 1 0, .l 1 1, .l 1 2, .l 1 3, .l 1 4, .c 0, .c 0, .c 0, .c 0, .c 0] [] [], .asm (.x 0) true, .db 0 (.eqs) [.l 0 0, .l 0 1, .l 0 2, .l 0 3, .l 0 4, .c 0, .c 0, .c 0, .c 0, .c 0] [] []], 0, 4, 4, 0, [], []⟩
theorem ckTT_run : runOk (body tabB 2 40) (⟨[⟨[.ptr 1 0, .ptr 2 0], false⟩, ⟨limbs 0 ++ limbs 1, false⟩, ⟨limbs 2 ++ limbs 3, false⟩], [], 0, 0, 4, 0, [true, false, true, false], []⟩) ([.slice 0 0 2 2]) (.tuple []) ckTT_ms := ⟨by kernel_rfl, by kernel_rfl, by kernel_rfl, by kernel_rfl⟩
theorem defs_get {ρ : Env} : ∀ {l : List Ent} {j : Nat} {e : Ent}, Defs ρ l → l[j]? = some e → e.def ρ
  | [], j, e, _, h => by simp at h
  | x :: l, 0, e, hd, h => by
    simp only [List.getElem?_cons_zero, Option.some.injEq] at h
    subst h
    exact hd.1
  | x :: l, j + 1, e, hd, h => defs_get hd.2 (by simpa using h)
def Ck1C (P : Program) (f : FuncId) : Prop := ∀ (w : World) (q p : Nat × Nat) (X Y : Elt) (c : Nat), 1 ≤ c → w.cell? ⟨q.1, q.2, none⟩ = some (ptrV p) → Rd w p X → Rd w (p.1, p.2 + 5) Y → Apart 1 10 q p → ¬ (X.fe = 0 ∧ Y.fe = 0) →
  Invokes P f #[sliceV q 1 c] w fun r w' => r = .tuple #[] ∧ Fr (fun _ _ => False) w w'
theorem ck1_c : Ck1C Tryd.prog 40 := by
  intro w q p X Y c hc hq hX hY hap hne
  have hm : MRep (envX [X, Y]) (fun _ _ => False) w (adrL [q, p]) [⟨[.ptr 1 0], false⟩, ⟨limbs 0 ++ limbs 1, false⟩] w := by
    refine mrep_ptr rfl (fun k p' ch k1 k2 => ?_) (fun k k' p1 p2 ch ch' hlt h1 h2 h3 h4 => ?_)
    · match k with
      | 0 =>
        obtain rfl := Option.some.inj k1
        obtain rfl := Option.some.inj k2
        refine ⟨rfl, cell_lt hq, fun j x hx => ?_⟩
        match j with
        | 0 =>
          simp only [List.getElem?_cons_zero, Option.some.injEq] at hx
          subst hx
          refine ⟨_, hq, ?_⟩
          simp only [VRel]
          exact ⟨p.1, p.2, rfl, rfl⟩
        | j + 1 => simp at hx
      | 1 =>
        obtain rfl := Option.some.inj k1
        obtain rfl := Option.some.inj k2
        obtain ⟨h1, h2⟩ := lies_two (ρ := envX [X, Y]) (α := adrL [q, p]) (a := 0) (b := 1) hX hY
        exact ⟨rfl, h1, h2⟩
      | k + 2 => simp at k1
    · have h5 := (List.getElem?_eq_some_iff.1 h2).1
      simp only [List.length_cons, List.length_nil] at h5
      have e1 : k = 0 := by omega
      have e2 : k' = 1 := by omega
      subst e1 e2
      obtain rfl := Option.some.inj h1
      obtain rfl := Option.some.inj h2
      obtain rfl := Option.some.inj h3
      obtain rfl := Option.some.inj h4
      exact hap
  have hv : VRels (envX [X, Y]) (adrL [q, p]) [.slice 0 0 1 1] [sliceV q 1 c] := by
    simp only [VRels, VRel]
    exact ⟨_, _, rfl, ⟨q.1, q.2, c, rfl, hc, rfl⟩, rfl⟩
  cases h0 : zB X with
  | true =>
    have h1 : zB Y = false := by
      cases hz : zB Y with
      | false => rfl
      | true => exact absurd ⟨zB_fe h0, zB_fe hz⟩ hne
    refine (run_calls (body_ok tabB_ok _ _) ckT_run hm (fun g c hgc => by simp at hgc) hv fun ρ' ha hd => by
      have b0 : ρ'.b 0 = true := by rw [lz (defs_get hd (j := 3) (e := .db 0 (.eqs) [.l 0 0, .l 0 1, .l 0 2, .l 0 3, .l 0 4, .c 0, .c 0, .c 0, .c 0, .c 0] [] []) (by kernel_rfl)), show ρ'.e 0 = X from ha.e 0 (by decide)]; exact h0
      have b1 : ρ'.b 1 = false := by rw [lz (defs_get hd (j := 1) (e := .db 1 (.eqs) [.l 1 0, .l 1 1, .l 1 2, .l 1 3, .l 1 4, .c 0, .c 0, .c 0, .c 0, .c 0] [] []) (by kernel_rfl)), show ρ'.e 1 = Y from ha.e 1 (by decide)]; exact h1
      simp only [ckT_ms, Asms, Ent.asn, Sb.val, b0, b1, and_true]).mono ?_
    rintro r w' ⟨ρ', α', ha, hd, hext, hret, hm'⟩
    simp only [VRel, VRels] at hret
    obtain ⟨us, rfl, rfl⟩ := hret
    exact ⟨rfl, hm'.fr⟩
  | false =>
    refine (run_calls (body_ok tabB_ok _ _) ckN_run hm (fun g c hgc => by simp at hgc) hv fun ρ' ha hd => by
      have b0 : ρ'.b 0 = false := by rw [lz (defs_get hd (j := 1) (e := .db 0 (.eqs) [.l 0 0, .l 0 1, .l 0 2, .l 0 3, .l 0 4, .c 0, .c 0, .c 0, .c 0, .c 0] [] []) (by kernel_rfl)), show ρ'.e 0 = X from ha.e 0 (by decide)]; exact h0
      simp only [ckN_ms, Asms, Ent.asn, Sb.val, b0, and_true]).mono ?_
    rintro r w' ⟨ρ', α', ha, hd, hext, hret, hm'⟩
    simp only [VRel, VRels] at hret
    obtain ⟨us, rfl, rfl⟩ := hret
    exact ⟨rfl, hm'.fr⟩
def Ck2C (P : Program) (f : FuncId) : Prop := ∀ (w : World) (q p p2 : Nat × Nat) (X Y X2 Y2 : Elt) (c : Nat), 2 ≤ c → w.cell? ⟨q.1, q.2, none⟩ = some (ptrV p) → w.cell? ⟨q.1, q.2 + 1, none⟩ = some (ptrV p2) → Rd w p X → Rd w (p.1, p.2 + 5) Y → Rd w p2 X2 → Rd w (p2.1, p2.2 + 5) Y2 →
  Apart 2 10 q p → Apart 2 10 q p2 → Apart 10 10 p p2 → ¬ (X.fe = 0 ∧ Y.fe = 0) → ¬ (X2.fe = 0 ∧ Y2.fe = 0) → Invokes P f #[sliceV q 2 c] w fun r w' => r = .tuple #[] ∧ Fr (fun _ _ => False) w w'
theorem ck2_c : Ck2C Tryd.prog 40 := by
  intro w q p p2 X Y X2 Y2 c hc hq hq2 hX hY hX2 hY2 hap1 hap2 hap3 hne hne2
  have hm : MRep (envX [X, Y, X2, Y2]) (fun _ _ => False) w (adrL [q, p, p2]) [⟨[.ptr 1 0, .ptr 2 0], false⟩, ⟨limbs 0 ++ limbs 1, false⟩, ⟨limbs 2 ++ limbs 3, false⟩] w := by
    refine mrep_ptr rfl (fun k p' ch k1 k2 => ?_) (fun k k' p1 p2' ch ch' hlt h1 h2 h3 h4 => ?_)
    · match k with
      | 0 =>
        obtain rfl := Option.some.inj k1
        obtain rfl := Option.some.inj k2
        refine ⟨rfl, cell_lt hq, fun j x hx => ?_⟩
        match j with
        | 0 =>
          simp only [List.getElem?_cons_zero, Option.some.injEq] at hx
          subst hx
          refine ⟨_, hq, ?_⟩
          simp only [VRel]
          exact ⟨p.1, p.2, rfl, rfl⟩
        | 1 =>
          simp only [List.getElem?_cons_succ, List.getElem?_cons_zero, Option.some.injEq] at hx
          subst hx
          refine ⟨_, hq2, ?_⟩
          simp only [VRel]
          exact ⟨p2.1, p2.2, rfl, rfl⟩
        | j + 2 => simp at hx
      | 1 =>
        obtain rfl := Option.some.inj k1
        obtain rfl := Option.some.inj k2
        obtain ⟨h1, h2⟩ := lies_two (ρ := envX [X, Y, X2, Y2]) (α := adrL [q, p, p2]) (a := 0) (b := 1) hX hY
        exact ⟨rfl, h1, h2⟩
      | 2 =>
        obtain rfl := Option.some.inj k1
        obtain rfl := Option.some.inj k2
        obtain ⟨h1, h2⟩ := lies_two (ρ := envX [X, Y, X2, Y2]) (α := adrL [q, p, p2]) (a := 2) (b := 3) hX2 hY2
        exact ⟨rfl, h1, h2⟩
      | k + 3 => simp at k1
    · have h5 := (List.getElem?_eq_some_iff.1 h2).1
      simp only [List.length_cons, List.length_nil] at h5
      have e : (k = 0 ∧ k' = 1) ∨ (k = 0 ∧ k' = 2) ∨ (k = 1 ∧ k' = 2) := by omega
      rcases e with ⟨rfl, rfl⟩ | ⟨rfl, rfl⟩ | ⟨rfl, rfl⟩
      · obtain rfl := Option.some.inj h1
        obtain rfl := Option.some.inj h2
        obtain rfl := Option.some.inj h3
        obtain rfl := Option.some.inj h4
        exact hap1
      · obtain rfl := Option.some.inj h1
        obtain rfl := Option.some.inj h2
        obtain rfl := Option.some.inj h3
        obtain rfl := Option.some.inj h4
        exact hap2
      · obtain rfl := Option.some.inj h1
        obtain rfl := Option.some.inj h2
        obtain rfl := Option.some.inj h3
        obtain rfl := Option.some.inj h4
        exact hap3
  have hv : VRels (envX [X, Y, X2, Y2]) (adrL [q, p, p2]) [.slice 0 0 2 2] [sliceV q 2 c] := by
    simp only [VRels, VRel]
    exact ⟨_, _, rfl, ⟨q.1, q.2, c, rfl, hc, rfl⟩, rfl⟩
  have other : ∀ {A B : Elt}, ¬ (A.fe = 0 ∧ B.fe = 0) → zB A = true → zB B = false := fun {A B} hn ha => by
    cases hz : zB B with
    | false => rfl
    | true => exact absurd ⟨zB_fe ha, zB_fe hz⟩ hn
  cases h0 : zB X with
  | true =>
    have h1 := other hne h0
    cases h2 : zB X2 with
    | true =>
      have h3 := other hne2 h2
      refine (run_calls (body_ok tabB_ok _ _) ckTT_run hm (fun g c hgc => by simp at hgc) hv fun ρ' ha hd => by
        have b0 : ρ'.b 0 = true := by rw [lz (defs_get hd (j := 7) (e := .db 0 (.eqs) [.l 0 0, .l 0 1, .l 0 2, .l 0 3, .l 0 4, .c 0, .c 0, .c 0, .c 0, .c 0] [] []) (by kernel_rfl)), show ρ'.e 0 = X from ha.e 0 (by decide)]; exact h0
        have b1 : ρ'.b 1 = false := by rw [lz (defs_get hd (j := 5) (e := .db 1 (.eqs) [.l 1 0, .l 1 1, .l 1 2, .l 1 3, .l 1 4, .c 0, .c 0, .c 0, .c 0, .c 0] [] []) (by kernel_rfl)), show ρ'.e 1 = Y from ha.e 1 (by decide)]; exact h1
        have b2 : ρ'.b 2 = true := by rw [lz (defs_get hd (j := 3) (e := .db 2 (.eqs) [.l 2 0, .l 2 1, .l 2 2, .l 2 3, .l 2 4, .c 0, .c 0, .c 0, .c 0, .c 0] [] []) (by kernel_rfl)), show ρ'.e 2 = X2 from ha.e 2 (by decide)]; exact h2
        have b3 : ρ'.b 3 = false := by rw [lz (defs_get hd (j := 1) (e := .db 3 (.eqs) [.l 3 0, .l 3 1, .l 3 2, .l 3 3, .l 3 4, .c 0, .c 0, .c 0, .c 0, .c 0] [] []) (by kernel_rfl)), show ρ'.e 3 = Y2 from ha.e 3 (by decide)]; exact h3
        simp only [ckTT_ms, Asms, Ent.asn, Sb.val, b0, b1, b2, b3, and_true]).mono ?_
      rintro r w' ⟨ρ', α', ha, hd, hext, hret, hm'⟩
      simp only [VRel, VRels] at hret
      obtain ⟨us, rfl, rfl⟩ := hret
      exact ⟨rfl, hm'.fr⟩
    | false =>
      refine (run_calls (body_ok tabB_ok _ _) ckTN_run hm (fun g c hgc => by simp at hgc) hv fun ρ' ha hd => by
        have b0 : ρ'.b 0 = true := by rw [lz (defs_get hd (j := 5) (e := .db 0 (.eqs) [.l 0 0, .l 0 1, .l 0 2, .l 0 3, .l 0 4, .c 0, .c 0, .c 0, .c 0, .c 0] [] []) (by kernel_rfl)), show ρ'.e 0 = X from ha.e 0 (by decide)]; exact h0
        have b1 : ρ'.b 1 = false := by rw [lz (defs_get hd (j := 3) (e := .db 1 (.eqs) [.l 1 0, .l 1 1, .l 1 2, .l 1 3, .l 1 4, .c 0, .c 0, .c 0, .c 0, .c 0] [] []) (by kernel_rfl)), show ρ'.e 1 = Y from ha.e 1 (by decide)]; exact h1
        have b2 : ρ'.b 2 = false := by rw [lz (defs_get hd (j := 1) (e := .db 2 (.eqs) [.l 2 0, .l 2 1, .l 2 2, .l 2 3, .l 2 4, .c 0, .c 0, .c 0, .c 0, .c 0] [] []) (by kernel_rfl)), show ρ'.e 2 = X2 from ha.e 2 (by decide)]; exact h2
        simp only [ckTN_ms, Asms, Ent.asn, Sb.val, b0, b1, b2, and_true]).mono ?_
      rintro r w' ⟨ρ', α', ha, hd, hext, hret, hm'⟩
      simp only [VRel, VRels] at hret
      obtain ⟨us, rfl, rfl⟩ := hret
      exact ⟨rfl, hm'.fr⟩
  | false =>
    cases h2 : zB X2 with
    | true =>
      have h3 := other hne2 h2
      refine (run_calls (body_ok tabB_ok _ _) ckNT_run hm (fun g c hgc => by simp at hgc) hv fun ρ' ha hd => by
        have b0 : ρ'.b 0 = false := by rw [lz (defs_get hd (j := 5) (e := .db 0 (.eqs) [.l 0 0, .l 0 1, .l 0 2, .l 0 3, .l 0 4, .c 0, .c 0, .c 0, .c 0, .c 0] [] []) (by kernel_rfl)), show ρ'.e 0 = X from ha.e 0 (by decide)]; exact h0
        have b1 : ρ'.b 1 = true := by rw [lz (defs_get hd (j := 3) (e := .db 1 (.eqs) [.l 2 0, .l 2 1, .l 2 2, .l 2 3, .l 2 4, .c 0, .c 0, .c 0, .c 0, .c 0] [] []) (by kernel_rfl)), show ρ'.e 2 = X2 from ha.e 2 (by decide)]; exact h2
        have b2 : ρ'.b 2 = false := by rw [lz (defs_get hd (j := 1) (e := .db 2 (.eqs) [.l 3 0, .l 3 1, .l 3 2, .l 3 3, .l 3 4, .c 0, .c 0, .c 0, .c 0, .c 0] [] []) (by kernel_rfl)), show ρ'.e 3 = Y2 from ha.e 3 (by decide)]; exact h3
        simp only [ckNT_ms, Asms, Ent.asn, Sb.val, b0, b1, b2, and_true]).mono ?_
      rintro r w' ⟨ρ', α', ha, hd, hext, hret, hm'⟩
      simp only [VRel, VRels] at hret
      obtain ⟨us, rfl, rfl⟩ := hret
      exact ⟨rfl, hm'.fr⟩
    | false =>
      refine (run_calls (body_ok tabB_ok _ _) ckNN_run hm (fun g c hgc => by simp at hgc) hv fun ρ' ha hd => by
        have b0 : ρ'.b 0 = false := by rw [lz (defs_get hd (j := 3) (e := .db 0 (.eqs) [.l 0 0, .l 0 1, .l 0 2, .l 0 3, .l 0 4, .c 0, .c 0, .c 0, .c 0, .c 0] [] []) (by kernel_rfl)), show ρ'.e 0 = X from ha.e 0 (by decide)]; exact h0
        have b1 : ρ'.b 1 = false := by rw [lz (defs_get hd (j := 1) (e := .db 1 (.eqs) [.l 2 0, .l 2 1, .l 2 2, .l 2 3, .l 2 4, .c 0, .c 0, .c 0, .c 0, .c 0] [] []) (by kernel_rfl)), show ρ'.e 2 = X2 from ha.e 2 (by decide)]; exact h2
        simp only [ckNN_ms, Asms, Ent.asn, Sb.val, b0, b1, and_true]).mono ?_
      rintro r w' ⟨ρ', α', ha, hd, hext, hret, hm'⟩
      simp only [VRel, VRels] at hret
      obtain ⟨us, rfl, rfl⟩ := hret
      exact ⟨rfl, hm'.fr⟩
def ckRule : Rule := fun ms args => match args with
  | [.slice c o 1 m] => match ms.mem[c]? with
    | some ch => match ch.cells[o]? with
      | some (.ptr c1 o1) => bif !(Nat.beq c c1) && Nat.ble 1 m then (match ini1 ms (c1, o1) with
        | some ms1 => some (.tuple [], ms1)
        | none => none) else none
      | _ => none
    | none => none
  | [.slice c o 2 m] => match ms.mem[c]? with
    | some ch => match ch.cells[o]?, ch.cells[o + 1]? with
      | some (.ptr c1 o1), some (.ptr c2 o2) => bif !(Nat.beq c c1) && !(Nat.beq c c2) && !(Nat.beq c1 c2) && Nat.ble 2 m then (match ini1 ms (c1, o1) with
        | some ms1 => match ini1 ms1 (c2, o2) with
          | some ms2 => some (.tuple [], ms2)
          | none => none
        | none => none) else none
      | _, _ => none
    | none => none
  | _ => none
theorem beq_ne {a b : Nat} (h : (!(Nat.beq a b)) = true) : a ≠ b := fun e => by subst e; simp at h
theorem two_at {ρ : Env} {S : Nat → Nat → Prop} {w0 : World} {α : Adr} {M : List Chunk} {w : World} (hm : MRep ρ S w0 α M w) {c o x y b s : Nat} (hx : readE M (c, o) = some x) (hy : readE M (c, o + 5) = some y) (ha : α c = some (b, s)) :
    Rd w (b, s + o) (ρ.e x) ∧ Rd w (b, s + o + 5) (ρ.e y) ∧ ∃ ch, M[c]? = some ch ∧ o + 10 ≤ ch.cells.length := by
  obtain ⟨ch, hc, hl⟩ := readE_len hy
  refine ⟨readE_ok (p := (c, o)) hm hx ha, ?_, ch, hc, by simp only at hl; omega⟩
  have := readE_ok (p := (c, o + 5)) hm hy ha
  rwa [show s + o + 5 = s + (o + 5) by omega]
theorem ckRule_ok {P : Program} {f : FuncId} (h1 : Ck1C P f) (h2 : Ck2C P f) : RuleOk P f ckRule := by
  intro ρ ms ms' args ret hr hs
  unfold ckRule at hr
  split at hr
  · rename_i c o m
    split at hr
    · rename_i ch hc
      split at hr
      · rename_i c1 o1 ho
        cases hb : (!(Nat.beq c c1) && Nat.ble 1 m) with
        | false => simp only [hb, cond_false, reduceCtorEq] at hr
        | true =>
          simp only [hb, cond_true] at hr
          simp only [Bool.and_eq_true] at hb
          have hne := beq_ne hb.1
          have hm1 := Nat.le_of_ble_eq_true hb.2
          split at hr
          · rename_i ms1 hi
            simp only [Option.some.injEq, Prod.mk.injEq] at hr
            obtain ⟨rfl, rfl⟩ := hr
            obtain ⟨g, em, x, y, hx, hy, hn⟩ := ini1_ok hi hs
            refine ⟨g, fun S w0 α w vs hm hg hv => ?_⟩
            simp only [VRels, VRel] at hv
            obtain ⟨u1, t1, rfl, ⟨b, s, cap, ha, hcap, rfl⟩, rfl⟩ := hv
            obtain ⟨u, hu, hru⟩ := hm.cell c ch b s hc ha o _ ho
            simp only [VRel] at hru
            obtain ⟨b1, s1, ha1, rfl⟩ := hru
            obtain ⟨rx, ry, ch1, hc1, hl1⟩ := two_at hm hx hy ha1
            have hdis := hm.dis c c1 ch ch1 b s b1 s1 hne hc hc1 ha ha1
            have hlo := (List.getElem?_eq_some_iff.1 ho).1
            refine (h1 w (b, s + o) (b1, s1 + o1) (ρ.e x) (ρ.e y) cap (by omega) hu rx ry (by simp only [Apart]; omega) hn).mono ?_
            rintro r w' ⟨rfl, hf⟩
            refine ⟨α, Ext.refl _ _, by simp only [VRel, VRels]; exact ⟨[], rfl, rfl⟩, ?_⟩
            rw [em]; exact hm.grow hf
          · cases hr
      · cases hr
    · cases hr
  · rename_i c o m
    split at hr
    · rename_i ch hc
      split at hr
      · rename_i c1 o1 c2 o2 ho ho2
        cases hb : (!(Nat.beq c c1) && !(Nat.beq c c2) && !(Nat.beq c1 c2) && Nat.ble 2 m) with
        | false => simp only [hb, cond_false, reduceCtorEq] at hr
        | true =>
          simp only [hb, cond_true] at hr
          simp only [Bool.and_eq_true] at hb
          have hne := beq_ne hb.1.1.1
          have hne2 := beq_ne hb.1.1.2
          have hne3 := beq_ne hb.1.2
          have hm2 := Nat.le_of_ble_eq_true hb.2
          split at hr
          · rename_i ms1 hi
            split at hr
            · rename_i ms2 hi2
              simp only [Option.some.injEq, Prod.mk.injEq] at hr
              obtain ⟨rfl, rfl⟩ := hr
              obtain ⟨g2, em2, x2, y2, hx2, hy2, hn2⟩ := ini1_ok hi2 hs
              obtain ⟨g, em, x, y, hx, hy, hn⟩ := ini1_ok hi g2.sat
              rw [em] at hx2 hy2
              refine ⟨g.trans g2, fun S w0 α w vs hm hg hv => ?_⟩
              simp only [VRels, VRel] at hv
              obtain ⟨u1, t1, rfl, ⟨b, s, cap, ha, hcap, rfl⟩, rfl⟩ := hv
              obtain ⟨u, hu, hru⟩ := hm.cell c ch b s hc ha o _ ho
              obtain ⟨u2, hu2, hru2⟩ := hm.cell c ch b s hc ha (o + 1) _ ho2
              simp only [VRel] at hru hru2
              obtain ⟨b1, s1, ha1, rfl⟩ := hru
              obtain ⟨b2, s2, ha2, rfl⟩ := hru2
              obtain ⟨rx, ry, ch1, hc1, hl1⟩ := two_at hm hx hy ha1
              obtain ⟨rx2, ry2, ch2, hc2, hl2⟩ := two_at hm hx2 hy2 ha2
              have hdis := hm.dis c c1 ch ch1 b s b1 s1 hne hc hc1 ha ha1
              have hdis2 := hm.dis c c2 ch ch2 b s b2 s2 hne2 hc hc2 ha ha2
              have hdis3 := hm.dis c1 c2 ch1 ch2 b1 s1 b2 s2 hne3 hc1 hc2 ha1 ha2
              have hlo := (List.getElem?_eq_some_iff.1 ho2).1
              refine (h2 w (b, s + o) (b1, s1 + o1) (b2, s2 + o2) (ρ.e x) (ρ.e y) (ρ.e x2) (ρ.e y2) cap (by omega) hu (by rw [Nat.add_assoc]; exact hu2) rx ry rx2 ry2 (by simp only [Apart]; omega) (by simp only [Apart]; omega) (by simp only [Apart]; omega) hn hn2).mono ?_
              rintro r w' ⟨rfl, hf⟩
              refine ⟨α, Ext.refl _ _, by simp only [VRel, VRels]; exact ⟨[], rfl, rfl⟩, ?_⟩
              rw [em2, em]; exact hm.grow hf
            · cases hr
          · cases hr
      · cases hr
    · cases hr
  · cases hr
end Go.Proofs.YtolmkbojlpplfaaDoor
