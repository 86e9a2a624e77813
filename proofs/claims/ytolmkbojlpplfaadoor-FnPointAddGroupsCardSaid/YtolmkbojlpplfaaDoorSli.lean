/- slice of the laws: 32 bytes as a slice of their own. No condition. -/
import Derived.Test.YtolmkbojlpplfaaDoorSb
import Derived.Test.YtolmkbojlpplfaaDoorBit
import Derived.Laws.AppendOwn
import Derived.Deep.LoopGhost
namespace Go.Proofs.YtolmkbojlpplfaaDoor
open Go Go.RowKit
set_option linter.unusedVariables false
set_option linter.unusedSimpArgs false

theorem info_u8 : (Tryd.prog.info? 5).map (fun i => (i.zero, i.size, i.bytes)) = some (some (.int .u8 0), 1, 1) := by kernel_rfl
def octV (n k : Nat) : List Value := (octs n 0 k).map (Value.int .u8)
theorem octs_succ (n : Nat) : ∀ k i, octs n i (k + 1) = octs n i k ++ [((octet n (i + k) : Nat) : Int)]
  | 0, i => by simp [octs]
  | k + 1, i => by
    rw [octs, octs_succ n k (i + 1), octs, List.cons_append, show i + 1 + k = i + (k + 1) by omega]
theorem octV_succ (n k : Nat) : octV n (k + 1) = octV n k ++ [.int .u8 ((octet n k : Nat) : Int)] := by
  unfold octV; rw [octs_succ, List.map_append, Nat.zero_add]; rfl
theorem octV_len (n k : Nat) : (octV n k).length = k := by unfold octV; rw [List.length_map, octs_len]
theorem octV_get (n k j : Nat) (h : j < k) : (octV n k)[j]? = some (.int .u8 ((octet n j : Nat) : Int)) := by
  have : ∀ (k i j : Nat), j < k → (octs n i k)[j]? = some ((octet n (i + j) : Nat) : Int) := by
    intro k
    induction k with
    | zero => intro i j hj; omega
    | succ k ih =>
      intro i j hj
      cases j with
      | zero => simp [octs]
      | succ j => simp only [octs, List.getElem?_cons_succ]; rw [ih (i + 1) j (by omega), show i + 1 + j = i + (j + 1) by omega]
  unfold octV
  rw [List.getElem?_map, this k 0 j h, Nat.zero_add]; rfl
theorem one_cell (wr : World) (x : Value) : ∀ j u, [x][j]? = some u → (wr.alloc (.cells #[x] 5)).cell? ((⟨wr.heap.size, 0, none⟩ : Addr).add j) = some u := by
  intro j u hj
  match j, hj with
  | 0, hj => simp at hj; subst hj; simp [Addr.add]
  | j + 1, hj => simp at hj
theorem slice_step {n k : Nat} {w wr w3 : World} {u3 v' : Value} (hs : octV n (k + 1) = octV n k ++ [.int .u8 ((octet n k : Nat) : Int)]) (hsz : w.heap.size < wr.heap.size) (hcells : ∀ j : Nat, j < 32 → wr.cell? ⟨w.heap.size, j, none⟩ = some (.int .u8 ((octet n j : Nat) : Int)))
    (hown : wr.ownsRow (w.heap.size + 1) 5 1 u3 k (octV n k)) (hbel : Below w.heap.size w wr) {o : Obj} (hown' : w3.ownsRow (w.heap.size + 1) 5 1 v' (k + 1) (octV n k ++ [.int .u8 ((octet n k : Nat) : Int)])) (hgrow : (wr.alloc o).grownBy w3 u3.ownBlock) :
    Aside (w3.ownsRow (w.heap.size + 1) 5 1 v' (k + 1) (octV n (k + 1)) ∧ (∀ j : Nat, j < 32 → w3.cell? ⟨w.heap.size, j, none⟩ = some (.int .u8 ((octet n j : Nat) : Int))) ∧ Below w.heap.size w w3) := by
  refine ⟨by rw [hs]; exact hown', fun j hj => ?_, Below.grown (hbel.alloc (by omega) _) hgrow (by rw [World.size_alloc]; omega) (fun j hj => by have := (hown.lt _ hj).1; omega)⟩
  have hb := hgrow.block w.heap.size (by rw [World.size_alloc]; omega) (fun h => by have := (hown.lt _ h.symm).1; omega)
  rw [Below.heap_alloc _ _ _ hsz] at hb
  have h0 := hcells j hj
  unfold World.cell? at h0 ⊢
  simp only [hb]
  exact h0
set_option maxRecDepth 1000000 in
set_option maxHeartbeats 2000000 in
theorem slice_calls (n : Nat) (w : World) : Calls Tryd.prog 14 #[bytesV n] w fun e w' => ∃ v, e = .returned v ∧ w'.ownsRow (w.heap.size + 1) 5 1 v 32 (octV n 32) ∧ Below w.heap.size w w' := by
  obtain ⟨i0, hi, hz0, hz1, hz2⟩ := info_parts info_u8
  unfold bytesV
  have hbox : ∀ j, j < 32 → ((octV n 32).toArray)[j]? = some (.int .u8 ((octet n j : Nat) : Int)) := fun j hj => by rw [List.getElem?_toArray]; exact octV_get n 32 j hj
  change Calls Tryd.prog 14 #[.agg (octV n 32).toArray] w _
  generalize hcs : (octV n 32).toArray = cs at hbox ⊢
  go_enter Tryd.func14, Tryd.ntmps14
  go_wp2
  go_loopw [3, 4] (fun v i wr => ∃ k : Nat, k ≤ 32 ∧ i = .int .i64 (k : Int) ∧ wr.ownsRow (w.heap.size + 1) 5 1 v k (octV n k) ∧ (∀ j : Nat, j < 32 → wr.cell? ⟨w.heap.size, j, none⟩ = some (.int .u8 ((octet n j : Nat) : Int))) ∧ Below w.heap.size w wr) (fun _ i _ => 32 - (intOf i).toNat)
  case atStart =>
    refine ⟨0, by omega, rfl, ⟨rfl, .inr ⟨w.heap.size + 1, 0, #[], rfl, Nat.le_refl _, ?_, Nat.le_refl _, by decide, rfl, rfl⟩⟩, fun j hj => ?_, ((Below.refl _ _).alloc (Nat.le_refl _) _).alloc (by simp) _⟩
    · have := heap_alloc_new (w.alloc (.cells cs 22)) (.cells #[] 5)
      simpa using this
    · rw [World.cell?_alloc_lt _ _ ⟨w.heap.size, j, none⟩ (by simp)]
      have h1 := World.cell?_alloc_new w cs 22 j
      rw [hbox j hj] at h1
      exact h1
  case round =>
    obtain ⟨k, hk, rfl, hown, hcells, hbel⟩ := hrel
    by_cases hlt : k < 32
    · have hi1 : (k : Int) < 32 := by omega
      have hi0 : (0 : Int) ≤ (k : Int) := by omega
      have hc := hcells k hlt
      have hsz : w.heap.size < wr.heap.size := cell_lt hc
      have hs := octV_succ n k
      go_wp2_with (first
        | (at_builtin
           refine wpList_append_own _ rfl _ _ 29 rfl (w.heap.size + 1) 5 i0 (.int .u8 0) 1 1 Tryd.underlying29 hi hz0 hz1 hz2 rfl (by decide) _ _ _ rfl (hown.alloc _) ⟨wr.heap.size, 0, none⟩ 1 1 [.int .u8 ((octet n k : Nat) : Int)] rfl rfl (one_cell wr _) (fun x hx => by simp only [List.mem_cons, List.not_mem_nil, or_false] at hx; subst hx; rfl) (by unfold maxLen; omega) (by omega) (by rw [World.size_alloc]; omega) ?_
           intro v' w3 hown' hgrow hnil
           have X := slice_step hs hsz hcells hown hbel hown' hgrow
           clear hown' hgrow hnil))
      go_roundw
      case rel => exact ⟨k + 1, by omega, by go_num, X.out.1, X.out.2.1, X.out.2.2⟩
      case measure => simp [intOf]; omega
    · have hk32 : k = 32 := by omega
      subst hk32
      have hi1 : ¬ (((32 : Nat) : Int) < 32) := by omega
      go_wp2
      go_ret
      exact ⟨_, rfl, hown, hbel⟩
def SliC (P : Program) (f : FuncId) : Prop := ∀ (w : World) (n : Nat), Invokes P f #[bytesV n] w fun r w' => ∃ q c, r = sliceV q 32 c ∧ 32 ≤ c ∧ w.heap.size ≤ q.1 ∧ Own 32 w' q ∧ RoN 32 w' q n ∧ Fr (fun _ _ => False) w w'
theorem row_cells {w : World} {base : Nat} {e : TypeId} {v : Value} {xs : List Value} {L : Nat} (hL : 0 < L) (h : w.ownsRow base e 1 v L xs) : ∃ g c, v = sliceV (g, 0) L c ∧ L ≤ c ∧ base ≤ g ∧ ∀ j, j < L → w.cell? ⟨g, 0 + j, none⟩ = xs[j]? ∧ w.frozen? ⟨g, 0 + j, none⟩ = false := by
  obtain ⟨hlen, ⟨_, h0⟩ | ⟨g, cap, cur, rfl, hb, hg, hnc, _, hcs, htake⟩⟩ := h
  · omega
  · refine ⟨g, cap, rfl, hnc, hb, fun j hj => ⟨?_, ?_⟩⟩
    · rw [← htake, Nat.mul_one, List.getElem?_take_of_lt hj]
      unfold World.cell?
      simp only [hg, Nat.zero_add]
      simp
    · unfold World.frozen?
      simp only [hg]
      simp
theorem slice_c : SliC Tryd.prog 14 := by
  intro w n
  refine .inr ⟨goB_ok (by kernel_rfl) _ _, (slice_calls n w).mono ?_⟩
  rintro e w' ⟨v, rfl, hown, hbel⟩
  obtain ⟨g, c, rfl, hc, hb, hcell⟩ := row_cells (by decide) hown
  refine ⟨_, rfl, (g, 0), c, rfl, hc, by show w.heap.size ≤ g; omega, fun j hj => ?_, fun j hj => ?_, Fr.of_below hbel _⟩
  · exact ⟨⟨_, by rw [(hcell j hj).1, octV_get n 32 j hj]⟩, (hcell j hj).2⟩
  · show w'.cell? ⟨g, 0 + j, none⟩ = _
    rw [(hcell j hj).1, octV_get n 32 j hj]
def sliRule : Rule := fun ms args => match args with
  | [.agg l] => bif Nat.beq l.length 32 then (match asNum ms l with
    | some (n, ms1) => some (.slice ms1.mem.length 0 32 32, { ms1 with mem := ms1.mem ++ [⟨octsS n 0 32, true⟩] })
    | none => none) else none
  | _ => none
theorem sliRule_ok {P : Program} {f : FuncId} (h : SliC P f) : RuleOk P f sliRule := by
  intro ρ ms ms' args ret hr hs
  unfold sliRule at hr
  split at hr
  · rename_i l
    cases hl : Nat.beq l.length 32 with
    | false => simp only [hl, cond_false, reduceCtorEq] at hr
    | true =>
      have hl' := Nat.eq_of_beq_eq_true hl
      simp only [hl, cond_true] at hr
      split at hr
      · rename_i n ms1 hn
        simp only [Option.some.injEq, Prod.mk.injEq] at hr
        obtain ⟨rfl, rfl⟩ := hr
        obtain ⟨g, em, eg, ee, hv'⟩ := asNum_ok hn hs
        refine ⟨g.trans ⟨hs, rfl, by simp⟩, fun S w0 α w vs hm hg hv => ?_⟩
        simp only [VRels, VRel] at hv
        obtain ⟨u, us', rfl, ⟨zs, rfl, h1⟩, h2⟩ := hv
        subst h2
        have e1 := hv' h1
        rw [hl'] at e1
        subst e1
        refine (h w (ρ.n n)).mono ?_
        rintro r w' ⟨q, c, rfl, hc32, hq, hown, hro, hf⟩
        have hlt : q.1 < w'.heap.size := cell_lt (hro 0 (by omega))
        obtain ⟨hm', hext⟩ := hm.fresh hf (p := q) (cells := octsS n 0 32) hq hlt (by simpa [octsS_len] using hown) (fun j x hx => by
          obtain ⟨v, h1, h2⟩ := (lies_octs (ρ := ρ) (w := w') (p := q) (n := n) (L := 32) (by decide) hro).cell j x hx
          exact ⟨v, h1, h2 _⟩)
        rw [← em] at hm' hext
        refine ⟨_, by rw [← em]; exact hext, ?_, hm'⟩
        simp only [VRel, sliceV]
        exact ⟨q.1, q.2, c, by unfold Adr.put; simp, hc32, by simp⟩
      · cases hr
  · cases hr
end Go.Proofs.YtolmkbojlpplfaaDoor
