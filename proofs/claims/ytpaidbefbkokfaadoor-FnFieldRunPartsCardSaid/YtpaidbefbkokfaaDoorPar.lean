/- FnFieldRunParts: the walk. No condition. -/
import Derived.Test.YtpaidbefbkokfaaDoorAlk
import Derived.Tactics
import Derived.Tactics2
import Derived.WalkKit
import Derived.WalkSpells
import Derived.StillTactics
import Derived.Laws.Pointers
import Derived.Deep.RegionHeld3
import Derived.Deep.DrawnRows
import Derived.KernelRfl
import Derived.Lib.Hide
namespace Go.Proofs.YtpaidbefbkokfaaDoor
open Go Go.RowKit
set_option linter.unusedVariables false
set_option linter.unusedSimpArgs false
set_option maxRecDepth 100000
attribute [local go_sem ↓] Go.wp_at_zero Go.wp_at_succ

theorem calls_of {f : FuncId} (hG : Gf f = true) {args : Array Value} {W : World} {Post : Value → World → Prop} (h : Invokes Tryd.prog f args W Post) : Calls Tryd.prog f args W fun e w' => ∃ v, e = .returned v ∧ Post v w' := by
  rcases h with ⟨v, w', h1, h2⟩ | ⟨h1, h2⟩
  · rw [Gf_ok f hG] at h1; cases h1
  · exact h2
theorem VarsAt.mono {W : World} {H H' : Nat} {q0 q1 q2 : Nat × Nat} (h : VarsAt W H q0 q1 q2) (hH : H ≤ H') : VarsAt W H' q0 q1 q2 :=
  ⟨h.h0, h.h1, h.h2, h.nd, by have := h.lt; omega⟩
/-- What is known of a world that has grown out of W. -/
structure Out (W w : World) : Prop where
  b : Below W.heap.size W w
theorem Out.size {W w : World} (h : Out W w) : W.heap.size ≤ w.heap.size := h.b.size
theorem Out.drew {W w : World} (h : Out W w) : Out W w.drew := ⟨⟨h.b.os, h.b.tape, h.b.output, h.b.size, h.b.block⟩⟩
theorem Out.step {W w w' : World} (h : Out W w) (hb : Below w.heap.size w w') : Out W w' := ⟨h.b.trans (hb.mono h.size)⟩
theorem ByS.out {W w : World} {v : Value} {n : Nat} {N : Nat → Nat} (h : ByS W v n N) (ho : Out W w) : ByS w v n N := h.below ho.b
theorem OpS.out {W w : World} {v : Value} {L : Nat} {ops : Nat → Opr} (h : OpS W v L ops) (ho : Out W w) : OpS w v L ops := h.below ho.b
theorem VarsAt.out {W w : World} {q0 q1 q2 : Nat × Nat} (h : VarsAt W W.heap.size q0 q1 q2) (ho : Out W w) : VarsAt w w.heap.size q0 q1 q2 :=
  (h.fr (Fr.of_below ho.b fun _ _ => False) fun _ _ h => h.elim).mono ho.size
def ResR (n L : Nat) (N : Nat → Nat) (ops : Nat → Opr) (w : World) (e : Ending) (w' : World) : Prop :=
  ∃ a c, e = .returned (.slice a n c) ∧ Below w.heap.size w w' ∧ (ByS w' (.slice a n c) n fun t => (runG n ops (f0 n N) L t).val) ∧ ∀ g, (Value.slice a n c).ownBlock = some g → w.heap.size ≤ g ∧ g < w'.heap.size
theorem fr_calls {n L : Nat} {N : Nat → Nat} {ops : Nat → Opr} {w : World} {x y : Value} {q0 q1 q2 : Nat × Nat} (hn32 : n * 32 ≤ 140737488355328) (hL : inR .i64 ((L : Nat) : Int)) (hx : ByS w x n N) (hy : OpS w y L ops) (hv : VarsAt w w.heap.size q0 q1 q2) :
    Calls Tryd.prog 4 #[x, y] w (ResR n L N ops w) := by
  refine (calls_of (by kernel_rfl) (fieldRun_c hn32 hL hx hy hv)).mono ?_
  rintro e w' ⟨v, rfl, h1, h2, h3⟩
  have h2' := h2
  obtain ⟨a, c, rfl, _⟩ := h2'
  exact ⟨a, c, rfl, h1, h2, h3⟩
theorem al_calls {n : Nat} {N : Nat → Nat} {w : World} {x y : Value} (hn : inR .i64 ((n : Nat) : Int)) (hx : ByS w x n N) (hy : ByS w y n N) (hap : ∀ g, x.ownBlock = some g → y.ownBlock ≠ some g) :
    Calls Tryd.prog 5 #[x, y] w fun e w' => e = .returned (.bool true) ∧ Below w.heap.size w w' := by
  refine (calls_of (by kernel_rfl) (alike_c hn hx hy hap)).mono ?_
  rintro e w' ⟨v, rfl, rfl, h⟩
  exact ⟨rfl, h⟩
/-! ### the plain law -/
theorem runG_ext {n : Nat} {ops : Nat → Opr} {f g : Nat → F} (h : f = g) (L : Nat) : runG n ops f L = runG n ops g L := by rw [h]
theorem runG_add {n : Nat} {ops : Nat → Opr} {f : Nat → F} (k : Nat) : ∀ m, runG n ops f (k + m) = runG n (fun j => ops (k + j)) (runG n ops f k) m
  | 0 => rfl
  | m + 1 => by
    show (if (ops (k + m)).does n = true then stepG n (ops (k + m)) (runG n ops f (k + m)) else runG n ops f (k + m)) = _
    rw [runG_add k m]
    rfl
theorem runG_out {n : Nat} (hn : inR .i64 ((n : Nat) : Int)) {ops : Nat → Opr} {f : Nat → F} {i : Nat} (hi : n ≤ i) : ∀ m, (∀ j, j < m → (ops j).Fits) → runG n ops f m i = f i
  | 0, _ => rfl
  | m + 1, hf => by
    show (if (ops m).does n = true then stepG n (ops m) (runG n ops f m) else runG n ops f m) i = f i
    split
    · rename_i h
      rw [(stepG_ok hn (hf m (by omega)) h).1 _ i hi, runG_out hn hi m fun j hj => hf j (by omega)]
    · exact runG_out hn hi m fun j hj => hf j (by omega)
theorem inF_val (x : F) : inF x.val = x := by
  unfold inF
  have : ((x.val : Nat) : Int) % 57896044618658097711785492504343953926634992332820282019728792003956564819968 = x.val := by
    have h : x.val < 57896044618658097711785492504343953926634992332820282019728792003956564819949 := x.isLt
    omega
  rw [this, toF_self]
/-- A script's two parts, one behind the other. -/
theorem parts_eq {n L k : Nat} {N : Nat → Nat} {ops : Nat → Opr} (hn : inR .i64 ((n : Nat) : Int)) (hk : k ≤ L) (hf : ∀ j, j < L → (ops j).Fits) :
    runG n (fun j => ops (k + j)) (f0 n fun t => (runG n ops (f0 n N) k t).val) (L - k) = runG n ops (f0 n N) L := by
  have e : (f0 n fun t => (runG n ops (f0 n N) k t).val) = runG n ops (f0 n N) k := by
    funext i
    unfold f0
    split
    · exact inF_val _
    · rename_i h
      have := runG_out hn (ops := ops) (f := f0 n N) (i := i) (by omega) k fun j hj => hf j (by omega)
      rw [show (fun i => if i < n then inF (N i) else 0) = f0 n N from rfl, this]
      unfold f0
      rw [if_neg h]
  rw [e, ← runG_add, show k + (L - k) = L by omega]
theorem OpS.take {W : World} {a : Option Addr} {L c k : Nat} {ops : Nat → Opr} (h : OpS W (.slice a L c) L ops) (hk : k ≤ L) (c' : Nat) : OpS W (.slice a k c') k ops := by
  obtain ⟨ad, cap, e, h2⟩ := h
  obtain ⟨rfl, -, rfl⟩ := Value.slice.inj e
  exact ⟨_, c', rfl, fun j hj => h2 j (by omega)⟩
theorem OpS.drop {W : World} {b s L c k : Nat} {ops : Nat → Opr} (h : OpS W (.slice (some ⟨b, s, none⟩) L c) L ops) (hk : k ≤ L) (c' : Nat) : OpS W (.slice (some ⟨b, s + k * 5, none⟩) (L - k) c') (L - k) (fun j => ops (k + j)) := by
  obtain ⟨ad, cap, e, h2⟩ := h
  obtain ⟨rfl, -, rfl⟩ := Value.slice.inj e
  refine ⟨_, c', rfl, fun j hj => ?_⟩
  obtain ⟨hf, b', s', e1, h3⟩ := h2 (k + j) (by omega)
  obtain ⟨rfl, rfl⟩ : b = b' ∧ s = s' := by simpa using e1
  refine ⟨hf, _, _, rfl, fun t v ht => ?_⟩
  have := h3 t v ht
  rwa [show s + (k + j) * 5 + t = s + k * 5 + j * 5 + t by omega] at this
theorem OpS.none {W : World} {a : Option Addr} {c : Nat} {ops : Nat → Opr} : OpS W (.slice a 0 c) 0 ops := ⟨a, c, rfl, fun j hj => by omega⟩

/-! ### the walk -/
def Fin (W : World) (e : Ending) (w' : World) : Prop := e = .returned (.bool true) ∧ Below W.heap.size W w'
section
variable {n L k : Nat} {N : Nat → Nat} {ops : Nat → Opr} {W : World} {q0 q1 q2 : Nat × Nat}
set_option maxHeartbeats 3200000 in
theorem cutMid {a0 : Option Addr} {c0 b1 s1 c1 : Nat} (hn32 : n * 32 ≤ 140737488355328) (hL64 : inR .i64 ((L : Nat) : Int)) (hB0 : ByS W (.slice a0 n c0) n N) (hO0 : OpS W (.slice (some ⟨b1, s1, none⟩) L c1) L ops) (hV0 : VarsAt W W.heap.size q0 q1 q2) (hk : k ≤ L) (hL : L ≤ c1) (hkc : k < c1) (hc1 : (c1 : Int) ≤ 9223372036854775807) (hn0 : (n : Int) ≤ 9223372036854775807) :
    Calls Tryd.prog 3 #[.slice a0 n c0, .slice (some ⟨b1, s1, none⟩) L c1, .int .i64 k] W (Fin W) := by
  have hk64 : inR .i64 ((k : Nat) : Int) := nat64 hL64 hk
  have hd64 : inR .i64 ((L - k : Nat) : Int) := nat64 hL64 (Nat.sub_le _ _)
  have hn64 := i64_of hn32
  have hO1 : OpS W (.slice (some ⟨b1, s1, none⟩) k c1) k ops := hO0.take hk c1
  have hO2 : OpS W (.slice (some ⟨b1, s1 + k * 5, none⟩) (L - k) (c1 - k)) (L - k) (fun j => ops (k + j)) := hO0.drop hk (c1 - k)
  have hfits : ∀ j, j < L → (ops j).Fits := by obtain ⟨ad, cap, e, h2⟩ := hO0; exact fun j hj => (h2 j hj).1
  have hpe := Lib.hid (parts_eq (N := N) hn64 hk hfits)
  have hw0 : Out W W := ⟨Below.refl _ _⟩
  have q1 : decide ((k : Int) < 0) = false := decide_eq_false (by omega)
  have q2 : decide ((k : Int) > (L : Int)) = false := decide_eq_false (by omega)
  have q3 : (0 : Int) ≤ (k : Int) := by omega
  have q4 : (k : Int) ≤ (L : Int) := by omega
  have q5 : (L : Int) ≤ (c1 : Int) := by omega
  have q6 : ¬ (c1 = k) := by omega
  have q7 : ¬ (k = c1) := by omega
  have q8 : (k : Int) < (c1 : Int) := by omega
  clear hfits
  go_enter Tryd.func3, Tryd.ntmps3
  go_wp2_with (first | (go_at_call 4; refine (fr_calls hn32 hk64 hB0 hO1 hV0).mono ?_; rintro e w1 ⟨a7, c7, rfl, hb7, hB7, hf7⟩))
  have ho1 : Out W w1 := hw0.step hb7
  have hBx := Lib.hid hB7
  clear hB7
  go_region_held3 (fun w' => True) (trivial) (first
    | (go_at_call_of 4 (Value.slice a0 n c0); refine (fr_calls hn32 hL64 (hB0.out ho1.drew) (hO0.out ho1.drew) (hV0.out ho1.drew)).mono ?_; rintro e w2 ⟨a8, c8, rfl, hb8, hB8, hf8⟩)
    | (go_at_call_of 4 (Value.slice a7 n c7); refine (fr_calls hn32 hd64 (hBx.out.below (Below.trans (Out.drew ⟨Below.refl _ _⟩).b hb8)) (hO2.out (ho1.drew.step hb8)) (hV0.out (ho1.drew.step hb8))).mono ?_; rintro e w3 ⟨a13, c13, rfl, hb13, hB13, hf13⟩)
    | (go_at_call 5; refine (al_calls hn64 (hB8.below hb13) (by have h := hB13; rw [hpe.out] at h; exact h) (fun g e1 e2 => by have h1 := (hf8 g e1).2; have h2 := (hf13 g e2).1; omega)).mono ?_; rintro e w4 ⟨rfl, hb14⟩))
  rename_i K hK hh
  refine hK _ _ ?_
  go_wp2
  go_ret
  exact ⟨rfl, (((ho1.drew.step hb8).step hb13).step hb14).b⟩
set_option maxHeartbeats 3200000 in
theorem cutEnd {a0 ad : Option Addr} {c0 : Nat} (hn32 : n * 32 ≤ 140737488355328) (hk64 : inR .i64 ((k : Nat) : Int)) (hB0 : ByS W (.slice a0 n c0) n N) (hO0 : OpS W (.slice ad k k) k ops) (hV0 : VarsAt W W.heap.size q0 q1 q2) (hc1 : (k : Int) ≤ 9223372036854775807) (hn0 : (n : Int) ≤ 9223372036854775807) :
    Calls Tryd.prog 3 #[.slice a0 n c0, .slice ad k k, .int .i64 k] W (Fin W) := by
  have hd64 : inR .i64 ((0 : Nat) : Int) := nat64 hk64 (Nat.zero_le _)
  have hn64 := i64_of hn32
  have hO2 : OpS W (.slice ad 0 0) 0 (fun j => ops (k + j)) := OpS.none
  have hfits : ∀ j, j < k → (ops j).Fits := by obtain ⟨ad, cap, e, h2⟩ := hO0; exact fun j hj => (h2 j hj).1
  have hpe := Lib.hid ((congrArg (fun m => runG n (fun j => ops (k + j)) (f0 n fun t => (runG n ops (f0 n N) k t).val) m) (Nat.sub_self k).symm).trans (parts_eq (N := N) hn64 (Nat.le_refl k) hfits))
  have hw0 : Out W W := ⟨Below.refl _ _⟩
  have q1 : decide ((k : Int) < 0) = false := decide_eq_false (by omega)
  have q2 : decide ((k : Int) > (k : Int)) = false := decide_eq_false (by omega)
  have q3 : (0 : Int) ≤ (k : Int) := by omega
  clear hfits
  go_enter Tryd.func3, Tryd.ntmps3
  go_wp2_with (first | (go_at_call 4; refine (fr_calls hn32 hk64 hB0 hO0 hV0).mono ?_; rintro e w1 ⟨a7, c7, rfl, hb7, hB7, hf7⟩))
  have ho1 : Out W w1 := hw0.step hb7
  have hBx := Lib.hid hB7
  clear hB7
  go_region_held3 (fun w' => True) (trivial) (first
    | (go_at_call_of 4 (Value.slice a0 n c0); refine (fr_calls hn32 hk64 (hB0.out ho1.drew) (hO0.out ho1.drew) (hV0.out ho1.drew)).mono ?_; rintro e w2 ⟨a8, c8, rfl, hb8, hB8, hf8⟩)
    | (go_at_call_of 4 (Value.slice a7 n c7); refine (fr_calls hn32 hd64 (hBx.out.below (Below.trans (Out.drew ⟨Below.refl _ _⟩).b hb8)) (hO2.out (ho1.drew.step hb8)) (hV0.out (ho1.drew.step hb8))).mono ?_; rintro e w3 ⟨a13, c13, rfl, hb13, hB13, hf13⟩)
    | (go_at_call 5; refine (al_calls hn64 (hB8.below hb13) (by have h := hB13; rw [hpe.out] at h; exact h) (fun g e1 e2 => by have h1 := (hf8 g e1).2; have h2 := (hf13 g e2).1; omega)).mono ?_; rintro e w4 ⟨rfl, hb14⟩))
  rename_i K hK hh
  refine hK _ _ ?_
  go_wp2
  go_ret
  exact ⟨rfl, (((ho1.drew.step hb8).step hb13).step hb14).b⟩
set_option maxHeartbeats 3200000 in
theorem cutNeg {a0 ad : Option Addr} {c0 c1 : Nat} {c : Int} (hc : c < 0) :
    Calls Tryd.prog 3 #[.slice a0 n c0, .slice ad L c1, .int .i64 c] W (Fin W) := by
  have q1 : decide (c < 0) = true := decide_eq_true hc
  go_enter Tryd.func3, Tryd.ntmps3
  go_wp2
  go_ret
  exact ⟨rfl, Below.refl _ _⟩
set_option maxHeartbeats 3200000 in
theorem cutGt {a0 ad : Option Addr} {c0 c1 : Nat} {c : Int} (hc : c > (L : Int)) :
    Calls Tryd.prog 3 #[.slice a0 n c0, .slice ad L c1, .int .i64 c] W (Fin W) := by
  have q1 : decide (c < 0) = false := decide_eq_false (by omega)
  have q2 : decide (c > (L : Int)) = true := decide_eq_true hc
  go_enter Tryd.func3, Tryd.ntmps3
  go_wp2
  go_ret
  exact ⟨rfl, Below.refl _ _⟩
end
end Go.Proofs.YtpaidbefbkokfaaDoor
