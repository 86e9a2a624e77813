/- What the laws share: bytes as numbers, elements in the field, a run as a law. No condition. -/
import Derived.Test.YtolmkbojlpplfaaDoorTbe
namespace Go.Proofs.YtolmkbojlpplfaaDoor
open Go Go.RowKit
set_option linter.unusedVariables false
set_option linter.unusedSimpArgs false

def octX (n : Nat) : Nat → Nat → List Sx
  | _, 0 => []
  | i, k + 1 => .o n i :: octX n (i + 1) k
def octC (n : Nat) : List Sx := (octs n 0 32).map Sx.c
theorem octX_val {ρ : Env} {n : Nat} : ∀ (k i : Nat), (octX n i k).map (Sx.val ρ) = octs (ρ.n n) i k
  | 0, i => rfl
  | k + 1, i => by simp only [octX, octs, List.map_cons, Sx.val, octX_val k (i + 1)]
theorem octC_val {ρ : Env} {n : Nat} : (octC n).map (Sx.val ρ) = octs n 0 32 := by
  unfold octC
  rw [List.map_map]
  have : (Sx.val ρ ∘ Sx.c) = id := by funext x; rfl
  rw [this, List.map_id]
theorem octs_length {n : Nat} : ∀ (k i : Nat), (octs n i k).length = k
  | 0, i => rfl
  | k + 1, i => by simp only [octs, List.length_cons, octs_length k (i + 1)]
theorem ofB_octs {n : Nat} : ∀ (k i : Nat), ofB (octs n i k) = n / 256 ^ i % 256 ^ k
  | 0, i => by simp [octs, ofB, Nat.mod_one]
  | k + 1, i => by
    simp only [octs, ofB, ofB_octs k (i + 1), Int.toNat_natCast, octet]
    rw [Nat.pow_succ 256 i, ← Nat.div_div_eq_div_mul, Nat.pow_succ 256 k, Nat.mul_comm (256 ^ k) 256, Nat.mod_mul]
theorem octs_inj {a b : Nat} (ha : a < 2 ^ 256) (hb : b < 2 ^ 256) : octs a 0 32 = octs b 0 32 ↔ a = b := by
  refine ⟨fun h => ?_, fun h => by rw [h]⟩
  have h1 := congrArg ofB h
  rw [ofB_octs, ofB_octs, Nat.pow_zero, Nat.div_one, Nat.div_one, show (256 : Nat) ^ 32 = 2 ^ 256 by decide, Nat.mod_eq_of_lt ha, Nat.mod_eq_of_lt hb] at h1
  exact h1
theorem Defs.get {ρ : Env} : ∀ {l : List Ent} {j : Nat} {e : Ent}, Defs ρ l → l[j]? = some e → e.def ρ
  | [], j, e, _, h => by simp at h
  | x :: l, 0, e, hd, h => by
    simp only [List.getElem?_cons_zero, Option.some.injEq] at h
    subst h
    exact hd.1
  | x :: l, j + 1, e, hd, h => Defs.get hd.2 (by simpa using h)
theorem eqs_sem {A B : List Int} (h : A.length = B.length) : Fb.sem .eqs (A ++ B) [] [] = decide (A = B) := by
  have h1 : (A ++ B).length / 2 = A.length := by simp; omega
  simp only [Fb.sem, h1, List.take_left', List.drop_left', List.take_append_length, List.drop_append_length]
theorem eqs_oo {ρ : Env} {k a b : Nat} (h : Ent.def ρ (.db k .eqs (octX a 0 32 ++ octX b 0 32) [] [])) : ρ.b k = decide (octs (ρ.n a) 0 32 = octs (ρ.n b) 0 32) := by
  have h1 : ρ.b k = Fb.sem .eqs ((octX a 0 32 ++ octX b 0 32).map (Sx.val ρ)) [] [] := h
  rw [List.map_append, octX_val, octX_val, eqs_sem (by rw [octs_length, octs_length])] at h1
  exact h1
theorem eqs_oc {ρ : Env} {k a c : Nat} (h : Ent.def ρ (.db k .eqs (octX a 0 32 ++ octC c) [] [])) : ρ.b k = decide (octs (ρ.n a) 0 32 = octs c 0 32) := by
  have h1 : ρ.b k = Fb.sem .eqs ((octX a 0 32 ++ octC c).map (Sx.val ρ)) [] [] := h
  rw [List.map_append, octX_val, octC_val, eqs_sem (by rw [octs_length, octs_length])] at h1
  exact h1
theorem of_c {ρ : Env} {k c : Nat} (h : Ent.def ρ (.dn k .of [] (octC c) [])) (hc : c < 2 ^ 256) : ρ.n k = c := by
  have h1 : ρ.n k = ofB ((octC c).map (Sx.val ρ)) := h
  rw [octC_val, ofB_octs, Nat.pow_zero, Nat.div_one, show (256 : Nat) ^ 32 = 2 ^ 256 by decide, Nat.mod_eq_of_lt hc] at h1
  exact h1

/-- What the bytes of a number are in the field. -/
def inF (n : Nat) : F := toF ((n : Int) % 57896044618658097711785492504343953926634992332820282019728792003956564819968)
theorem sbE_in {ρ : Env} {e n : Nat} (h : ρ.e e = sbE (ρ.n n)) : (ρ.e e).fe = inF (ρ.n n) := by rw [h, sbE_fe]; rfl
theorem inF_val (x : F) : inF x.val = x := by
  unfold inF
  have : ((x.val : Nat) : Int) % 57896044618658097711785492504343953926634992332820282019728792003956564819968 = x.val := by
    have h : x.val < 57896044618658097711785492504343953926634992332820282019728792003956564819949 := x.isLt
    omega
  rw [this, toF_self]
theorem inF_canon (e : Elt) : inF (canonE e) = e.fe := inF_val _
theorem inF_zero : inF 0 = 0 := by decide +kernel
theorem inF_one : inF 1 = 1 := by decide +kernel
theorem canon_lt (e : Elt) : canonE e < 2 ^ 256 := Nat.lt_trans e.fe.isLt (by decide)
theorem val_zero : (0 : F).val = 0 := rfl
theorem canon_eq {a b : Elt} : canonE a = canonE b ↔ a.fe = b.fe := ⟨fun h => Fin.ext h, fun h => by unfold canonE; rw [h]⟩
theorem canon_one {a : Elt} (h : a.fe = 1) : canonE a = 1 := by unfold canonE; rw [h]; exact one_val
theorem canon_zero {a : Elt} (h : a.fe = 0) : canonE a = 0 := by unfold canonE; rw [h]; rfl

/-! ### the arguments -/
def argsS : Nat → Nat → List SV
  | _, 0 => []
  | i, k + 1 => .agg (octsS i 0 32) :: argsS (i + 1) k
theorem bytesS_rel {ρ : Env} {α : Adr} (n : Nat) : VRel ρ α (.agg (octsS n 0 32)) (bytesV (ρ.n n)) := by
  simp only [VRel, bytesV]
  exact ⟨_, rfl, octsS_rel 32 0⟩
/-- A run that ends with true, as a law's call. -/
theorem law_of_run {l : List (Nat × Rule)} (ht : TabOk l) {d : Nat} {f : FuncId} {ni nb ne nn : Nat} {orc : List Bool} {args : List SV} {b : Sb} {ms' : Ms} (h : runOk (body l d f) ⟨[], [], ni, nb, ne, nn, orc, []⟩ args (.bool b) ms') (ρ : Env) {vs : List Value}
    (hv : VRels ρ (fun _ => none) args vs) (hmath : ∀ ρ' : Env, Agree ⟨ni, nb, ne, nn⟩ ρ ρ' → Defs ρ' ms'.tr → Asms ρ' ms'.tr ∧ b.val ρ' = true) (W : World) :
    Invokes Tryd.prog f vs.toArray W fun r w' => r = .bool true ∧ Fr (fun _ _ => False) W w' := by
  have hm0 : MRep ρ (fun _ _ => False) W (fun _ => none) [] W := ⟨Fr.refl _ _, fun _ _ => rfl, fun c ch b s hc => by simp at hc, fun c b s ha => by simp at ha, fun c ch b s hc => by simp at hc, fun c c' ch ch' b s b' s' _ hc => by simp at hc⟩
  refine (run_calls (body_ok ht d f) h hm0 (fun g c hgc => by simp at hgc) hv fun ρ' ha hd => (hmath ρ' ha hd).1).mono ?_
  rintro r w' ⟨ρ', α', ha, hd, hext, hret, hm⟩
  simp only [VRel] at hret
  rw [(hmath ρ' ha hd).2] at hret
  exact ⟨hret, hm.fr⟩
theorem calls_of {f : FuncId} (hG : Gf f = true) {args : Array Value} {W : World} {Post : Value → World → Prop} (h : Invokes Tryd.prog f args W Post) : Calls Tryd.prog f args W fun e w' => ∃ v, e = .returned v ∧ Post v w' := by
  rcases h with ⟨v, w', h1, _⟩ | ⟨_, h2⟩
  · rw [Gf_ok f hG args W] at h1
    cases h1
  · exact h2
end Go.Proofs.YtolmkbojlpplfaaDoor
