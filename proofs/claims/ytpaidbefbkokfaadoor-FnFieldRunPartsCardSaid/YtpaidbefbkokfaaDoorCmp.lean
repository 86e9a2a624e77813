/- compareBytes: a loop over two numbers' bytes. No condition. -/
import Derived.Test.YtpaidbefbkokfaaDoorSb
import Derived.Test.YtpaidbefbkokfaaDoorBit
namespace Go.Proofs.YtpaidbefbkokfaaDoor
open Go Go.RowKit
set_option linter.unusedVariables false
set_option linter.unusedSimpArgs false
set_option maxRecDepth 100000

/-! ### compareBytes -/
def cmpA : List SV := [.slice 0 0 32 32, .slice 1 0 32 32]
def cmp0 (o : List Bool) : Ms := ⟨[⟨octsS 0 0 32, false⟩, ⟨octsS 1 0 32, false⟩], [], 0, 0, 0, 2, o, []⟩
def cmpH : Tm := tmS 6 [(0, .slice 0 0 32 32), (1, .slice 1 0 32 32), (12, .int .i64 (.c 32)), (13, .int .i64 (.x 0))]
def cmpM (o : List Bool) : Ms := ⟨[⟨octsS 0 0 32, false⟩, ⟨octsS 1 0 32, false⟩], [], 1, 0, 0, 2, o, []⟩
def cmp0_tr : List Ent := []
def cmp0_ob : List Ob := [.i (.x 0) (.c 0), .i (.o 0 0) (.o 0 0), .i (.o 0 1) (.o 0 1), .i (.o 0 2) (.o 0 2), .i (.o 0 3) (.o 0 3), .i (.o 0 4) (.o 0 4), .i (.o 0 5) (.o 0 5), .i (.o 0 6) (.o 0 6), .i (.o 0 7) (.o 0 7), .i (.o 0 8) (.o 0 8), .i (.o 0 9) (.o 0 9), .i (.o 0 10) (.o 0 10), .i (.o 0 11) (.o 0 11), .i (.o 0 12) (.o 0 12), .i (.o 0 13) (.o 0 13), .i (.o 0 14) (.o 0 14), .i (.o 0 15) (.o 0 15), .i (.o 0 16) (.o 0 16), .i (.o 0 17) (.o 0 17), .i (.o 0 18) (.o 0 18), .i (.o 0 19) (.o 0 19), .i (.o 0 20) (.o 0 20), .i (.o 0 21) (.o 0 21), .i (.o 0 22) (.o 0 22), .i (.o 0 23) (.o 0 23), .i (.o 0 24) (.o 0 24), .i (.o 0 25) (.o 0 25), .i (.o 0 26) (.o 0 26), .i (.o 0 27) (.o 0 27), .i (.o 0 28) (.o 0 28), .i (.o 0 29) (.o 0 29), .i (.o 0 30) (.o 0 30), .i (.o 0 31) (.o 0 31), .i (.o 1 0) (.o 1 0), .i (.o 1 1) (.o 1 1), .i (.o 1 2) (.o 1 2), .i (.o 1 3) (.o 1 3), .i (.o 1 4) (.o 1 4), .i (.o 1 5) (.o 1 5), .i (.o 1 6) (.o 1 6), .i (.o 1 7) (.o 1 7), .i (.o 1 8) (.o 1 8), .i (.o 1 9) (.o 1 9), .i (.o 1 10) (.o 1 10), .i (.o 1 11) (.o 1 11), .i (.o 1 12) (.o 1 12), .i (.o 1 13) (.o 1 13), .i (.o 1 14) (.o 1 14), .i (.o 1 15) (.o 1 15), .i (.o 1 16) (.o 1 16), .i (.o 1 17) (.o 1 17), .i (.o 1 18) (.o 1 18), .i (.o 1 19) (.o 1 19), .i (.o 1 20) (.o 1 20), .i (.o 1 21) (.o 1 21), .i (.o 1 22) (.o 1 22), .i (.o 1 23) (.o 1 23), .i (.o 1 24) (.o 1 24), .i (.o 1 25) (.o 1 25), .i (.o 1 26) (.o 1 26), .i (.o 1 27) (.o 1 27), .i (.o 1 28) (.o 1 28), .i (.o 1 29) (.o 1 29), .i (.o 1 30) (.o 1 30), .i (.o 1 31) (.o 1 31)]
theorem cmp0_run : runTo Tryd.prog (RR tabB 1) 26 (prL Tryd.prog 48) (argsTm (Tm.full 12) 0 cmpA) (cmp0 []) (cmpH) (cmpM []) = some (.normal, cmp0_tr, cmp0_ob) := by kernel_rfl
def cmpX_tr : List Ent := [.asm (.x 0) false, .db 0 (.lss) [.x 0, .c 32] [] []]
def cmpX_ob : List Ob := [.i (.x 0) (.x 0), .i (.o 0 0) (.o 0 0), .i (.o 0 1) (.o 0 1), .i (.o 0 2) (.o 0 2), .i (.o 0 3) (.o 0 3), .i (.o 0 4) (.o 0 4), .i (.o 0 5) (.o 0 5), .i (.o 0 6) (.o 0 6), .i (.o 0 7) (.o 0 7), .i (.o 0 8) (.o 0 8), .i (.o 0 9) (.o 0 9), .i (.o 0 10) (.o 0 10), .i (.o 0 11) (.o 0 11), .i (.o 0 12) (.o 0 12), .i (.o 0 13) (.o 0 13), .i (.o 0 14) (.o 0 14), .i (.o 0 15) (.o 0 15), .i (.o 0 16) (.o 0 16), .i (.o 0 17) (.o 0 17), .i (.o 0 18) (.o 0 18), .i (.o 0 19) (.o 0 19), .i (.o 0 20) (.o 0 20), .i (.o 0 21) (.o 0 21), .i (.o 0 22) (.o 0 22), .i (.o 0 23) (.o 0 23), .i (.o 0 24) (.o 0 24), .i (.o 0 25) (.o 0 25), .i (.o 0 26) (.o 0 26), .i (.o 0 27) (.o 0 27), .i (.o 0 28) (.o 0 28), .i (.o 0 29) (.o 0 29), .i (.o 0 30) (.o 0 30), .i (.o 0 31) (.o 0 31), .i (.o 1 0) (.o 1 0), .i (.o 1 1) (.o 1 1), .i (.o 1 2) (.o 1 2), .i (.o 1 3) (.o 1 3), .i (.o 1 4) (.o 1 4), .i (.o 1 5) (.o 1 5), .i (.o 1 6) (.o 1 6), .i (.o 1 7) (.o 1 7), .i (.o 1 8) (.o 1 8), .i (.o 1 9) (.o 1 9), .i (.o 1 10) (.o 1 10), .i (.o 1 11) (.o 1 11), .i (.o 1 12) (.o 1 12), .i (.o 1 13) (.o 1 13), .i (.o 1 14) (.o 1 14), .i (.o 1 15) (.o 1 15), .i (.o 1 16) (.o 1 16), .i (.o 1 17) (.o 1 17), .i (.o 1 18) (.o 1 18), .i (.o 1 19) (.o 1 19), .i (.o 1 20) (.o 1 20), .i (.o 1 21) (.o 1 21), .i (.o 1 22) (.o 1 22), .i (.o 1 23) (.o 1 23), .i (.o 1 24) (.o 1 24), .i (.o 1 25) (.o 1 25), .i (.o 1 26) (.o 1 26), .i (.o 1 27) (.o 1 27), .i (.o 1 28) (.o 1 28), .i (.o 1 29) (.o 1 29), .i (.o 1 30) (.o 1 30), .i (.o 1 31) (.o 1 31)]
theorem cmpX_run : runTo Tryd.prog (RR tabB 1) 26 (flat (lpL Tryd.prog 48)) (cmpH) (cmpM [false]) (cmpH) (cmpM []) = some (.exit 0, cmpX_tr, cmpX_ob) := by kernel_rfl
def cmpE_tr : List Ent := [.di 1 (.add (.i64)) [.x 0, .c 1], .asm (.x 5) false, .db 5 (.neq) [.oi 0 0, .oi 1 0] [] [], .asm (.x 4) true, .db 4 (.lss) [.x 0, .c 32] [] [], .asm (.x 3) true, .db 3 (.leq) [.c 0, .x 0] [] [], .asm (.x 2) true, .db 2 (.lss) [.x 0, .c 32] [] [], .asm (.x 1) true, .db 1 (.leq) [.c 0, .x 0] [] [], .asm (.x 0) true, .db 0 (.lss) [.x 0, .c 32] [] []]
def cmpE_ob : List Ob := [.i (.x 0) (.x 1), .i (.o 0 0) (.o 0 0), .i (.o 0 1) (.o 0 1), .i (.o 0 2) (.o 0 2), .i (.o 0 3) (.o 0 3), .i (.o 0 4) (.o 0 4), .i (.o 0 5) (.o 0 5), .i (.o 0 6) (.o 0 6), .i (.o 0 7) (.o 0 7), .i (.o 0 8) (.o 0 8), .i (.o 0 9) (.o 0 9), .i (.o 0 10) (.o 0 10), .i (.o 0 11) (.o 0 11), .i (.o 0 12) (.o 0 12), .i (.o 0 13) (.o 0 13), .i (.o 0 14) (.o 0 14), .i (.o 0 15) (.o 0 15), .i (.o 0 16) (.o 0 16), .i (.o 0 17) (.o 0 17), .i (.o 0 18) (.o 0 18), .i (.o 0 19) (.o 0 19), .i (.o 0 20) (.o 0 20), .i (.o 0 21) (.o 0 21), .i (.o 0 22) (.o 0 22), .i (.o 0 23) (.o 0 23), .i (.o 0 24) (.o 0 24), .i (.o 0 25) (.o 0 25), .i (.o 0 26) (.o 0 26), .i (.o 0 27) (.o 0 27), .i (.o 0 28) (.o 0 28), .i (.o 0 29) (.o 0 29), .i (.o 0 30) (.o 0 30), .i (.o 0 31) (.o 0 31), .i (.o 1 0) (.o 1 0), .i (.o 1 1) (.o 1 1), .i (.o 1 2) (.o 1 2), .i (.o 1 3) (.o 1 3), .i (.o 1 4) (.o 1 4), .i (.o 1 5) (.o 1 5), .i (.o 1 6) (.o 1 6), .i (.o 1 7) (.o 1 7), .i (.o 1 8) (.o 1 8), .i (.o 1 9) (.o 1 9), .i (.o 1 10) (.o 1 10), .i (.o 1 11) (.o 1 11), .i (.o 1 12) (.o 1 12), .i (.o 1 13) (.o 1 13), .i (.o 1 14) (.o 1 14), .i (.o 1 15) (.o 1 15), .i (.o 1 16) (.o 1 16), .i (.o 1 17) (.o 1 17), .i (.o 1 18) (.o 1 18), .i (.o 1 19) (.o 1 19), .i (.o 1 20) (.o 1 20), .i (.o 1 21) (.o 1 21), .i (.o 1 22) (.o 1 22), .i (.o 1 23) (.o 1 23), .i (.o 1 24) (.o 1 24), .i (.o 1 25) (.o 1 25), .i (.o 1 26) (.o 1 26), .i (.o 1 27) (.o 1 27), .i (.o 1 28) (.o 1 28), .i (.o 1 29) (.o 1 29), .i (.o 1 30) (.o 1 30), .i (.o 1 31) (.o 1 31)]
theorem cmpE_run : runTo Tryd.prog (RR tabB 1) 26 (flat (lpL Tryd.prog 48)) (cmpH) (cmpM [true, false]) (cmpH) (cmpM []) = some (.normal, cmpE_tr, cmpE_ob) := by kernel_rfl
def cmpD_tr : List Ent := [.asm (.x 5) true, .db 5 (.neq) [.oi 0 0, .oi 1 0] [] [], .asm (.x 4) true, .db 4 (.lss) [.x 0, .c 32] [] [], .asm (.x 3) true, .db 3 (.leq) [.c 0, .x 0] [] [], .asm (.x 2) true, .db 2 (.lss) [.x 0, .c 32] [] [], .asm (.x 1) true, .db 1 (.leq) [.c 0, .x 0] [] [], .asm (.x 0) true, .db 0 (.lss) [.x 0, .c 32] [] []]
def cmpD_mem : List Chunk := [⟨[.int .u8 (.o 0 0), .int .u8 (.o 0 1), .int .u8 (.o 0 2), .int .u8 (.o 0 3), .int .u8 (.o 0 4), .int .u8 (.o 0 5), .int .u8 (.o 0 6), .int .u8 (.o 0 7), .int .u8 (.o 0 8), .int .u8 (.o 0 9), .int .u8 (.o 0 10), .int .u8 (.o 0 11), .int .u8 (.o 0 12), .int .u8 (.o 0 13), .int .u8 (.o 0 14), .int .u8 (.o 0 15), .int .u8 (.o 0 16), .int .u8 (.o 0 17), .int .u8 (.o 0 18), .int .u8 (.o 0 19), .int .u8 (.o 0 20), .int .u8 (.o 0 21), .int .u8 (.o 0 22), .int .u8 (.o 0 23), .int .u8 (.o 0 24), .int .u8 (.o 0 25), .int .u8 (.o 0 26), .int .u8 (.o 0 27), .int .u8 (.o 0 28), .int .u8 (.o 0 29), .int .u8 (.o 0 30), .int .u8 (.o 0 31)], false⟩, ⟨[.int .u8 (.o 1 0), .int .u8 (.o 1 1), .int .u8 (.o 1 2), .int .u8 (.o 1 3), .int .u8 (.o 1 4), .int .u8 (.o 1 5), .int .u8 (.o 1 6), .int .u8 (.o 1 7), .int .u8 (.o 1 8), .int .u8 (.o 1 9), .int .u8 (.o 1 10), .int .u8 (.o 1 11), .int .u8 (.o 1 12), .int .u8 (.o 1 13), .int .u8 (.o 1 14), .int .u8 (.o 1 15), .int .u8 (.o 1 16), .int .u8 (.o 1 17), .int .u8 (.o 1 18), .int .u8 (.o 1 19), .int .u8 (.o 1 20), .int .u8 (.o 1 21), .int .u8 (.o 1 22), .int .u8 (.o 1 23), .int .u8 (.o 1 24), .int .u8 (.o 1 25), .int .u8 (.o 1 26), .int .u8 (.o 1 27), .int .u8 (.o 1 28), .int .u8 (.o 1 29), .int .u8 (.o 1 30), .int .u8 (.o 1 31)], false⟩]
theorem cmpD_run : runRt Tryd.prog (RR tabB 1) 26 48 (flat (lpL Tryd.prog 48)) (cmpH) (cmpM [true, true]) = some ([.int .i64 (.c 0)], cmpD_tr, cmpD_mem) := by kernel_rfl
def cmpR_tr : List Ent := []
def cmpR_mem : List Chunk := [⟨[.int .u8 (.o 0 0), .int .u8 (.o 0 1), .int .u8 (.o 0 2), .int .u8 (.o 0 3), .int .u8 (.o 0 4), .int .u8 (.o 0 5), .int .u8 (.o 0 6), .int .u8 (.o 0 7), .int .u8 (.o 0 8), .int .u8 (.o 0 9), .int .u8 (.o 0 10), .int .u8 (.o 0 11), .int .u8 (.o 0 12), .int .u8 (.o 0 13), .int .u8 (.o 0 14), .int .u8 (.o 0 15), .int .u8 (.o 0 16), .int .u8 (.o 0 17), .int .u8 (.o 0 18), .int .u8 (.o 0 19), .int .u8 (.o 0 20), .int .u8 (.o 0 21), .int .u8 (.o 0 22), .int .u8 (.o 0 23), .int .u8 (.o 0 24), .int .u8 (.o 0 25), .int .u8 (.o 0 26), .int .u8 (.o 0 27), .int .u8 (.o 0 28), .int .u8 (.o 0 29), .int .u8 (.o 0 30), .int .u8 (.o 0 31)], false⟩, ⟨[.int .u8 (.o 1 0), .int .u8 (.o 1 1), .int .u8 (.o 1 2), .int .u8 (.o 1 3), .int .u8 (.o 1 4), .int .u8 (.o 1 5), .int .u8 (.o 1 6), .int .u8 (.o 1 7), .int .u8 (.o 1 8), .int .u8 (.o 1 9), .int .u8 (.o 1 10), .int .u8 (.o 1 11), .int .u8 (.o 1 12), .int .u8 (.o 1 13), .int .u8 (.o 1 14), .int .u8 (.o 1 15), .int .u8 (.o 1 16), .int .u8 (.o 1 17), .int .u8 (.o 1 18), .int .u8 (.o 1 19), .int .u8 (.o 1 20), .int .u8 (.o 1 21), .int .u8 (.o 1 22), .int .u8 (.o 1 23), .int .u8 (.o 1 24), .int .u8 (.o 1 25), .int .u8 (.o 1 26), .int .u8 (.o 1 27), .int .u8 (.o 1 28), .int .u8 (.o 1 29), .int .u8 (.o 1 30), .int .u8 (.o 1 31)], false⟩]
theorem cmpR_run : runRet Tryd.prog (RR tabB 1) 26 48 (poL Tryd.prog 48) (cmpH) (cmpM []) = some ([.int .i64 (.c 1)], cmpR_tr, cmpR_mem) := by kernel_rfl

theorem octsS_get {n : Nat} : ∀ {k i j : Nat} {x : SV}, (octsS n i k)[j]? = some x → x = .int .u8 (.o n (i + j)) ∧ j < k
  | 0, i, j, x, h => by simp [octsS] at h
  | k + 1, i, 0, x, h => by simp only [octsS, List.getElem?_cons_zero, Option.some.injEq] at h; exact ⟨h.symm, by omega⟩
  | k + 1, i, j + 1, x, h => by
    simp only [octsS, List.getElem?_cons_succ] at h
    obtain ⟨h1, h2⟩ := octsS_get h
    exact ⟨by rw [h1, show i + 1 + j = i + (j + 1) by omega], by omega⟩
theorem octsS_length (n : Nat) : ∀ k i, (octsS n i k).length = k
  | 0, _ => rfl
  | k + 1, i => by simp [octsS, octsS_length n k (i + 1)]
def cmpI (a b : Nat) (k : Nat) (ρ : Env) : Prop := k ≤ 32 ∧ ρ.n 0 = a ∧ ρ.n 1 = b ∧ ρ.i 0 = 32 - (k : Int) ∧ a % 256 ^ (32 - k) = b % 256 ^ (32 - k)
theorem rfl_idcmp : (0 : Nat) = idL Tryd.prog 48 := by kernel_rfl
theorem oct_mod (n k : Nat) : n % 256 ^ (k + 1) = n % 256 ^ k + 256 ^ k * octet n k := by
  unfold octet
  rw [Nat.pow_succ, Nat.mod_mul]
theorem cmp_c : CmpC Tryd.prog 48 := by
  intro w p q a b c d hp hq hc hd hpq
  let ρ0 : Env := envN [a, b] []
  let α0 : Adr := fun k => if k = 0 then some p else if k = 1 then some q else none
  have hα : ∀ k b' s', α0 k = some (b', s') → (k = 0 ∧ p = (b', s')) ∨ (k = 1 ∧ q = (b', s')) := by
    intro k b' s' h
    simp only [α0] at h
    split at h
    · rename_i h0; exact .inl ⟨h0, Option.some.inj h⟩
    · split at h
      · rename_i h0; exact .inr ⟨h0, Option.some.inj h⟩
      · cases h
  have hm0 : MRep ρ0 (fun _ _ => False) w α0 (cmp0 []).mem w := by
    refine ⟨Fr.refl _ _, fun k hk => ?_, ?_, ?_, ?_, ?_⟩
    · simp only [cmp0, List.length_cons, List.length_nil] at hk
      simp only [α0]; rw [if_neg (by omega), if_neg (by omega)]
    · intro k ch b' s' hk ha j x hx
      rcases hα k b' s' ha with ⟨rfl, e⟩ | ⟨rfl, e⟩
      · simp only [cmp0, List.getElem?_cons_zero, Option.some.injEq] at hk
        subst hk
        obtain ⟨rfl, hj⟩ := octsS_get hx
        have := hp j hj
        rw [e] at this
        refine ⟨_, this, ?_⟩
        have ho := octet_lt a j
        simp only [VRel, Sx.val, Nat.zero_add, inR, lo, hi]
        exact ⟨rfl, by omega, by show ((octet a j : Nat) : Int) < 256; omega⟩
      · simp only [cmp0, List.getElem?_cons_succ, List.getElem?_cons_zero, Option.some.injEq] at hk
        subst hk
        obtain ⟨rfl, hj⟩ := octsS_get hx
        have := hq j hj
        rw [e] at this
        refine ⟨_, this, ?_⟩
        have ho := octet_lt b j
        simp only [VRel, Sx.val, Nat.zero_add, inR, lo, hi]
        exact ⟨rfl, by omega, by show ((octet b j : Nat) : Int) < 256; omega⟩
    · intro k b' s' ha
      rcases hα k b' s' ha with ⟨rfl, e⟩ | ⟨rfl, e⟩
      · have := cell_lt (hp 0 (by omega)); rw [e] at this; exact this
      · have := cell_lt (hq 0 (by omega)); rw [e] at this; exact this
    · intro k ch b' s' hk ha hw
      rcases hα k b' s' ha with ⟨rfl, e⟩ | ⟨rfl, e⟩
      · simp only [cmp0, List.getElem?_cons_zero, Option.some.injEq] at hk
        subst hk; cases hw
      · simp only [cmp0, List.getElem?_cons_succ, List.getElem?_cons_zero, Option.some.injEq] at hk
        subst hk; cases hw
    · intro k k' ch ch' b1 s1 b2 s2 hne hk hk' ha ha'
      rcases hα k b1 s1 ha with ⟨rfl, e⟩ | ⟨rfl, e⟩ <;> rcases hα k' b2 s2 ha' with ⟨rfl, e'⟩ | ⟨rfl, e'⟩
      · exact absurd rfl hne
      · simp only [cmp0, List.getElem?_cons_succ, List.getElem?_cons_zero, Option.some.injEq] at hk hk'
        subst hk hk'
        rw [octsS_length, octsS_length]
        rw [e, e'] at hpq; exact hpq
      · simp only [cmp0, List.getElem?_cons_succ, List.getElem?_cons_zero, Option.some.injEq] at hk hk'
        subst hk hk'
        rw [octsS_length, octsS_length]
        rw [e, e'] at hpq
        simp only [Apart] at hpq ⊢; omega
      · exact absurd rfl hne
  have hv : VRels ρ0 α0 cmpA [.slice (some ⟨p.1, p.2, none⟩) 32 c, .slice (some ⟨q.1, q.2, none⟩) 32 d] := by
    simp only [cmpA, VRels, VRel]
    exact ⟨_, _, rfl, ⟨p.1, p.2, c, rfl, hc, rfl⟩, _, _, rfl, ⟨q.1, q.2, d, rfl, hd, rfl⟩, rfl⟩
  have e32 : W4 = 256 ^ 32 := by decide
  refine fn_invokes (ms := cmp0 []) (by kernel_rfl) hm0 (fun g c hgc => by simp [cmp0] at hgc) hv (of_decide_eq_true (by kernel_rfl)) fun ac hr => ?_
  refine fn_loop (by kernel_rfl) ?_
  refine to_head mix_ok (RR_ok tabB_ok _) cmp0_run (K := cmpI a b 32) hr (fun ρ ha hd => ⟨by simp only [cmp0_tr, Asms], ?_⟩) fun ρH α1 a1 w1 hK _ hr1 => ?_
  · have n0 : ρ.n 0 = a := ha.n 0 (by decide)
    have n1 : ρ.n 1 = b := ha.n 1 (by decide)
    refine ⟨⟨fun _ => 0, ρ.b, ρ.e, ρ.n, ρ.v⟩, rfl, ?_, ?_⟩
    · simp [cmp0_ob, Obs, Ob.ok, Sx.val]
    · exact ⟨Nat.le_refl _, n0, n1, rfl, by rw [Nat.sub_self, Nat.pow_zero, Nat.mod_one, Nat.mod_one]⟩
  simp only [SE.toExit, Exit.then, wps]
  refine loop_at (cmpI a b) α1 ?_ 32 ρH α1 a1 w1 hK (Ext.refl _ _) hr1
  intro k ρ α ac1 w1 hI hE hr
  obtain ⟨hk, n0, n1, i0, hb⟩ := hI
  cases k with
  | zero =>
    refine to_head mix_ok (RR_ok tabB_ok _) cmpX_run (ms := cmpM [false]) (K := fun ρH => True) (hr.orc rfl rfl) (fun ρ' ha hd => ?_) fun ρH α' a' w' hK _ hr' => ?_
    · have j0 : ρ'.i 0 = ρ.i 0 := ha.i 0 (by decide)
      simp only [cmpX_tr, Defs, Ent.def, Fb.sem, List.map_cons, List.map_nil, Sx.val, and_true, true_and] at hd
      exact ⟨by simp only [cmpX_tr, Asms, Ent.asn, Sb.val, and_true]; rw [hd]; exact decide_eq_false (by omega), ρ', rfl, by simp only [cmpX_ob, Obs, Ob.ok, and_true], trivial⟩
    · simp only [SE.toExit]
      rw [if_pos rfl_idcmp]
      refine to_ret mix_ok (RR_ok tabB_ok _) cmpR_run hr' fun ρ' ha hd => ⟨by simp only [cmpR_tr, Asms], fun α'' w'' v he hv hm => ?_⟩
      simp only [retOf, VRel, Sx.val] at hv
      rw [Nat.sub_zero, ← e32] at hb
      exact ⟨by rw [hv.1, if_pos hb], hm.fr⟩
  | succ k =>
    have ik : ρ.i 0 = ((31 - k : Nat) : Int) := by omega
    have ga := oct_mod a (31 - k)
    have gb := oct_mod b (31 - k)
    have e1 : 32 - (k + 1) = 31 - k := by omega
    have e2 : 31 - k + 1 = 32 - k := by omega
    rw [e1] at hb
    rw [e2] at ga gb
    by_cases hab : octet a (31 - k) = octet b (31 - k)
    · refine to_head mix_ok (RR_ok tabB_ok _) cmpE_run (ms := cmpM [true, false]) (K := cmpI a b k) (hr.orc rfl rfl) (fun ρ' ha hd => ?_) fun ρH α' a' w' hK hE' hr' => ⟨k, ρH, α', Nat.lt_succ_self k, hK, fun c hc => (hE' c hc hc).trans (hE c hc), hr'⟩
      have j0 : ρ'.i 0 = ρ.i 0 := ha.i 0 (by decide)
      have m0 : ρ'.n 0 = ρ.n 0 := ha.n 0 (by decide)
      have m1 : ρ'.n 1 = ρ.n 1 := ha.n 1 (by decide)
      simp only [cmpE_tr, Defs, Ent.def, Fb.sem, Fi.sem, List.map_cons, List.map_nil, Sx.val, and_true, true_and, j0, ik, m0, m1, n0, n1, Int.toNat_natCast] at hd
      obtain ⟨d1, b5, b4, b3, b2, b1, b0⟩ := hd
      refine ⟨?_, ⟨fun _ => ρ'.i 1, ρ'.b, ρ'.e, ρ'.n, ρ'.v⟩, rfl, ?_, ?_⟩
      · simp only [cmpE_tr, Asms, Ent.asn, Sb.val, and_true, true_and]
        refine ⟨?_, ?_, ?_, ?_, ?_, ?_⟩
        · rw [b5, hab]; exact bne_self_eq_false _
        · rw [b4]; exact decide_eq_true (by omega)
        · rw [b3]; exact decide_eq_true (by omega)
        · rw [b2]; exact decide_eq_true (by omega)
        · rw [b1]; exact decide_eq_true (by omega)
        · rw [b0]; exact decide_eq_true (by omega)
      · simp [cmpE_ob, Obs, Ob.ok, Sx.val]
      · refine ⟨by omega, by rw [← n0, ← m0], by rw [← n1, ← m1], ?_, by rw [ga, gb, hb, hab]⟩
        show ρ'.i 1 = _
        rw [d1]; simp only [wr]; omega
    · refine to_retL mix_ok (RR_ok tabB_ok _) cmpD_run (Post := fun v w' => v = .int .i64 (if a % W4 = b % W4 then 1 else 0) ∧ Fr (fun _ _ => False) w w') (ms := cmpM [true, true]) (hr.orc rfl rfl) (fun ρ' ha hd => ?_) fun a' w' h => h
      have j0 : ρ'.i 0 = ρ.i 0 := ha.i 0 (by decide)
      have m0 : ρ'.n 0 = ρ.n 0 := ha.n 0 (by decide)
      have m1 : ρ'.n 1 = ρ.n 1 := ha.n 1 (by decide)
      simp only [cmpD_tr, Defs, Ent.def, Fb.sem, Fi.sem, List.map_cons, List.map_nil, Sx.val, and_true, true_and, j0, ik, m0, m1, n0, n1, Int.toNat_natCast] at hd
      obtain ⟨b5, b4, b3, b2, b1, b0⟩ := hd
      refine ⟨?_, fun α' w' v he hv hm => ?_⟩
      · simp only [cmpD_tr, Asms, Ent.asn, Sb.val, and_true, true_and]
        refine ⟨?_, ?_, ?_, ?_, ?_, ?_⟩
        · rw [b5]; exact bne_iff_ne.2 (by omega)
        · rw [b4]; exact decide_eq_true (by omega)
        · rw [b3]; exact decide_eq_true (by omega)
        · rw [b2]; exact decide_eq_true (by omega)
        · rw [b1]; exact decide_eq_true (by omega)
        · rw [b0]; exact decide_eq_true (by omega)
      · simp only [retOf, VRel, Sx.val] at hv
        refine ⟨?_, hm.fr⟩
        rw [hv.1, if_neg]
        intro h
        refine hab ?_
        rw [← octet_mod a (31 - k) (by omega), ← octet_mod b (31 - k) (by omega), h]
end Go.Proofs.YtpaidbefbkokfaaDoor
