/- The rules of math/bits.Mul64, Add64 and Sub64. No condition. -/
import Derived.Test.YtpaidbefbkokfaaDoorLib
import Derived.Test.YtpaidbefbkokfaaDoorProg
import Derived.Lib.Mul64
import Derived.Laws.Bits64b
namespace Go.Proofs.YtpaidbefbkokfaaDoor
open Go Go.RowKit Go.Lib
set_option linter.unusedVariables false
set_option linter.unusedSimpArgs false
set_option maxRecDepth 100000

theorem mix_ok : Tryd.prog.follows .mixedOrders = true := by kernel_rfl
noncomputable def Gf : FuncId → Bool := goB Tryd.prog
theorem Gf_ok : ∀ f, Gf f = true → ∀ args w, (callFunc f args).run Tryd.prog w = .ok (.enter f args) w := fun f h args w => goB_ok h args w

namespace M64
theorem maskN (a : Nat) (ha : a < 18446744073709551616) : bits .and .u64 (a : Int) 4294967295 = ((a % 4294967296 : Nat) : Int) := by
  have h := bits_and_u64_nat a 4294967295 ha (by omega)
  have e : a &&& 4294967295 = a % 4294967296 := Nat.and_two_pow_sub_one_eq_mod a 32
  rw [e] at h
  exact h
theorem divN (a : Nat) : (a : Int) / 4294967296 = ((a / 4294967296 : Nat) : Int) := by omega
theorem mulN (a b : Nat) : (a : Int) * (b : Int) = ((a * b : Nat) : Int) := (Int.natCast_mul a b).symm
theorem addN (a b : Nat) : (a : Int) + (b : Int) = ((a + b : Nat) : Int) := (Int.natCast_add a b).symm
theorem wrapN (a : Nat) (ha : a < 18446744073709551616) : IntKind.u64.wrap (a : Int) = (a : Int) := by rw [IntKind.wrap_u64]; omega
theorem wrapM (a : Nat) : IntKind.u64.wrap (a : Int) = ((a % 18446744073709551616 : Nat) : Int) := by rw [IntKind.wrap_u64]; omega
end M64
set_option maxHeartbeats 1000000 in
theorem mul64_nat (x y : Nat) (hx : x < 18446744073709551616) (hy : y < 18446744073709551616) (w : World) :
    Calls Tryd.prog 47 #[.int .u64 x, .int .u64 y] w fun e w' => e = .returned (.tuple #[.int .u64 ((x * y / 18446744073709551616 : Nat) : Int), .int .u64 ((x * y % 18446744073709551616 : Nat) : Int)]) ∧ w' = w := by
  obtain ⟨bd, bt, bw, hhi⟩ := Lib.mul64_hi x y hx hy
  have ba := Lib.half_mul_le (a := x / 4294967296) (b := y / 4294967296) (by omega) (by omega)
  have bb := Lib.half_mul_le (a := x / 4294967296) (b := y % 4294967296) (by omega) (by omega)
  have bc := Lib.half_mul_le (a := x % 4294967296) (b := y / 4294967296) (by omega) (by omega)
  have ba' : x / 4294967296 * (y / 4294967296) < 18446744073709551616 := by omega
  have bb' : x / 4294967296 * (y % 4294967296) < 18446744073709551616 := by omega
  have bc' : x % 4294967296 * (y / 4294967296) < 18446744073709551616 := by omega
  have bh1 : x / 4294967296 * (y / 4294967296) + (x / 4294967296 * (y % 4294967296) + x % 4294967296 * (y % 4294967296) / 4294967296) / 4294967296 < 18446744073709551616 := by omega
  have bh : x / 4294967296 * (y / 4294967296) + (x / 4294967296 * (y % 4294967296) + x % 4294967296 * (y % 4294967296) / 4294967296) / 4294967296 + ((x / 4294967296 * (y % 4294967296) + x % 4294967296 * (y % 4294967296) / 4294967296) % 4294967296 + x % 4294967296 * (y / 4294967296)) / 4294967296 < 18446744073709551616 := by omega
  go_enter Tryd.func47, Tryd.ntmps47
  go_wp2
  simp only [M64.maskN x hx, M64.maskN y hy, M64.divN, M64.mulN, M64.addN, M64.wrapN _ bd, M64.wrapN _ bb', M64.wrapN _ bt, M64.maskN _ bt, M64.wrapN _ bc', M64.wrapN _ bw, M64.wrapN _ ba', M64.wrapN _ bh1, M64.wrapN _ bh, M64.wrapM]
  rw [hhi]
  go_ret2
  exact ⟨rfl, rfl⟩

def mul64R : Rule := pureRule [.i .u64, .i .u64] [(.u64, .mulHi), (.u64, .mulLo)] .tup noChk
def chk3 : List Ent → List Sx → Bool := fun tr xs => match xs with
  | [_, _, c] => bitB tr c
  | _ => false
def Pre3 : List Int → Prop := fun ns => ∃ a b c, ns = [a, b, c] ∧ (c = 0 ∨ c = 1)
theorem chk3_ok (ρ : Env) (tr : List Ent) (xs : List Sx) (hs : Sat ρ tr) (h : chk3 tr xs = true) : Pre3 (xs.map (Sx.val ρ)) := by
  unfold chk3 at h
  split at h
  · exact ⟨_, _, _, rfl, bitB_ok hs h⟩
  · cases h
def add64R : Rule := pureRule [.i .u64, .i .u64, .i .u64] [(.u64, .addS), (.u64, .addC)] .tup chk3
def sub64R : Rule := pureRule [.i .u64, .i .u64, .i .u64] [(.u64, .subD), (.u64, .subB)] .tup chk3

theorem mul64_pure : PureC Tryd.prog 47 [.i .u64, .i .u64] [(.u64, .mulHi), (.u64, .mulLo)] .tup (fun _ => True) := by
  intro ns vs w hb hf _
  simp only [kindsOf, fits] at hf
  obtain ⟨x, ns1, rfl, hx, y, ns2, rfl, hy, rfl⟩ := hf
  simp only [build, Option.some.injEq] at hb
  subst hb
  simp only [inR, lo, hi] at hx hy
  obtain ⟨n, rfl⟩ := Int.eq_ofNat_of_zero_le hx.1
  obtain ⟨m, rfl⟩ := Int.eq_ofNat_of_zero_le hy.1
  have hlt : n * m < 18446744073709551616 * 18446744073709551616 := by
    have h1 : n < 18446744073709551616 := by omega
    have h2 : m < 18446744073709551616 := by omega
    exact Nat.mul_lt_mul'' h1 h2
  have e1 : ((n : Int) * (m : Int)) / 18446744073709551616 = ((n * m / 18446744073709551616 : Nat) : Int) := by rw [← Int.natCast_mul]; omega
  have e2 : ((n : Int) * (m : Int)) % 18446744073709551616 = ((n * m % 18446744073709551616 : Nat) : Int) := by rw [← Int.natCast_mul]; omega
  refine ⟨?_, .inr ⟨goB_ok (by kernel_rfl) _ _, ?_⟩⟩
  · intro o ho
    simp only [List.mem_cons, List.not_mem_nil, or_false] at ho
    rcases ho with rfl | rfl
    · simp only [Fi.sem, e1, inR, lo, hi]
      have : n * m / 18446744073709551616 < 18446744073709551616 := Nat.div_lt_of_lt_mul hlt
      omega
    · simp only [Fi.sem, e2, inR, lo, hi]; omega
  · refine (mul64_nat n m (by omega) (by omega) w).mono ?_
    rintro e w' ⟨rfl, rfl⟩
    refine ⟨_, rfl, ?_, Fr.refl _ _⟩
    simp only [shape, List.map_cons, List.map_nil, Fi.sem, e1, e2]

theorem add64_run (x y c : Int) (hx : 0 ≤ x) (hy : 0 ≤ y) (hc0 : 0 ≤ c) (hc : c ≤ 1) (w : World) :
    (callFunc 51 #[.int .u64 x, .int .u64 y, .int .u64 c]).run Tryd.prog w =
      .ok (.value (.tuple #[.int .u64 ((x + y + c) % 18446744073709551616), .int .u64 ((x + y + c) / 18446744073709551616)])) w := by
  rw [run_callFunc_extern Tryd.func51 (by kernel_rfl) (by kernel_rfl) (by kernel_rfl) (e := add64Entry) (by kernel_rfl), run_add64 x y c hx hy hc0 hc]
  rfl
theorem add64_pure : PureC Tryd.prog 51 [.i .u64, .i .u64, .i .u64] [(.u64, .addS), (.u64, .addC)] .tup Pre3 := by
  intro ns vs w hb hf hp
  simp only [kindsOf, fits] at hf
  obtain ⟨x, ns1, rfl, hx, y, ns2, rfl, hy, c, ns3, rfl, hc, rfl⟩ := hf
  simp only [build, Option.some.injEq] at hb
  subst hb
  simp only [inR, lo, hi] at hx hy hc
  obtain ⟨_, _, _, e, hc01⟩ := hp
  cases e
  have hcar : (x + y + c) / 18446744073709551616 = if 18446744073709551616 ≤ x + y + c then 1 else 0 := by split <;> omega
  refine ⟨?_, .inl ⟨_, _, add64_run x y c hx.1 hy.1 hc.1 (by omega) w, ?_, Fr.refl _ _⟩⟩
  · intro o ho
    simp only [List.mem_cons, List.not_mem_nil, or_false] at ho
    rcases ho with rfl | rfl
    · simp only [Fi.sem, inR, lo, hi]; omega
    · simp only [Fi.sem, inR, lo, hi]; split <;> omega
  · simp only [shape, List.map_cons, List.map_nil, Fi.sem, hcar]

def sub64Entry : Array Value → Sem Value := fun args => do
  let (x, y, b) ← Extern.MathBitsCarry.three "Sub64" args
  pure (Extern.MathBitsCarry.pair ((x + Extern.MathBitsCarry.m64 - y - b) % Extern.MathBitsCarry.m64) (if x < y + b then 1 else 0))
theorem run_sub64 {P : Program} (x y c : Int) (hx : 0 ≤ x) (hy : 0 ≤ y) (hx' : x < 18446744073709551616) (hy' : y < 18446744073709551616) (hc0 : 0 ≤ c) (hc : c ≤ 1) (w : World) :
    (sub64Entry #[.int .u64 x, .int .u64 y, .int .u64 c]).run P w =
      .ok (.tuple #[.int .u64 ((x - y - c) % 18446744073709551616), .int .u64 (if x < y + c then 1 else 0)]) w := by
  have key : ∀ k : Nat, k ≤ 1 → (sub64Entry #[.int .u64 x, .int .u64 y, .int .u64 (k : Int)]).run P w =
      .ok (Extern.MathBitsCarry.pair ((x.toNat + Extern.MathBitsCarry.m64 - y.toNat - k) % Extern.MathBitsCarry.m64) (if x.toNat < y.toNat + k then 1 else 0)) w := by
    intro k hk
    have : k = 0 ∨ k = 1 := by omega
    rcases this with rfl | rfl <;> rfl
  obtain ⟨k, rfl⟩ := Int.eq_ofNat_of_zero_le hc0
  rw [key k (by omega)]
  obtain ⟨X, rfl⟩ := Int.eq_ofNat_of_zero_le hx
  obtain ⟨Y, rfl⟩ := Int.eq_ofNat_of_zero_le hy
  have e1 : (Int.ofNat ((X + 18446744073709551616 - Y - k) % 18446744073709551616)) = ((X : Int) - Y - k) % 18446744073709551616 := by
    show (((X + 18446744073709551616 - Y - k) % 18446744073709551616 : Nat) : Int) = _
    omega
  have e2 : (Int.ofNat (if X < Y + k then 1 else 0)) = if (X : Int) < Y + k then 1 else 0 := by
    by_cases h : X < Y + k
    · rw [if_pos h, if_pos (by omega)]; rfl
    · rw [if_neg h, if_neg (by omega)]; rfl
  simp only [Extern.MathBitsCarry.pair, Extern.MathBitsCarry.m64, Int.toNat_natCast]
  show Result.ok (Value.tuple #[.int .u64 (Int.ofNat ((X + 18446744073709551616 - Y - k) % 18446744073709551616)), .int .u64 (Int.ofNat (if X < Y + k then 1 else 0))]) w = _
  rw [e1, e2]

/-- Tables of rules. -/
def tab : List (Nat × Rule) → FuncId → Option Rule
  | [], _ => none
  | (g, r) :: l, f => bif Nat.beq g f then some r else tab l f
def TabOk (l : List (Nat × Rule)) : Prop := ∀ p ∈ l, RuleOk Tryd.prog p.1 p.2
theorem tab_ok : ∀ {l : List (Nat × Rule)}, TabOk l → ∀ f r, tab l f = some r → RuleOk Tryd.prog f r
  | [], _, f, r, h => by simp [tab] at h
  | (g, r') :: l, ht, f, r, h => by
    simp only [tab] at h
    cases hg : Nat.beq g f with
    | true =>
      have : g = f := Nat.eq_of_beq_eq_true hg
      simp only [hg, cond_true, Option.some.injEq] at h
      subst this h
      exact ht (g, r') (by simp)
    | false =>
      simp only [hg, cond_false] at h
      exact tab_ok (fun p hp => ht p (List.mem_cons_of_mem _ hp)) f r h
theorem TabOk.nil : TabOk [] := fun p hp => by cases hp
theorem TabOk.cons {g : Nat} {r : Rule} {l : List (Nat × Rule)} (h : RuleOk Tryd.prog g r) (hl : TabOk l) : TabOk ((g, r) :: l) := by
  intro p hp
  rcases List.mem_cons.1 hp with rfl | hp
  · exact h
  · exact hl p hp
/-- The rules that a table and the bodies give. -/
noncomputable def RR (l : List (Nat × Rule)) (d : Nat) : FuncId → Option Rule := rulesN Tryd.prog Gf (tab l) 100000 d
theorem RR_ok {l : List (Nat × Rule)} (h : TabOk l) (d : Nat) : ∀ f r, RR l d f = some r → RuleOk Tryd.prog f r := rulesN_ok mix_ok Gf_ok (tab_ok h) 100000 d
/-- A function by its body, over rules. -/
noncomputable def body (l : List (Nat × Rule)) (d : Nat) (f : FuncId) : Rule := inl Tryd.prog Gf (RR l d) 100000 f
theorem body_ok {l : List (Nat × Rule)} (h : TabOk l) (d : Nat) (f : FuncId) : RuleOk Tryd.prog f (body l d f) := inl_ok mix_ok Gf_ok (RR_ok h d) 100000 f

def tabB : List (Nat × Rule) := [
  (47, mul64R),
  (51, add64R),
]
theorem tabB_ok : TabOk tabB := by
  unfold tabB
  refine .cons (pureRule_ok mul64_pure fun _ _ _ _ _ => trivial) ?_
  refine .cons (pureRule_ok add64_pure chk3_ok) ?_
  exact .nil
end Go.Proofs.YtpaidbefbkokfaaDoor
