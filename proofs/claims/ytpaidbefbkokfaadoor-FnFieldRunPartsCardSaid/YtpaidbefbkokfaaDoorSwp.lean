/- Swap of two elements in memory: contract and rule. What is known to be 0 or 1. No condition. -/
import Derived.Test.YtpaidbefbkokfaaDoorElm
import Derived.Test.YtpaidbefbkokfaaDoorLay
namespace Go.Proofs.YtpaidbefbkokfaaDoor
open Go Go.RowKit
set_option linter.unusedVariables false
set_option linter.unusedSimpArgs false
set_option maxRecDepth 100000

/-! ### memory with some cells written -/
theorem setL_get : ∀ (vs l : List SV) (o i : Nat), o + vs.length ≤ l.length → (setL l o vs)[i]? = if o ≤ i ∧ i < o + vs.length then vs[i - o]? else l[i]?
  | [], l, o, i, _ => by simp only [setL, List.length_nil, Nat.add_zero]; rw [if_neg (by omega)]
  | v :: vs, l, o, i, hol => by
    simp only [List.length_cons] at hol
    simp only [setL]
    rw [setL_get vs (l.set o v) (o + 1) i (by simp only [List.length_set]; omega)]
    by_cases h1 : o + 1 ≤ i ∧ i < o + 1 + vs.length
    · rw [if_pos h1, if_pos (by simp only [List.length_cons]; omega), show i - o = (i - (o + 1)) + 1 by omega, List.getElem?_cons_succ]
    · rw [if_neg h1]
      by_cases h2 : i = o
      · subst h2
        rw [if_pos (by simp only [List.length_cons]; omega), Nat.sub_self, List.getElem?_cons_zero, List.getElem?_set]
        simp only [if_true]
        rw [if_pos (by omega)]
      · rw [if_neg (by simp only [List.length_cons]; omega), List.getElem?_set_ne (Ne.symm h2)]
def putM (M : List Chunk) (c o : Nat) (vs : List SV) : List Chunk := match M[c]? with
  | some ch => M.set c { ch with cells := setL ch.cells o vs }
  | none => M
theorem putM_length (M : List Chunk) (c o : Nat) (vs : List SV) : (putM M c o vs).length = M.length := by
  unfold putM; split <;> simp
theorem putM_shape {M : List Chunk} {c o : Nat} {vs : List SV} {d : Nat} {dh : Chunk} (h : (putM M c o vs)[d]? = some dh) : ∃ ch, M[d]? = some ch ∧ dh.wr = ch.wr ∧ dh.cells.length = ch.cells.length := by
  unfold putM at h
  split at h
  · rename_i ch hc
    by_cases hcd : c = d
    · subst hcd
      have hlen : c < M.length := (List.getElem?_eq_some_iff.1 hc).1
      simp only [List.getElem?_set, hlen, if_true, Option.some.injEq] at h
      subst h
      exact ⟨ch, hc, rfl, by simp only [setL_length]⟩
    · rw [List.getElem?_set_ne hcd] at h
      exact ⟨dh, h, rfl, rfl⟩
  · exact ⟨dh, h, rfl, rfl⟩
theorem putM_cell {M : List Chunk} {c o : Nat} {vs : List SV} {ch : Chunk} (hc : M[c]? = some ch) (hl : o + vs.length ≤ ch.cells.length) {d j : Nat} {dh : Chunk} {x : SV} (h : (putM M c o vs)[d]? = some dh) (hx : dh.cells[j]? = some x) :
    (d = c ∧ o ≤ j ∧ j < o + vs.length ∧ vs[j - o]? = some x) ∨ (∃ d0, M[d]? = some d0 ∧ d0.cells[j]? = some x ∧ ¬ (d = c ∧ o ≤ j ∧ j < o + vs.length)) := by
  unfold putM at h
  rw [hc] at h
  by_cases hcd : c = d
  · subst hcd
    have hlen : c < M.length := (List.getElem?_eq_some_iff.1 hc).1
    simp only [List.getElem?_set, hlen, if_true, Option.some.injEq] at h
    subst h
    simp only at hx
    rw [setL_get vs ch.cells o j hl] at hx
    split at hx
    · rename_i hin; exact .inl ⟨rfl, hin.1, hin.2, hx⟩
    · rename_i hin; exact .inr ⟨ch, hc, hx, fun hh => hin hh.2⟩
  · simp only at h
    rw [List.getElem?_set_ne hcd] at h
    exact .inr ⟨dh, h, hx, fun hh => hcd hh.1.symm⟩
theorem mrep_upd {ρ : Env} {S T : Nat → Nat → Prop} {w0 : World} {α : Adr} {M M' : List Chunk} {w w' : World} (h : MRep ρ S w0 α M w) (hf : Fr T w w') (hlen : M'.length = M.length) (hsh : ∀ (c : Nat) ch', M'[c]? = some ch' → ∃ ch, M[c]? = some ch ∧ ch'.wr = ch.wr ∧ ch'.cells.length = ch.cells.length)
    (hT : ∀ b j, T b j → S b j ∨ w0.heap.size ≤ b) (hcell : ∀ (c : Nat) ch' b s, M'[c]? = some ch' → α c = some (b, s) → ∀ (j : Nat) x, ch'.cells[j]? = some x → ∃ v, w'.cell? ⟨b, s + j, none⟩ = some v ∧ VRel ρ α x v) : MRep ρ S w0 α M' w' := by
  refine ⟨h.fr.trans hf hT, fun c hc => h.out c (by omega), fun c ch b s hc ha j x hx => hcell c ch b s hc ha j x hx, fun c b s ha => Nat.lt_of_lt_of_le (h.lt c b s ha) hf.size, ?_, ?_⟩
  · intro c ch' b s hc ha hw j hj
    obtain ⟨ch, h1, h2, h3⟩ := hsh c ch' hc
    rw [h2] at hw
    rw [h3] at hj
    obtain ⟨v, h4, _⟩ := h.cell c ch b s h1 ha j (ch.cells[j]) (by simp [hj])
    have := h.wr c ch b s h1 ha hw j hj
    exact ⟨by rw [hf.frozen h4]; exact this.1, this.2⟩
  · intro c c' ch ch' b s b' s' hne h1 h2 a1 a2
    obtain ⟨d, g1, _, l1⟩ := hsh c ch h1
    obtain ⟨d', g2, _, l2⟩ := hsh c' ch' h2
    rw [l1, l2]
    exact h.dis c c' d d' b s b' s' hne g1 g2 a1 a2

/-! ### what is 0 or 1 -/
/-- Whether an assumption settles that a symbol is 0 or 1. -/
def ev01 (j : Nat) (v : Bool) (i : Nat) : List Ent → Bool
  | .db k f [.x m, .c n] [] [] :: l => (Nat.beq k j && Nat.beq m i && (decide (n = 0) || decide (n = 1)) && (match f, v with
      | .neq, false => true
      | .eql, true => true
      | _, _ => false)) || ev01 j v i l
  | _ :: l => ev01 j v i l
  | [] => false
theorem ev01_ok {ρ : Env} {j i : Nat} {v : Bool} (hb : ρ.b j = v) : ∀ {l : List Ent}, Sat ρ l → ev01 j v i l = true → ρ.i i = 0 ∨ ρ.i i = 1
  | [], _, h => by simp [ev01] at h
  | e :: l, hs, h => by
    unfold ev01 at h
    split at h
    · rename_i k f m n l' heq
      simp only [List.cons.injEq] at heq
      obtain ⟨rfl, rfl⟩ := heq
      simp only [Bool.or_eq_true, Bool.and_eq_true, decide_eq_true_eq] at h
      rcases h with ⟨⟨⟨h1, h2⟩, h3⟩, h4⟩ | h
      · have e1 := Nat.eq_of_beq_eq_true h1
        have e2 := Nat.eq_of_beq_eq_true h2
        subst e1 e2
        have hd := hs.1
        have hx : ρ.i m = n := by
          cases f <;> cases v <;> simp only [Bool.false_eq_true] at h4
          · simp only [Ent.ok, Fb.sem, List.map_cons, List.map_nil, Sx.val, hb] at hd
            simpa using hd.symm
          · simp only [Ent.ok, Fb.sem, List.map_cons, List.map_nil, Sx.val, hb] at hd
            simpa using hd.symm
        rw [hx]; exact h3
      · exact ev01_ok hb hs.2 h
    · rename_i heq
      simp only [List.cons.injEq] at heq
      obtain ⟨rfl, rfl⟩ := heq
      exact ev01_ok hb hs.2 h
    · cases h
def b01 : List Ent → Sx → Bool
  | _, .c n => n == 0 || n == 1
  | .di j f xs :: l, .x i => bif Nat.beq j i then (match f, xs with
      | .addC, [_, _, _] => true
      | .subB, [_, _, _] => true
      | .eqI, _ => true
      | .conv _, [y] => b01 l y
      | .sub .i64, [.c n, y] => n == 1 && b01 l y
      | .or _, [y, z] => b01 l y && b01 l z
      | .and _, [_, .c n] => n == 1
      | .shr .u8, [.o _ _, .c n] => n == 7
      | .rem _, [.w _ _, .c n] => n == 2
      | _, _ => false) else b01 l (.x i)
  | .asm (.x j) v :: l, .x i => ev01 j v i l || b01 l (.x i)
  | _ :: l, x => b01 l x
  | [], _ => false
theorem wr01 {k : IntKind} {x : Int} (h : x = 0 ∨ x = 1) : wr k x = 0 ∨ wr k x = 1 := by
  rcases h with rfl | rfl <;> cases k <;> simp [wr]
theorem ub01 {k : IntKind} {x : Int} (h : x = 0 ∨ x = 1) : ub k x = 0 ∨ ub k x = 1 := by
  rcases h with rfl | rfl <;> cases k <;> simp [ub]
theorem b01_ok {ρ : Env} : ∀ {tr : List Ent} {x : Sx}, Sat ρ tr → b01 tr x = true → x.val ρ = 0 ∨ x.val ρ = 1
  | tr, .c n, _, h => by cases tr <;> simpa [b01, Sx.val] using h
  | [], .x i, _, h => by simp [b01] at h
  | [], .l _ _, _, h => by simp [b01] at h
  | [], .w _ _, _, h => by simp [b01] at h
  | [], .o _ _, _, h => by simp [b01] at h
  | [], .oi _ _, _, h => by simp [b01] at h
  | [], .wi _ _, _, h => by simp [b01] at h
  | e :: l, .l a b, hs, h => b01_ok hs.2 (by cases e <;> simpa only [b01] using h)
  | e :: l, .w a b, hs, h => b01_ok hs.2 (by cases e <;> simpa only [b01] using h)
  | e :: l, .o a b, hs, h => b01_ok hs.2 (by cases e <;> simpa only [b01] using h)
  | e :: l, .oi a b, hs, h => b01_ok hs.2 (by cases e <;> simpa only [b01] using h)
  | e :: l, .wi a b, hs, h => b01_ok hs.2 (by cases e <;> simpa only [b01] using h)
  | e :: l, .x i, hs, h => by
    cases e with
    | asm b v =>
      cases b with
      | c b => exact b01_ok hs.2 (by simpa only [b01] using h)
      | x j =>
        simp only [b01, Bool.or_eq_true] at h
        rcases h with h | h
        · exact ev01_ok (by have := hs.1; exact this) hs.2 h
        · exact b01_ok hs.2 h
    | di j f xs =>
      simp only [b01] at h
      cases hb : Nat.beq j i with
      | false => simp only [hb, cond_false] at h; exact b01_ok hs.2 h
      | true =>
        have hji : j = i := Nat.eq_of_beq_eq_true hb
        subst hji
        simp only [hb, cond_true] at h
        have hd : ρ.i j = f.sem (xs.map (Sx.val ρ)) := hs.1
        show ρ.i j = 0 ∨ ρ.i j = 1
        rw [hd]
        split at h
        · simp only [List.map_cons, List.map_nil, Fi.sem]; split <;> simp
        · simp only [List.map_cons, List.map_nil, Fi.sem]; split <;> simp
        · simp only [Fi.sem]; split <;> simp
        · rename_i k y
          simp only [List.map_cons, List.map_nil, Fi.sem]
          exact wr01 (b01_ok hs.2 h)
        · rename_i n y
          simp only [Bool.and_eq_true, beq_iff_eq] at h
          obtain ⟨rfl, h⟩ := h
          show wr .i64 ((1 : Int) - y.val ρ) = 0 ∨ wr .i64 ((1 : Int) - y.val ρ) = 1
          rcases b01_ok hs.2 h with e | e <;> rw [e] <;> decide
        · rename_i k y z
          simp only [Bool.and_eq_true] at h
          simp only [List.map_cons, List.map_nil, Fi.sem]
          refine wr01 ?_
          rcases ub01 (k := k) (b01_ok hs.2 h.1) with e | e <;> rcases ub01 (k := k) (b01_ok hs.2 h.2) with e' | e' <;> rw [e, e'] <;> decide
        · rename_i k y n
          simp only [beq_iff_eq] at h
          subst h
          simp only [List.map_cons, List.map_nil, Fi.sem, Sx.val]
          refine wr01 ?_
          have e1 : ub k 1 = 2 ^ 1 - 1 := by cases k <;> rfl
          rw [e1, Nat.and_two_pow_sub_one_eq_mod]
          omega
        · rename_i a b n
          simp only [beq_iff_eq] at h
          subst h
          simp only [List.map_cons, List.map_nil, Fi.sem, Sx.val, nbits]
          have := octet_lt (ρ.n a) b
          have e1 : (2 : Int) ^ min (Int.toNat 7) 8 = 128 := by decide
          rw [e1]; omega
        · rename_i k a b n
          simp only [beq_iff_eq] at h
          subst h
          simp only [List.map_cons, List.map_nil, Fi.sem, Sx.val]
          generalize word (ρ.n a) b = y
          rw [show ((y : Nat) : Int).tmod 2 = ((y % 2 : Nat) : Int) from rfl]
          omega
        · cases h
    | _ => exact b01_ok hs.2 (by simpa only [b01] using h)
def chkB (tr : List Ent) : List Sx → Bool
  | [x] => b01 tr x
  | _ => false
theorem chkB_ok (ρ : Env) (tr : List Ent) (xs : List Sx) (hs : Sat ρ tr) (h : chkB tr xs = true) : Pre01 (xs.map (Sx.val ρ)) := by
  unfold chkB at h
  split at h
  · rename_i x; exact ⟨x.val ρ, rfl, b01_ok hs h⟩
  · cases h

/-! ### Swap -/
def envS (a b : Elt) (c : Int) : Env := ⟨fun _ => c, fun _ => false, fun j => if j = 0 then a else b, fun _ => 0, fun _ => .nilIface⟩
theorem own_at {ρ : Env} {S : Nat → Nat → Prop} {w0 : World} {α : Adr} {M : List Chunk} {w : World} (hm : MRep ρ S w0 α M w) {c o k : Nat} {ch : Chunk} {b s : Nat} (hc : M[c]? = some ch) (ha : α c = some (b, s)) (hw : ch.wr = true) (hl : o + k ≤ ch.cells.length) : Own k w (b, s + o) := by
  intro j hj
  have hjl : o + j < ch.cells.length := by omega
  obtain ⟨v, h1, _⟩ := hm.cell c ch b s hc ha (o + j) ch.cells[o + j] (by simp [hjl])
  have := (hm.wr c ch b s hc ha hw (o + j) hjl).1
  rw [← Nat.add_assoc] at h1 this
  exact ⟨⟨v, h1⟩, this⟩
def swp_ms : Ms := ⟨[⟨[.int .u64 (.x 6), .int .u64 (.x 10), .int .u64 (.x 14), .int .u64 (.x 18), .int .u64 (.x 22)], true⟩, ⟨[.int .u64 (.x 7), .int .u64 (.x 11), .int .u64 (.x 15), .int .u64 (.x 19), .int .u64 (.x 23)], true⟩], [.di 23 (.xor (.u64)) [.l 1 4, .x 21], .di 22 (.xor (.u64)) [.l 0 4, .x 21], .di 21 (.and (.u64)) [.x 3, .x 20], .di 20 (.xor (.u64)) [.l 0 4, .l 1 4], .di 19 (.xor (.u64)) [.l 1 3, .x 17], .di 18 (.xor (.u64)) [.l 0 3, .x 17], .di 17 (.and (.u64)) [.x 3, .x 16], .di 16 (.xor (.u64)) [.l 0 3, .l 1 3], .di 15 (.xor (.u64)) [.l 1 2, .x 13], .di 14 (.xor (.u64)) [.l 0 2, .x 13], .di 13 (.and (.u64)) [.x 3, .x 12], .di 12 (.xor (.u64)) [.l 0 2, .l 1 2], .di 11 (.xor (.u64)) [.l 1 1, .x 9], .di 10 (.xor (.u64)) [.l 0 1, .x 9], .di 9 (.and (.u64)) [.x 3, .x 8], .di 8 (.xor (.u64)) [.l 0 1, .l 1 1], .di 7 (.xor (.u64)) [.l 1 0, .x 5], .di 6 (.xor (.u64)) [.l 0 0, .x 5], .di 5 (.and (.u64)) [.x 3, .x 4], .di 4 (.xor (.u64)) [.l 0 0, .l 1 0], .di 3 (.not (.u64)) [.x 2], .di 2 (.sub (.u64)) [.x 1, .c 1], .di 1 (.conv (.u64)) [.x 0]], 24, 0, 2, 0, [], []⟩
theorem swp_run : runOk (body tabW 2 23) (⟨[⟨limbs 0, true⟩, ⟨limbs 1, true⟩], [], 1, 0, 2, 0, [], []⟩) ([.ptr 0 0, .ptr 1 0, .int .i64 (.x 0)]) (.tuple []) swp_ms := ⟨by kernel_rfl, by kernel_rfl, by kernel_rfl, by kernel_rfl⟩

def SwC (P : Program) (f : FuncId) : Prop := ∀ (w : World) (p q : Nat × Nat) (a b : Elt) (c : Int), (c = 0 ∨ c = 1) → Own 5 w p → Own 5 w q → Rd w p a → Rd w q b → Apart 5 5 p q →
  Invokes P f #[ptrV p, ptrV q, .int .i64 c] w fun r w' => r = .tuple #[] ∧ Fr (fun b j => InN 5 p b j ∨ InN 5 q b j) w w' ∧ Rd w' p (selE c b a) ∧ Rd w' q (selE c a b)
theorem xor0 {x t : Int} (h0 : 0 ≤ x) (h1 : x < 18446744073709551616) (ht : t = 0) : ((((x % 18446744073709551616).toNat ^^^ (t % 18446744073709551616).toNat : Nat) : Int)) % 18446744073709551616 = x := by
  subst ht
  have e : ((0 : Int) % 18446744073709551616).toNat = 0 := by decide
  rw [e, Nat.xor_zero]; omega
theorem xorM {x y u m t : Int} (x0 : 0 ≤ x) (x1 : x < 18446744073709551616) (y0 : 0 ≤ y) (y1 : y < 18446744073709551616) (hm : m = 18446744073709551615) (hu : u = ((((x % 18446744073709551616).toNat ^^^ (y % 18446744073709551616).toNat : Nat) : Int)) % 18446744073709551616)
    (ht : t = ((((m % 18446744073709551616).toNat &&& (u % 18446744073709551616).toNat : Nat) : Int)) % 18446744073709551616) :
    ((((x % 18446744073709551616).toNat ^^^ (t % 18446744073709551616).toNat : Nat) : Int)) % 18446744073709551616 = y ∧ ((((y % 18446744073709551616).toNat ^^^ (t % 18446744073709551616).toNat : Nat) : Int)) % 18446744073709551616 = x := by
  obtain ⟨X, rfl⟩ := Int.eq_ofNat_of_zero_le x0
  obtain ⟨Y, rfl⟩ := Int.eq_ofNat_of_zero_le y0
  have hX : ((X : Int) % 18446744073709551616).toNat = X := by omega
  have hY : ((Y : Int) % 18446744073709551616).toNat = Y := by omega
  have hlt : X ^^^ Y < 2 ^ 64 := Nat.xor_lt_two_pow (by omega) (by omega)
  have hU : u = ((X ^^^ Y : Nat) : Int) := by rw [hu, hX, hY]; omega
  have hM : (m % 18446744073709551616).toNat = 2 ^ 64 - 1 := by rw [hm]; decide
  have hU' : (u % 18446744073709551616).toNat = X ^^^ Y := by rw [hU]; omega
  have hT : t = ((X ^^^ Y : Nat) : Int) := by
    rw [ht, hM, hU', Nat.and_comm, Nat.and_two_pow_sub_one_eq_mod, Nat.mod_eq_of_lt hlt]; omega
  have hT' : (t % 18446744073709551616).toNat = X ^^^ Y := by rw [hT]; omega
  rw [hX, hY, hT']
  have e1 : X ^^^ (X ^^^ Y) = Y := by rw [← Nat.xor_assoc, Nat.xor_self, Nat.zero_xor]
  have e2 : Y ^^^ (X ^^^ Y) = X := by rw [Nat.xor_comm X Y, ← Nat.xor_assoc, Nat.xor_self, Nat.zero_xor]
  rw [e1, e2]; omega
set_option maxHeartbeats 2000000 in
theorem sw_math (ρ : Env) (c : Int) (hc : c = 0 ∨ c = 1) (hc0 : ρ.i 0 = c) (hd : Defs ρ swp_ms.tr) : Asms ρ swp_ms.tr ∧
    (ρ.i 6 = (selE c (ρ.e 1) (ρ.e 0)).1.a0 ∧ ρ.i 10 = (selE c (ρ.e 1) (ρ.e 0)).1.a1 ∧ ρ.i 14 = (selE c (ρ.e 1) (ρ.e 0)).1.a2 ∧ ρ.i 18 = (selE c (ρ.e 1) (ρ.e 0)).1.a3 ∧ ρ.i 22 = (selE c (ρ.e 1) (ρ.e 0)).1.a4) ∧
    (ρ.i 7 = (selE c (ρ.e 0) (ρ.e 1)).1.a0 ∧ ρ.i 11 = (selE c (ρ.e 0) (ρ.e 1)).1.a1 ∧ ρ.i 15 = (selE c (ρ.e 0) (ρ.e 1)).1.a2 ∧ ρ.i 19 = (selE c (ρ.e 0) (ρ.e 1)).1.a3 ∧ ρ.i 23 = (selE c (ρ.e 0) (ρ.e 1)).1.a4) := by
  refine ⟨by simp only [swp_ms, Asms, Ent.asn, and_true], ?_⟩
  simp only [swp_ms, Defs, Ent.def, Fi.sem, List.map_cons, List.map_nil, Sx.val, E5.at, wr, nbits, ub, ubN, Int.reduceToNat, Nat.min_def, Nat.reduceLeDiff, ↓reduceIte, Int.reducePow, and_true] at hd
  have ba0 := E5.at_in (ρ.e 0) 0
  have bb0 := E5.at_in (ρ.e 1) 0
  have ba1 := E5.at_in (ρ.e 0) 1
  have bb1 := E5.at_in (ρ.e 1) 1
  have ba2 := E5.at_in (ρ.e 0) 2
  have bb2 := E5.at_in (ρ.e 1) 2
  have ba3 := E5.at_in (ρ.e 0) 3
  have bb3 := E5.at_in (ρ.e 1) 3
  have ba4 := E5.at_in (ρ.e 0) 4
  have bb4 := E5.at_in (ρ.e 1) 4
  simp only [E5.at] at ba0 bb0 ba1 bb1 ba2 bb2 ba3 bb3 ba4 bb4
  obtain ⟨d23, d22, d21, d20, d19, d18, d17, d16, d15, d14, d13, d12, d11, d10, d9, d8, d7, d6, d5, d4, d3, d2, d1⟩ := hd
  rw [hc0] at d1
  simp only [selE]
  rcases hc with rfl | rfl
  · have x2 : ρ.i 2 = 18446744073709551615 := by rw [d2, d1]; decide
    have x3 : ρ.i 3 = 0 := by rw [d3, notM _ x2]
    rw [if_neg (by decide), if_neg (by decide)]
    have t0 : ρ.i 5 = 0 := by rw [d5]; exact and0 _ _ x3
    have y0 : ρ.i 6 = (ρ.e 0).val.a0 := by rw [d6]; exact xor0 ba0.1 (by omega) t0
    have z0 : ρ.i 7 = (ρ.e 1).val.a0 := by rw [d7]; exact xor0 bb0.1 (by omega) t0
    have t1 : ρ.i 9 = 0 := by rw [d9]; exact and0 _ _ x3
    have y1 : ρ.i 10 = (ρ.e 0).val.a1 := by rw [d10]; exact xor0 ba1.1 (by omega) t1
    have z1 : ρ.i 11 = (ρ.e 1).val.a1 := by rw [d11]; exact xor0 bb1.1 (by omega) t1
    have t2 : ρ.i 13 = 0 := by rw [d13]; exact and0 _ _ x3
    have y2 : ρ.i 14 = (ρ.e 0).val.a2 := by rw [d14]; exact xor0 ba2.1 (by omega) t2
    have z2 : ρ.i 15 = (ρ.e 1).val.a2 := by rw [d15]; exact xor0 bb2.1 (by omega) t2
    have t3 : ρ.i 17 = 0 := by rw [d17]; exact and0 _ _ x3
    have y3 : ρ.i 18 = (ρ.e 0).val.a3 := by rw [d18]; exact xor0 ba3.1 (by omega) t3
    have z3 : ρ.i 19 = (ρ.e 1).val.a3 := by rw [d19]; exact xor0 bb3.1 (by omega) t3
    have t4 : ρ.i 21 = 0 := by rw [d21]; exact and0 _ _ x3
    have y4 : ρ.i 22 = (ρ.e 0).val.a4 := by rw [d22]; exact xor0 ba4.1 (by omega) t4
    have z4 : ρ.i 23 = (ρ.e 1).val.a4 := by rw [d23]; exact xor0 bb4.1 (by omega) t4
    exact ⟨⟨y0, y1, y2, y3, y4⟩, ⟨z0, z1, z2, z3, z4⟩⟩
  · have x2 : ρ.i 2 = 0 := by rw [d2, d1]; decide
    have x3 : ρ.i 3 = 18446744073709551615 := by rw [d3, not0 _ x2]
    rw [if_pos rfl, if_pos rfl]
    have t0 := xorM ba0.1 (by omega) bb0.1 (by omega) x3 d4 d5
    have y0 : ρ.i 6 = (ρ.e 1).val.a0 := by rw [d6]; exact t0.1
    have z0 : ρ.i 7 = (ρ.e 0).val.a0 := by rw [d7]; exact t0.2
    have t1 := xorM ba1.1 (by omega) bb1.1 (by omega) x3 d8 d9
    have y1 : ρ.i 10 = (ρ.e 1).val.a1 := by rw [d10]; exact t1.1
    have z1 : ρ.i 11 = (ρ.e 0).val.a1 := by rw [d11]; exact t1.2
    have t2 := xorM ba2.1 (by omega) bb2.1 (by omega) x3 d12 d13
    have y2 : ρ.i 14 = (ρ.e 1).val.a2 := by rw [d14]; exact t2.1
    have z2 : ρ.i 15 = (ρ.e 0).val.a2 := by rw [d15]; exact t2.2
    have t3 := xorM ba3.1 (by omega) bb3.1 (by omega) x3 d16 d17
    have y3 : ρ.i 18 = (ρ.e 1).val.a3 := by rw [d18]; exact t3.1
    have z3 : ρ.i 19 = (ρ.e 0).val.a3 := by rw [d19]; exact t3.2
    have t4 := xorM ba4.1 (by omega) bb4.1 (by omega) x3 d20 d21
    have y4 : ρ.i 22 = (ρ.e 1).val.a4 := by rw [d22]; exact t4.1
    have z4 : ρ.i 23 = (ρ.e 0).val.a4 := by rw [d23]; exact t4.2
    exact ⟨⟨y0, y1, y2, y3, y4⟩, ⟨z0, z1, z2, z3, z4⟩⟩
theorem rd_of_cells {w : World} {v : Nat × Nat} {e : Elt} (h0 : w.cell? ⟨v.1, v.2 + 0, none⟩ = some (.int .u64 e.1.a0)) (h1 : w.cell? ⟨v.1, v.2 + 1, none⟩ = some (.int .u64 e.1.a1)) (h2 : w.cell? ⟨v.1, v.2 + 2, none⟩ = some (.int .u64 e.1.a2)) (h3 : w.cell? ⟨v.1, v.2 + 3, none⟩ = some (.int .u64 e.1.a3)) (h4 : w.cell? ⟨v.1, v.2 + 4, none⟩ = some (.int .u64 e.1.a4)) : Rd w v e := by
  intro j hj
  match j, hj with
  | 0, _ => exact h0
  | 1, _ => exact h1
  | 2, _ => exact h2
  | 3, _ => exact h3
  | 4, _ => exact h4
theorem sw_c : SwC Tryd.prog 23 := by
  intro w p q a b c hc op oq ra rb hap
  have hm0 : MRep (envS a b c) (SofL [p, q] [⟨limbs 0, true⟩, ⟨limbs 1, true⟩]) w (adrL [p, q]) [⟨limbs 0, true⟩, ⟨limbs 1, true⟩] w := by
    refine mrep_of rfl (fun k r ch hp hch => ?_) (fun k k' r r' ch ch' hlt hp hp' hch hch' => ?_)
    · match k, hp, hch with
      | 0, hp, hch =>
        simp only [List.getElem?_cons_zero, Option.some.injEq] at hp hch
        subst hp hch
        exact lies_limbs (ρ := envS a b c) (e := 0) ra true (fun _ => op)
      | 1, hp, hch =>
        simp only [List.getElem?_cons_succ, List.getElem?_cons_zero, Option.some.injEq] at hp hch
        subst hp hch
        exact lies_limbs (ρ := envS a b c) (e := 1) rb true (fun _ => oq)
      | k + 2, hp, _ => simp at hp
    · have h1 := (List.getElem?_eq_some_iff.1 hp').1
      simp only [List.length_cons, List.length_nil] at h1
      have e1 : k = 0 := by omega
      have e2 : k' = 1 := by omega
      subst e1 e2
      simp only [List.getElem?_cons_succ, List.getElem?_cons_zero, Option.some.injEq] at hp hp' hch hch'
      subst hp hp' hch hch'
      exact hap
  have hv : VRels (envS a b c) (adrL [p, q]) [.ptr 0 0, .ptr 1 0, .int .i64 (.x 0)] [ptrV p, ptrV q, .int .i64 c] := by
    simp only [VRels, VRel]
    refine ⟨_, _, rfl, ⟨p.1, p.2, rfl, rfl⟩, _, _, rfl, ⟨q.1, q.2, rfl, rfl⟩, _, _, rfl, ⟨rfl, ?_⟩, rfl⟩
    show inR .i64 c
    rcases hc with rfl | rfl <;> decide
  refine (run_calls (body_ok tabW_ok _ _) swp_run hm0 (fun g c hgc => by simp at hgc) hv fun ρ' ha hd => (sw_math ρ' c hc (ha.i 0 (by decide)) hd).1).mono ?_
  rintro r w' ⟨ρ', α', ha, hd, hext, hret, hm⟩
  obtain ⟨_, ⟨y0, y1, y2, y3, y4⟩, z0, z1, z2, z3, z4⟩ := sw_math ρ' c hc (ha.i 0 (by decide)) hd
  have e0 : ρ'.e 0 = a := ha.e 0 (by decide)
  have e1 : ρ'.e 1 = b := ha.e 1 (by decide)
  rw [e0, e1] at y0 y1 y2 y3 y4 z0 z1 z2 z3 z4
  have h0 : α' 0 = some p := hext 0 (by decide)
  have h1 : α' 1 = some q := hext 1 (by decide)
  have cell0 : ∀ (j : Nat) (x : Sx), [SV.int .u64 (.x 6), SV.int .u64 (.x 10), SV.int .u64 (.x 14), SV.int .u64 (.x 18), SV.int .u64 (.x 22)][j]? = some (.int .u64 x) → w'.cell? ⟨p.1, p.2 + j, none⟩ = some (.int .u64 (x.val ρ')) := by
    intro j x hx
    obtain ⟨u, h2, h3⟩ := hm.cell 0 ⟨[SV.int .u64 (.x 6), SV.int .u64 (.x 10), SV.int .u64 (.x 14), SV.int .u64 (.x 18), SV.int .u64 (.x 22)], true⟩ p.1 p.2 rfl h0 j _ hx
    simp only [VRel] at h3
    rw [h2, h3.1]
  have cell1 : ∀ (j : Nat) (x : Sx), [SV.int .u64 (.x 7), SV.int .u64 (.x 11), SV.int .u64 (.x 15), SV.int .u64 (.x 19), SV.int .u64 (.x 23)][j]? = some (.int .u64 x) → w'.cell? ⟨q.1, q.2 + j, none⟩ = some (.int .u64 (x.val ρ')) := by
    intro j x hx
    obtain ⟨u, h2, h3⟩ := hm.cell 1 ⟨[SV.int .u64 (.x 7), SV.int .u64 (.x 11), SV.int .u64 (.x 15), SV.int .u64 (.x 19), SV.int .u64 (.x 23)], true⟩ q.1 q.2 rfl h1 j _ hx
    simp only [VRel] at h3
    rw [h2, h3.1]
  refine ⟨?_, hm.fr.mono fun b j hbj => ?_, rd_of_cells (by rw [cell0 0 _ rfl, ← y0]; rfl) (by rw [cell0 1 _ rfl, ← y1]; rfl) (by rw [cell0 2 _ rfl, ← y2]; rfl) (by rw [cell0 3 _ rfl, ← y3]; rfl) (by rw [cell0 4 _ rfl, ← y4]; rfl),
    rd_of_cells (by rw [cell1 0 _ rfl, ← z0]; rfl) (by rw [cell1 1 _ rfl, ← z1]; rfl) (by rw [cell1 2 _ rfl, ← z2]; rfl) (by rw [cell1 3 _ rfl, ← z3]; rfl) (by rw [cell1 4 _ rfl, ← z4]; rfl)⟩
  · simp only [VRel, VRels] at hret
    obtain ⟨us, rfl, rfl⟩ := hret
    rfl
  · obtain ⟨k, r, ch, g1, g2, g3, g4⟩ := hbj
    match k, g1, g2 with
    | 0, g1, g2 =>
      simp only [List.getElem?_cons_zero, Option.some.injEq] at g1 g2
      subst g1 g2
      exact .inl (.inl g4)
    | 1, g1, g2 =>
      simp only [List.getElem?_cons_succ, List.getElem?_cons_zero, Option.some.injEq] at g1 g2
      subst g1 g2
      exact .inl (.inr g4)
    | k + 2, g1, _ => simp at g1
def swRule : Rule := fun ms args => match args with
  | [.ptr c o, .ptr c' o', .int .i64 x] => match readE ms.mem (c, o), readE ms.mem (c', o'), ms.mem[c]?, ms.mem[c']? with
    | some a, some b, some ch, some ch' => bif chkB ms.tr [x] && ch.wr && ch'.wr && Nat.ble (o + 5) ch.cells.length && Nat.ble (o' + 5) ch'.cells.length && (!(Nat.beq c c') || Nat.ble (o + 5) o' || Nat.ble (o' + 5) o) then
        some (.tuple [], { ms with mem := putM (putM ms.mem c o (limbs ms.ne)) c' o' (limbs (ms.ne + 1)), tr := .de (ms.ne + 1) .sel [a, b] [x] [] :: .de ms.ne .sel [b, a] [x] [] :: ms.tr, ne := ms.ne + 2 }) else none
    | _, _, _, _ => none
  | _ => none
theorem limbs_length (e : Nat) : (limbs e).length = 5 := rfl
theorem swRule_ok {P : Program} {f : FuncId} (h : SwC P f) : RuleOk P f swRule := by
  intro ρ ms ms' args ret hr hs
  unfold swRule at hr
  split at hr
  · rename_i c o c' o' x
    split at hr
    · rename_i a b ch ch' ha hb hc hc'
      cases hk : (chkB ms.tr [x] && ch.wr && ch'.wr && Nat.ble (o + 5) ch.cells.length && Nat.ble (o' + 5) ch'.cells.length && (!(Nat.beq c c') || Nat.ble (o + 5) o' || Nat.ble (o' + 5) o)) with
      | false => simp only [hk, cond_false, reduceCtorEq] at hr
      | true =>
        simp only [hk, cond_true, Option.some.injEq, Prod.mk.injEq] at hr
        obtain ⟨rfl, rfl⟩ := hr
        simp only [Bool.and_eq_true, Bool.or_eq_true, Bool.not_eq_true'] at hk
        obtain ⟨⟨⟨⟨⟨k1, k2⟩, k3⟩, k4⟩, k5⟩, k6⟩ := hk
        have k4' := Nat.le_of_ble_eq_true k4
        have k5' := Nat.le_of_ble_eq_true k5
        have hd2 : ρ.e (ms.ne + 1) = selE (x.val ρ) (ρ.e a) (ρ.e b) := hs.1
        have hd1 : ρ.e ms.ne = selE (x.val ρ) (ρ.e b) (ρ.e a) := hs.2.1
        have hs0 : Sat ρ ms.tr := hs.2.2
        obtain ⟨n, hn, h01⟩ := chkB_ok ρ ms.tr [x] hs0 k1
        simp only [List.map_cons, List.map_nil, List.cons.injEq, and_true] at hn
        subst hn
        refine ⟨⟨hs0, rfl, by show ms.mem.length ≤ (putM (putM ms.mem c o (limbs ms.ne)) c' o' (limbs (ms.ne + 1))).length; rw [putM_length, putM_length]; exact Nat.le_refl _⟩, fun S w0 α w vs hm hg hv => ?_⟩
        simp only [VRels, VRel] at hv
        obtain ⟨u1, t1, rfl, ⟨b1, s1, a1, rfl⟩, u2, t2, rfl, ⟨b2, s2, a2, rfl⟩, u3, t3, rfl, ⟨rfl, _⟩, rfl⟩ := hv
        have ra := readE_ok hm ha a1
        have rb := readE_ok hm hb a2
        have hap : Apart 5 5 (b1, s1 + o) (b2, s2 + o') := by
          by_cases hcc : c = c'
          · subst hcc
            rw [a1] at a2
            cases a2
            rcases k6 with (k6 | k6) | k6
            · simp at k6
            · have := Nat.le_of_ble_eq_true k6
              simp only [Apart]; omega
            · have := Nat.le_of_ble_eq_true k6
              simp only [Apart]; omega
          · have := hm.dis c c' ch ch' b1 s1 b2 s2 hcc hc hc' a1 a2
            simp only [Apart]; omega
        refine (h w (b1, s1 + o) (b2, s2 + o') (ρ.e a) (ρ.e b) (x.val ρ) h01 (own_at hm hc a1 k2 k4') (own_at hm hc' a2 k3 k5') ra rb hap).mono ?_
        rintro r w' ⟨rfl, hf, r1, r2⟩
        rw [← hd1] at r1
        rw [← hd2] at r2
        refine ⟨α, Ext.refl _ _, by simp only [VRel, VRels]; exact ⟨[], rfl, rfl⟩, ?_⟩
        have hl1 : o + (limbs ms.ne).length ≤ ch.cells.length := by rw [limbs_length]; exact k4'
        have hc2 : ∃ c2, (putM ms.mem c o (limbs ms.ne))[c']? = some c2 ∧ c2.cells.length = ch'.cells.length := by
          have hlt : c' < (putM ms.mem c o (limbs ms.ne)).length := by rw [putM_length]; exact (List.getElem?_eq_some_iff.1 hc').1
          obtain ⟨d, g1, _, g3⟩ := putM_shape (List.getElem?_eq_getElem hlt)
          rw [hc'] at g1
          cases g1
          exact ⟨_, List.getElem?_eq_getElem hlt, g3⟩
        obtain ⟨c2, hc2, hc2l⟩ := hc2
        have hl2 : o' + (limbs (ms.ne + 1)).length ≤ c2.cells.length := by rw [limbs_length, hc2l]; exact k5'
        refine mrep_upd hm hf (by rw [putM_length, putM_length]) (fun d dh hd => ?_) (fun bb j hbj => ?_) (fun d dh bb s hd hα j y hy => ?_)
        · obtain ⟨d1, g1, g2, g3⟩ := putM_shape hd
          obtain ⟨d2, g4, g5, g6⟩ := putM_shape g1
          exact ⟨d2, g4, g2.trans g5, g3.trans g6⟩
        · rcases hbj with ⟨g0, g1, g2⟩ | ⟨g0, g1, g2⟩
          · simp only at g0 g1 g2
            rw [g0]
            have := (hm.wr c ch b1 s1 hc a1 k2 (j - s1) (by omega)).2
            rwa [show s1 + (j - s1) = j by omega] at this
          · simp only at g0 g1 g2
            rw [g0]
            have := (hm.wr c' ch' b2 s2 hc' a2 k3 (j - s2) (by omega)).2
            rwa [show s2 + (j - s2) = j by omega] at this
        · rcases putM_cell hc2 hl2 hd hy with ⟨rfl, g1, g2, g3⟩ | ⟨d1, g1, g2, g3⟩
          · rw [a2] at hα
            cases hα
            obtain ⟨v, h2, h3⟩ := limbs_rd (α := α) r2 (j - o') y g3
            exact ⟨v, by rwa [show s2 + o' + (j - o') = s2 + j by omega] at h2, h3⟩
          · rcases putM_cell hc hl1 g1 g2 with ⟨rfl, g4, g5, g6⟩ | ⟨d2, g4, g5, g6⟩
            · rw [a1] at hα
              cases hα
              obtain ⟨v, h2, h3⟩ := limbs_rd (α := α) r1 (j - o) y g6
              exact ⟨v, by rwa [show s1 + o + (j - o) = s1 + j by omega] at h2, h3⟩
            · obtain ⟨v, h2, h3⟩ := hm.cell d d2 bb s g4 hα j y g5
              refine ⟨v, hf.cell h2 ?_, h3⟩
              rw [limbs_length] at g3 g6
              have hj : j < d2.cells.length := (List.getElem?_eq_some_iff.1 g5).1
              rintro (⟨e0, e1, e2⟩ | ⟨e0, e1, e2⟩)
              · simp only at e0 e1 e2
                rw [e0] at hα
                by_cases hdc : d = c
                · subst hdc
                  rw [a1] at hα
                  cases hα
                  exact g6 ⟨rfl, by omega, by omega⟩
                · have := hm.dis d c d2 ch b1 s b1 s1 hdc g4 hc hα a1
                  omega
              · simp only at e0 e1 e2
                rw [e0] at hα
                by_cases hdc : d = c'
                · subst hdc
                  rw [a2] at hα
                  cases hα
                  exact g3 ⟨rfl, by omega, by omega⟩
                · have := hm.dis d c' d2 ch' b2 s b2 s2 hdc g4 hc' hα a2
                  omega
    · cases hr
  · cases hr
end Go.Proofs.YtpaidbefbkokfaaDoor
