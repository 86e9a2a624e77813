/- Plain numbers: 2^255 - 19 is a prime, by Pocklington's theorem; Fermat's little theorem. No condition. -/
namespace Go.Proofs.YtpaidbefbkokfaaDoor
set_option linter.unusedVariables false

def Prm (n : Nat) : Prop := 2 ≤ n ∧ ∀ m, m ∣ n → m = 1 ∨ m = n

theorem prm_factor : ∀ n, 2 ≤ n → ∃ q, Prm q ∧ q ∣ n := by
  intro n
  induction n using Nat.strongRecOn with
  | _ n ih =>
    intro hn
    by_cases hp : Prm n
    · exact ⟨n, hp, Nat.dvd_refl n⟩
    · have : ∃ m, m ∣ n ∧ m ≠ 1 ∧ m ≠ n := by
        apply Classical.byContradiction
        intro hno
        refine hp ⟨hn, fun m hm => ?_⟩
        by_cases h1 : m = 1
        · exact Or.inl h1
        · by_cases h2 : m = n
          · exact Or.inr h2
          · exact absurd ⟨m, hm, h1, h2⟩ hno
      obtain ⟨m, hm, h1, h2⟩ := this
      have hpos : 0 < m := Nat.pos_of_dvd_of_pos hm (by omega)
      have hle : m ≤ n := Nat.le_of_dvd (by omega) hm
      obtain ⟨q, hq, hqm⟩ := ih m (by omega) (by omega)
      exact ⟨q, hq, Nat.dvd_trans hqm hm⟩

theorem bez (m n : Nat) : ∃ x y : Int, (m : Int) * x + (n : Int) * y = (Nat.gcd m n : Nat) := by
  induction m, n using Nat.gcd.induction with
  | H0 n => exact ⟨0, 1, by simp⟩
  | H1 m n hm ih =>
    obtain ⟨x, y, h⟩ := ih
    refine ⟨y - (n / m : Nat) * x, x, ?_⟩
    rw [Nat.gcd_rec m n, ← h]
    have e : ((n % m : Nat) : Int) = (n : Int) - (m : Int) * ((n / m : Nat) : Int) := by
      have := Nat.div_add_mod n m
      have h2 : ((m * (n / m) + n % m : Nat) : Int) = (n : Int) := by rw [this]
      rw [Int.natCast_add, Int.natCast_mul] at h2
      omega
    rw [e]
    grind

theorem prm_coprime {p a : Nat} (hp : Prm p) (h : ¬ p ∣ a) : Nat.gcd a p = 1 := by
  have h1 := Nat.gcd_dvd_left a p
  have h2 := Nat.gcd_dvd_right a p
  rcases hp.2 _ h2 with h3 | h3
  · exact h3
  · rw [h3] at h1; exact absurd h1 h

/-- The inverse modulo n of what is coprime to it. -/
theorem inv_mod (a n : Nat) (hn : 2 ≤ n) (h : Nat.gcd a n = 1) : ∃ x, a * x % n = 1 := by
  obtain ⟨x, y, e⟩ := bez a n
  rw [h] at e
  refine ⟨(x % (n : Int)).toNat, ?_⟩
  have hx0 : 0 ≤ x % (n : Int) := Int.emod_nonneg _ (by omega)
  have key : ((a : Int) * (x % (n : Int))) % (n : Int) = 1 := by
    rw [Int.mul_emod, Int.emod_emod_of_dvd _ (Int.dvd_refl _), ← Int.mul_emod]
    have : (a : Int) * x = 1 + (n : Int) * (-y) := by
      have : ((1 : Nat) : Int) = 1 := rfl
      rw [this] at e
      rw [Int.mul_neg]; omega
    rw [this, Int.add_mul_emod_self_left]
    exact Int.emod_eq_of_lt (by omega) (by omega)
  have : ((a * (x % (n : Int)).toNat % n : Nat) : Int) = 1 := by
    rw [Int.natCast_emod, Int.natCast_mul, Int.toNat_of_nonneg hx0]; exact key
  omega

theorem prm_dvd_mul {p a b : Nat} (hp : Prm p) (h : p ∣ a * b) : p ∣ a ∨ p ∣ b := by
  by_cases ha : p ∣ a
  · exact Or.inl ha
  · have := prm_coprime hp ha
    have hc : Nat.Coprime p a := by rw [Nat.coprime_comm]; exact this
    exact Or.inr (hc.dvd_of_dvd_mul_left h)

def lprod : List Nat → Nat
  | [] => 1
  | x :: l => x * lprod l

theorem lprod_perm {l m : List Nat} (h : l.Perm m) : lprod l = lprod m := by
  induction h with
  | nil => rfl
  | cons x _ ih => simp [lprod, ih]
  | swap x y l => simp only [lprod]; rw [← Nat.mul_assoc, ← Nat.mul_assoc, Nat.mul_comm y x]
  | trans _ _ h1 h2 => exact h1.trans h2

theorem lprod_map (a r : Nat) (l : List Nat) : lprod (l.map fun x => a * x % r) % r = a ^ l.length * lprod l % r := by
  induction l with
  | nil => simp [lprod]
  | cons x l ih =>
    simp only [List.map_cons, lprod, List.length_cons]
    rw [Nat.mul_mod, ih, Nat.mod_mod, ← Nat.mul_mod]
    congr 1
    rw [Nat.pow_succ]
    grind

theorem not_dvd_lprod {p : Nat} (hp : Prm p) (l : List Nat) (h : ∀ x ∈ l, ¬ p ∣ x) : ¬ p ∣ lprod l := by
  induction l with
  | nil =>
    intro hd
    have := Nat.le_of_dvd (by decide) hd
    have := hp.1
    simp [lprod] at *
    omega
  | cons x l ih =>
    intro hd
    rcases prm_dvd_mul hp hd with h1 | h1
    · exact h x (by simp) h1
    · exact ih (fun y hy => h y (by simp [hy])) h1

theorem count_nodup {l : List Nat} (h : l.Nodup) (a : Nat) : l.count a = if a ∈ l then 1 else 0 := by
  induction l with
  | nil => simp
  | cons x l ih =>
    rw [List.nodup_cons] at h
    rw [List.count_cons, ih h.2]
    by_cases hx : x = a
    · subst hx; simp [h.1]
    · have : ¬ a = x := fun e => hx e.symm
      simp [hx, this]

theorem fermat {p : Nat} (hp : Prm p) (a : Nat) (ha : ¬ p ∣ a) : a ^ (p - 1) % p = 1 := by
  have h2 := hp.1
  obtain ⟨b, hb⟩ := inv_mod a p hp.1 (prm_coprime hp ha)
  have hL : ∀ x, x ∈ List.range' 1 (p - 1) ↔ 1 ≤ x ∧ x < p := by
    intro x; rw [List.mem_range'_1]; omega
  have hnd : (List.range' 1 (p - 1)).Nodup := List.nodup_range'
  have hab : ∀ x, x < p → b * (a * x % p) % p = x := by
    intro x hx
    have e : b * (a * x) = a * b * x := by grind
    rw [Nat.mul_mod, Nat.mod_mod, ← Nat.mul_mod, e, Nat.mul_mod, hb, Nat.one_mul, Nat.mod_mod, Nat.mod_eq_of_lt hx]
  have hba : ∀ x, x < p → a * (b * x % p) % p = x := by
    intro x hx
    have e : a * (b * x) = a * b * x := by grind
    rw [Nat.mul_mod, Nat.mod_mod, ← Nat.mul_mod, e, Nat.mul_mod, hb, Nat.one_mul, Nat.mod_mod, Nat.mod_eq_of_lt hx]
  have hnz : ∀ c d x, (∀ y, y < p → d * (c * y % p) % p = y) → 1 ≤ x → x < p → 1 ≤ c * x % p ∧ c * x % p < p := by
    intro c d x h h1 hx
    refine ⟨?_, Nat.mod_lt _ (by omega)⟩
    rcases Nat.eq_zero_or_pos (c * x % p) with h0 | h0
    · have := h x hx
      rw [h0] at this
      simp at this
      omega
    · exact h0
  have hM : ((List.range' 1 (p - 1)).map fun x => a * x % p).Perm (List.range' 1 (p - 1)) := by
    rw [List.perm_iff_count]
    intro y
    have hmnd : ((List.range' 1 (p - 1)).map fun x => a * x % p).Nodup := by
      unfold List.Nodup
      rw [List.pairwise_map]
      have hnd' : (List.range' 1 (p - 1)).Pairwise (fun x y => x ≠ y) := hnd
      refine List.Pairwise.imp_of_mem ?_ hnd'
      intro x z hx hz hne he
      apply hne
      rw [← hab x ((hL x).1 hx).2, ← hab z ((hL z).1 hz).2, he]
    rw [count_nodup hmnd, count_nodup hnd]
    have : (y ∈ (List.range' 1 (p - 1)).map fun x => a * x % p) ↔ y ∈ List.range' 1 (p - 1) := by
      constructor
      · intro h
        obtain ⟨x, hx, rfl⟩ := List.mem_map.1 h
        rw [hL] at hx ⊢
        exact hnz a b x hab hx.1 hx.2
      · intro h
        rw [hL] at h
        refine List.mem_map.2 ⟨b * y % p, ?_, hba y h.2⟩
        rw [hL]
        exact hnz b a y hba h.1 h.2
    by_cases hy : y ∈ List.range' 1 (p - 1)
    · rw [if_pos hy, if_pos (this.2 hy)]
    · rw [if_neg hy, if_neg (fun h => hy (this.1 h))]
  have h3 := lprod_map a p (List.range' 1 (p - 1))
  rw [lprod_perm hM, List.length_range'] at h3
  have h4 : ¬ p ∣ lprod (List.range' 1 (p - 1)) := by
    refine not_dvd_lprod hp _ fun x hx hd => ?_
    rw [hL] at hx
    have := Nat.le_of_dvd (by omega) hd
    omega
  generalize lprod (List.range' 1 (p - 1)) = L at h3 h4
  have h5 : 1 ≤ a ^ (p - 1) := by
    rcases Nat.eq_zero_or_pos (a ^ (p - 1)) with h0 | h0
    · rw [h0] at h3; simp at h3
      exact absurd (Nat.dvd_of_mod_eq_zero h3) h4
    · exact h0
  have h6 : p ∣ (a ^ (p - 1) - 1) * L := by
    rw [Nat.sub_mul, Nat.one_mul]
    exact Nat.dvd_of_mod_eq_zero (Nat.sub_mod_eq_zero_of_mod_eq h3.symm)
  rcases prm_dvd_mul hp h6 with h7 | h7
  · obtain ⟨k, hk⟩ := h7
    have : a ^ (p - 1) = 1 + p * k := by omega
    rw [this, Nat.add_mul_mod_self_left, Nat.mod_eq_of_lt (by omega)]
  · exact absurd h7 h4

theorem pow_dvd_one {r b q : Nat} (hr : 2 ≤ r) (h : b ^ q % r = 1) (k : Nat) : b ^ (q * k) % r = 1 := by
  induction k with
  | zero => simp; exact Nat.mod_eq_of_lt (by omega)
  | succ k ih =>
    rw [Nat.mul_succ, Nat.pow_add, Nat.mul_mod, ih, h]
    exact Nat.mod_eq_of_lt (by omega)

/-- Pocklington's step: each prime factor r of n is 1 modulo q. -/
theorem pock_step {n a q m r : Nat} (hq : Prm q) (hn : n - 1 = q * m) (h1 : a ^ (q * m) % n = 1) (h2 : Nat.gcd (a ^ m - 1) n = 1) (hr : Prm r) (hrn : r ∣ n) : q ∣ r - 1 := by
  apply Classical.byContradiction
  intro hno
  have hr2 := hr.1
  have e1 : (a ^ m) ^ q % r = 1 := by
    rw [← Nat.pow_mul, Nat.mul_comm m q]
    have := Nat.mod_mod_of_dvd (a ^ (q * m)) hrn
    rw [h1] at this
    rw [← this]; exact Nat.mod_eq_of_lt (by omega)
  have hq2 := hq.1
  have hnd : ¬ r ∣ a ^ m := by
    intro hd
    have : r ∣ (a ^ m) ^ q := by
      obtain ⟨c, hc⟩ := Nat.exists_eq_add_of_le hq2
      rw [hc, Nat.pow_add, show (a ^ m) ^ 2 = a ^ m * a ^ m from Nat.pow_two _, Nat.mul_assoc]
      exact Nat.dvd_mul_right_of_dvd hd _
    rw [Nat.mod_eq_zero_of_dvd this] at e1
    cases e1
  have e2 := fermat hr (a ^ m) hnd
  have hr3 : 2 ≤ r - 1 := by
    apply Classical.byContradiction
    intro h
    have : r = 2 := by omega
    subst this
    -- modulo 2 the base is 1, so 2 divides a ^ m - 1 and n
    have h5 : 2 ∣ a ^ m - 1 := by
      have : a ^ m % 2 = 1 := by
        rcases Nat.mod_two_eq_zero_or_one (a ^ m) with h | h
        · exact absurd (Nat.dvd_of_mod_eq_zero h) hnd
        · exact h
      omega
    have := Nat.dvd_gcd h5 hrn
    rw [h2] at this
    have := Nat.le_of_dvd (by decide) this
    omega
  have hcop : Nat.gcd q (r - 1) = 1 := by
    have h3 := Nat.gcd_dvd_left q (r - 1)
    rcases hq.2 _ h3 with h4 | h4
    · exact h4
    · exact absurd (h4 ▸ Nat.gcd_dvd_right q (r - 1)) hno
  obtain ⟨u, hu⟩ := inv_mod q (r - 1) hr3 hcop
  have hk := Nat.div_add_mod (q * u) (r - 1)
  rw [hu] at hk
  have e3 := pow_dvd_one hr2 e1 u
  have e4 := pow_dvd_one hr2 e2 (q * u / (r - 1))
  rw [← hk, Nat.pow_add, Nat.mul_mod, e4, Nat.one_mul, Nat.mod_mod, Nat.pow_one] at e3
  have h5 : r ∣ a ^ m - 1 := by
    have h6 := Nat.div_add_mod (a ^ m) r
    rw [e3] at h6
    exact ⟨a ^ m / r, by omega⟩
  have := Nat.dvd_gcd h5 hrn
  rw [h2] at this
  have := Nat.le_of_dvd (by decide) this
  omega

theorem prm_of_large {n F : Nat} (hn : 2 ≤ n) (h : ∀ r, Prm r → r ∣ n → F < r) (hF : n < (F + 1) * (F + 1)) : Prm n := by
  refine ⟨hn, fun m hm => ?_⟩
  apply Classical.byContradiction
  intro hno
  obtain ⟨k, hk⟩ := hm
  have h1 : m ≠ 1 := fun e => hno (Or.inl e)
  have h2 : m ≠ n := fun e => hno (Or.inr e)
  have hm0 : m ≠ 0 := by intro e; subst e; simp at hk; omega
  have hk0 : k ≠ 0 := by intro e; subst e; simp at hk; omega
  have hk1 : k ≠ 1 := by intro e; subst e; simp at hk; omega
  obtain ⟨r1, p1, d1⟩ := prm_factor m (by omega)
  obtain ⟨r2, p2, d2⟩ := prm_factor k (by omega)
  have g1 := h r1 p1 (Nat.dvd_trans d1 ⟨k, hk⟩)
  have g2 := h r2 p2 (Nat.dvd_trans d2 ⟨m, by rw [hk, Nat.mul_comm]⟩)
  have l1 := Nat.le_of_dvd (by omega) d1
  have l2 := Nat.le_of_dvd (by omega) d2
  have : (F + 1) * (F + 1) ≤ m * k := Nat.mul_le_mul (by omega) (by omega)
  omega

theorem pock1 {n a q m : Nat} (hn2 : 2 ≤ n) (hq : Prm q) (hn : n - 1 = q * m) (h1 : a ^ (q * m) % n = 1) (h2 : Nat.gcd (a ^ m - 1) n = 1) (hF : n < (q + 1) * (q + 1)) : Prm n := by
  refine prm_of_large hn2 (fun r hr hrn => ?_) hF
  have := pock_step hq hn h1 h2 hr hrn
  have hr2 := hr.1
  have := Nat.le_of_dvd (by omega) this
  omega

theorem pock2 {n a q m q' m' : Nat} (hn2 : 2 ≤ n) (hq : Prm q) (hq' : Prm q') (hne : q ≠ q') (hn : n - 1 = q * m) (hn' : n - 1 = q' * m') (h1 : a ^ (q * m) % n = 1) (h1' : a ^ (q' * m') % n = 1)
    (h2 : Nat.gcd (a ^ m - 1) n = 1) (h2' : Nat.gcd (a ^ m' - 1) n = 1) (hF : n < (q * q' + 1) * (q * q' + 1)) : Prm n := by
  refine prm_of_large hn2 (fun r hr hrn => ?_) hF
  have d1 := pock_step hq hn h1 h2 hr hrn
  have d2 := pock_step hq' hn' h1' h2' hr hrn
  have hc : Nat.Coprime q q' := by
    have h3 := Nat.gcd_dvd_left q q'
    have h4 := Nat.gcd_dvd_right q q'
    rcases hq.2 _ h3 with h5 | h5
    · exact h5
    · rw [h5] at h4
      rcases hq'.2 _ h4 with h6 | h6
      · have := hq.1; omega
      · exact absurd h6 hne
  have := Nat.Coprime.mul_dvd_of_dvd_of_dvd hc d1 d2
  have hr2 := hr.1
  have := Nat.le_of_dvd (by omega) this
  omega

/-- Powers modulo n by squaring. -/
def pmod (n : Nat) : Nat → Nat → Nat → Nat
  | 0, _, _ => 1 % n
  | f + 1, a, e => if e = 0 then 1 % n else if e % 2 = 1 then a * pmod n f (a * a % n) (e / 2) % n else pmod n f (a * a % n) (e / 2)

theorem pmod_eq (n : Nat) : ∀ f a e, e < 2 ^ f → pmod n f a e = a ^ e % n := by
  intro f
  induction f with
  | zero => intro a e h; have : e = 0 := by simp at h; omega
            subst this; simp [pmod]
  | succ f ih =>
    intro a e h
    unfold pmod
    by_cases h0 : e = 0
    · subst h0; simp
    · rw [if_neg h0, ih _ _ (by rw [Nat.pow_succ] at h; omega)]
      have key : (a * a % n) ^ (e / 2) % n = a ^ (2 * (e / 2)) % n := by
        rw [← Nat.pow_mod, Nat.pow_mul, Nat.pow_two]
      by_cases h1 : e % 2 = 1
      · rw [if_pos h1]
        have : e = 2 * (e / 2) + 1 := by omega
        conv => rhs; rw [this, Nat.pow_succ]
        rw [Nat.mul_mod, key, Nat.mod_mod, ← Nat.mul_mod, Nat.mul_comm]
      · rw [if_neg h1, key]
        have : 2 * (e / 2) = e := by omega
        rw [this]

theorem gcd_pow_sub {n a m x : Nat} (h : a ^ m % n = x) (hx : 1 ≤ x) (ha : 1 ≤ a) (g : Nat.gcd (x - 1) n = 1) : Nat.gcd (a ^ m - 1) n = 1 := by
  have e : (a ^ m - 1) % n = (x - 1) % n := by
    have h1 := Nat.div_add_mod (a ^ m) n
    rw [h] at h1
    have : a ^ m - 1 = (x - 1) + n * (a ^ m / n) := by omega
    rw [this, Nat.add_mul_mod_self_left]
  rw [Nat.gcd_comm, Nat.gcd_rec, e, ← Nat.gcd_rec, Nat.gcd_comm]
  exact g

/-- No divisor from 2 to F. -/
def noDiv (n : Nat) : Nat → Bool
  | 0 => true
  | 1 => true
  | k + 2 => (n % (k + 2) != 0) && noDiv n (k + 1)

theorem noDiv_spec (n : Nat) : ∀ F, noDiv n F = true → ∀ d, 2 ≤ d → d ≤ F → ¬ d ∣ n := by
  intro F
  induction F with
  | zero => intro _ d h1 h2; omega
  | succ F ih =>
    intro h d h1 h2 hd
    cases F with
    | zero => omega
    | succ F =>
      simp only [noDiv, Bool.and_eq_true, bne_iff_ne] at h
      by_cases e : d = F + 2
      · subst e; exact h.1 (Nat.mod_eq_zero_of_dvd hd)
      · exact ih h.2 d h1 (by omega) hd

theorem prm_small {n F : Nat} (hn : 2 ≤ n) (h : noDiv n F = true) (hF : n < (F + 1) * (F + 1)) : Prm n := by
  refine prm_of_large hn (fun r hr hrn => ?_) hF
  apply Classical.byContradiction
  intro hle
  exact noDiv_spec n F h r hr.1 (by omega) hrn

theorem prm_127 : Prm 127 := prm_small (F := 12) (by decide) (by decide +kernel) (by decide)
theorem prm_569003 : Prm 569003 := prm_small (F := 755) (by decide) (by decide +kernel) (by decide)
theorem prm_1923133 : Prm 1923133 := prm_small (F := 1390) (by decide) (by decide +kernel) (by decide)
theorem prm_8574133 : Prm 8574133 := prm_small (F := 2930) (by decide) (by decide +kernel) (by decide)

theorem pock1' {n a q m : Nat} (f x : Nat) (hn2 : 2 ≤ n) (hq : Prm q) (hn : n - 1 = q * m) (ha : 1 ≤ a) (hf : n - 1 < 2 ^ f) (hm : m < 2 ^ f) (h1 : pmod n f a (n - 1) = 1) (hx : pmod n f a m = x) (hx1 : 1 ≤ x) (h2 : Nat.gcd (x - 1) n = 1) (hF : n < (q + 1) * (q + 1)) : Prm n :=
  pock1 (a := a) hn2 hq hn (by rw [← hn, ← pmod_eq n f a _ hf]; exact h1) (gcd_pow_sub (by rw [← pmod_eq n f a m hm]; exact hx) hx1 ha h2) hF
theorem pock2' {n a q m q' m' : Nat} (f x x' : Nat) (hn2 : 2 ≤ n) (hq : Prm q) (hq' : Prm q') (hne : q ≠ q') (hn : n - 1 = q * m) (hn' : n - 1 = q' * m') (ha : 1 ≤ a) (hf : n - 1 < 2 ^ f) (hm : m < 2 ^ f) (hm' : m' < 2 ^ f) (h1 : pmod n f a (n - 1) = 1)
    (hx : pmod n f a m = x) (hx1 : 1 ≤ x) (h2 : Nat.gcd (x - 1) n = 1) (hx' : pmod n f a m' = x') (hx1' : 1 ≤ x') (h2' : Nat.gcd (x' - 1) n = 1) (hF : n < (q * q' + 1) * (q * q' + 1)) : Prm n :=
  pock2 (a := a) hn2 hq hq' hne hn hn' (by rw [← hn, ← pmod_eq n f a _ hf]; exact h1) (by rw [← hn', ← pmod_eq n f a _ hf]; exact h1) (gcd_pow_sub (by rw [← pmod_eq n f a m hm]; exact hx) hx1 ha h2) (gcd_pow_sub (by rw [← pmod_eq n f a m' hm']; exact hx') hx1' ha h2') hF
theorem pw {n a e x : Nat} (f : Nat) (he : e < 2 ^ f) (h : pmod n f a e = x) : a ^ e % n = x := by rw [← pmod_eq n f a e he]; exact h
theorem prm_a1 : Prm 2773320623 :=
  pock1' (a := 2) (q := 569003) (m := 4874) 33 2039232613 (by decide +kernel) prm_569003 (by decide +kernel) (by decide +kernel) (by decide +kernel) (by decide +kernel) (by decide +kernel) (by decide +kernel) (by decide +kernel) (by decide +kernel) (by decide +kernel)
theorem prm_a2 : Prm 72106336199 :=
  pock1' (a := 2) (q := 2773320623) (m := 26) 38 67108864 (by decide +kernel) prm_a1 (by decide +kernel) (by decide +kernel) (by decide +kernel) (by decide +kernel) (by decide +kernel) (by decide +kernel) (by decide +kernel) (by decide +kernel) (by decide +kernel)
theorem prm_a3 : Prm 1919519569386763 :=
  pock2' (a := 2) (q := 8574133) (m := 223873314) (q' := 127) (m' := 15114327318006) 52 1059928654987441 576774792492622 (by decide +kernel) prm_8574133 prm_127 (by decide +kernel) (by decide +kernel) (by decide +kernel) (by decide +kernel) (by decide +kernel) (by decide +kernel) (by decide +kernel) (by decide +kernel) (by decide +kernel) (by decide +kernel) (by decide +kernel) (by decide +kernel) (by decide +kernel) (by decide +kernel) (by decide +kernel)
theorem prm_a4 : Prm 75445702479781427272750846543864801 :=
  pock2' (a := 2) (q := 1919519569386763) (m := 39304471641247389600) (q' := 72106336199) (m' := 1046311689884858398375200) 117 56747016255153332959347766392083459 71619851993489548214160924360205394 (by decide +kernel) prm_a3 prm_a2 (by decide +kernel) (by decide +kernel) (by decide +kernel) (by decide +kernel) (by decide +kernel) (by decide +kernel) (by decide +kernel) (by decide +kernel) (by decide +kernel) (by decide +kernel) (by decide +kernel) (by decide +kernel) (by decide +kernel) (by decide +kernel) (by decide +kernel)
theorem prm_a5 : Prm 74058212732561358302231226437062788676166966415465897661863160754340907 :=
  pock2' (a := 2) (q := 75445702479781427272750846543864801) (m := 981609426360740691344999861639072106) (q' := 1923133) (m' := 38509147694185143878364744631319200843710219946028640589009268082) 237 69490809710348678725736597923071784769591275419387514694139338586948360 52266576830164329332527201090776533817489900267135412990654516667243924 (by decide +kernel) prm_a4 prm_1923133 (by decide +kernel) (by decide +kernel) (by decide +kernel) (by decide +kernel) (by decide +kernel) (by decide +kernel) (by decide +kernel) (by decide +kernel) (by decide +kernel) (by decide +kernel) (by decide +kernel) (by decide +kernel) (by decide +kernel) (by decide +kernel) (by decide +kernel)
theorem prm_P : Prm 57896044618658097711785492504343953926634992332820282019728792003956564819949 :=
  pock1' (a := 2) (q := 74058212732561358302231226437062788676166966415465897661863160754340907) (m := 781764) 256 427094198651976259540344842774561673889945192655078505504941250475370961481 (by decide +kernel) prm_a5 (by decide +kernel) (by decide +kernel) (by decide +kernel) (by decide +kernel) (by decide +kernel) (by decide +kernel) (by decide +kernel) (by decide +kernel) (by decide +kernel)
end Go.Proofs.YtpaidbefbkokfaaDoor
