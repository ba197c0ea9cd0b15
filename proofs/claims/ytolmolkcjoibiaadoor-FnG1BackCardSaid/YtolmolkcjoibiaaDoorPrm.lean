/- Aids to the claim: what is shown here is said at each theorem. -/
namespace Go.Sx
/-! ### Primes by powers -/
def IsPr (p : Nat) : Prop := 1 < p ∧ ∀ d, d ∣ p → d = 1 ∨ d = p
def pwF : Nat → Nat → Nat → Nat → Nat
  | 0, m, _, _ => 1 % m
  | d + 1, m, x, n => bif Nat.beq n 0 then 1 % m else bif Nat.beq (n % 2) 1 then pwF d m (x * x % m) (n / 2) * x % m else pwF d m (x * x % m) (n / 2)
theorem pwF_eq : ∀ (d m x n : Nat), n < 2 ^ d → pwF d m x n = x ^ n % m
  | 0, m, x, n, h => by
    have : n = 0 := by simpa using h
    subst this
    rfl
  | d + 1, m, x, n, h => by
    unfold pwF
    cases hb : Nat.beq n 0 with
    | true =>
      have := Nat.eq_of_beq_eq_true hb
      subst this
      rfl
    | false =>
      have h2 : n / 2 < 2 ^ d := by rw [Nat.pow_succ] at h; omega
      have ih := pwF_eq d m (x * x % m) (n / 2) h2
      have hsq : (x * x % m) ^ (n / 2) % m = x ^ (2 * (n / 2)) % m := by
        rw [← Nat.pow_mod, Nat.pow_mul, Nat.pow_two]
      simp only [cond_false]
      rw [ih, hsq]
      cases ho : Nat.beq (n % 2) 1 with
      | true =>
        have ho := Nat.eq_of_beq_eq_true ho
        simp only [cond_true]
        rw [Nat.mod_mul_mod, ← Nat.pow_succ, show (2 * (n / 2)).succ = n by omega]
      | false =>
        have ho := Nat.ne_of_beq_eq_false ho
        simp only [cond_false]
        rw [show 2 * (n / 2) = n by omega]

theorem IsPr.coprime {r m : Nat} (h : IsPr r) (hn : ¬ r ∣ m) : Nat.Coprime r m := by
  rcases h.2 (Nat.gcd r m) (Nat.gcd_dvd_left r m) with h1 | h1
  · exact h1
  · exact absurd (h1 ▸ Nat.gcd_dvd_right r m) hn
def prodL : List (Nat × Nat) → Nat
  | [] => 1
  | (r, e) :: l => r ^ e * prodL l
theorem coprime_prodL {m : Nat} : ∀ (l : List (Nat × Nat)), (∀ x ∈ l, IsPr x.1) → (∀ x ∈ l, ¬ x.1 ∣ m) → Nat.Coprime (prodL l) m
  | [], _, _ => by simp [prodL]
  | (r, e) :: l, h, hn => by
    have h1 := (h (r, e) (by simp)).coprime (hn (r, e) (by simp))
    exact Nat.Coprime.mul_left (Nat.Coprime.pow_left e h1) (coprime_prodL l (fun x hx => h x (by simp [hx])) (fun x hx => hn x (by simp [hx])))

/-- Two of n + 1 pigeons sit in one of n holes. -/
theorem pigeon : ∀ (n : Nat) (f : Nat → Nat), (∀ i, i < n + 1 → f i < n) → ∃ i j, i < j ∧ j < n + 1 ∧ f i = f j
  | 0, f, h => absurd (h 0 (by omega)) (by omega)
  | n + 1, f, h => by
    by_cases hex : ∃ i, i < n + 1 ∧ f i = f (n + 1)
    · obtain ⟨i, hi, he⟩ := hex
      exact ⟨i, n + 1, hi, by omega, he⟩
    · have hne : ∀ i, i < n + 1 → f i ≠ f (n + 1) := fun i hi he => hex ⟨i, hi, he⟩
      obtain ⟨i, j, hij, hj, he⟩ := pigeon n (fun i => if f i = n then f (n + 1) else f i) (fun i hi => by
        have h1 := h i (by omega)
        have h2 := h (n + 1) (by omega)
        have h3 := hne i hi
        show (if f i = n then f (n + 1) else f i) < n
        split <;> omega)
      have g1 := hne i (by omega)
      have g2 := hne j hj
      refine ⟨i, j, hij, by omega, ?_⟩
      split at he <;> split at he <;> omega

theorem pow_mod_one {g p : Nat} (hp : 1 < p) {a : Nat} (h : g ^ a % p = 1) (k : Nat) : g ^ (a * k) % p = 1 := by
  rw [Nat.pow_mul, Nat.pow_mod, h, Nat.one_pow, Nat.mod_eq_of_lt hp]
theorem pow_mod_add {g p : Nat} {a : Nat} (h : g ^ a % p = 1) (b : Nat) : g ^ (a + b) % p = g ^ b % p := by
  rw [Nat.pow_add, Nat.mul_mod, h, Nat.one_mul, Nat.mod_mod]

/-- The least exponent. -/
theorem least {q : Nat → Prop} : ∀ (n : Nat), q n → ∃ m, q m ∧ m ≤ n ∧ ∀ k, k < m → ¬ q k := by
  intro n
  induction n using Nat.strongRecOn with
  | _ n ih =>
    intro hn
    by_cases hex : ∃ k, k < n ∧ q k
    · obtain ⟨k, hk, hq⟩ := hex
      obtain ⟨m, h1, h2, h3⟩ := ih k hk hq
      exact ⟨m, h1, by omega, h3⟩
    · exact ⟨n, hn, Nat.le_refl n, fun k hk hq => hex ⟨k, hk, hq⟩⟩

theorem lucas {p g : Nat} (l : List (Nat × Nat)) (hp : 1 < p) (hprod : p - 1 = prodL l) (hpr : ∀ x ∈ l, IsPr x.1) (h1 : g ^ (p - 1) % p = 1) (hne : ∀ x ∈ l, g ^ ((p - 1) / x.1) % p ≠ 1) :
    IsPr p ∧ ∀ a, 0 < a → a < p → a ^ (p - 1) % p = 1 := by
  obtain ⟨o, ⟨ho0, ho1⟩, ho2, ho3⟩ := least (q := fun k => 0 < k ∧ g ^ k % p = 1) (p - 1) ⟨by omega, h1⟩
  -- the order divides p - 1
  have hdvd : o ∣ p - 1 := by
    have hr : g ^ ((p - 1) % o) % p = 1 := by
      have := pow_mod_add (pow_mod_one hp ho1 ((p - 1) / o)) ((p - 1) % o)
      rw [Nat.div_add_mod] at this
      rw [← this]; exact h1
    by_cases h0 : (p - 1) % o = 0
    · exact Nat.dvd_of_mod_eq_zero h0
    · exact absurd ⟨by omega, hr⟩ (ho3 _ (Nat.mod_lt _ ho0))
  -- and is no less
  have horder : o = p - 1 := by
    obtain ⟨m, hm⟩ := hdvd
    have hm0 : 0 < m := by
      rcases Nat.eq_zero_or_pos m with h | h
      · subst h; omega
      · exact h
    by_cases hex : ∃ x ∈ l, x.1 ∣ m
    · obtain ⟨x, hx, k, hk⟩ := hex
      have hx0 : 0 < x.1 := by have := (hpr x hx).1; omega
      have : (p - 1) / x.1 = o * k := by
        rw [hm, hk, show o * (x.1 * k) = x.1 * (o * k) by rw [Nat.mul_left_comm], Nat.mul_div_cancel_left _ hx0]
      exact absurd (this ▸ pow_mod_one hp ho1 k) (hne x hx)
    · have hc := coprime_prodL l hpr fun x hx hd => hex ⟨x, hx, hd⟩
      rw [← hprod, hm] at hc
      have : m ∣ Nat.gcd (o * m) m := Nat.dvd_gcd (Nat.dvd_mul_left m o) (Nat.dvd_refl m)
      rw [hc] at this
      have := Nat.dvd_one.1 this
      rw [hm, this, Nat.mul_one]
  subst horder
  have inj : ∀ i j, i < j → j < p - 1 → g ^ i % p ≠ g ^ j % p := fun i j hij hj he => by
    have h2 : g ^ (p - 1 - i + i) % p = g ^ (p - 1 - i + j) % p := by
      rw [Nat.pow_add, Nat.pow_add, Nat.mul_mod, he, ← Nat.mul_mod]
    rw [show p - 1 - i + i = p - 1 by omega, h1, show p - 1 - i + j = p - 1 + (j - i) by omega, pow_mod_add h1] at h2
    exact ho3 (j - i) (by omega) ⟨by omega, h2.symm⟩
  have pos : ∀ i, i < p - 1 → 0 < g ^ i % p := fun i hi => by
    rcases Nat.eq_zero_or_pos (g ^ i % p) with h0 | h0
    · have h2 : g ^ (p - 1) % p = 0 := by
        rw [show p - 1 = i + (p - 1 - i) by omega, Nat.pow_add, Nat.mul_mod, h0, Nat.zero_mul, Nat.zero_mod]
      omega
    · exact h0
  have surj : ∀ a, 0 < a → a < p → ∃ k, k < p - 1 ∧ g ^ k % p = a := fun a ha hap => by
    by_cases hex : ∃ k, k < p - 1 ∧ g ^ k % p = a
    · exact hex
    · exfalso
      obtain ⟨i, j, hij, hj, he⟩ := pigeon (p - 1) (fun i => if i < p - 1 then g ^ i % p - 1 else a - 1) (fun i hi => by
        have := Nat.mod_lt (g ^ i) (show p > 0 by omega)
        show (if i < p - 1 then g ^ i % p - 1 else a - 1) < p - 1
        split <;> omega)
      rw [if_pos (show i < p - 1 by omega)] at he
      have hi := pos i (by omega)
      by_cases hj' : j < p - 1
      · rw [if_pos hj'] at he
        have := pos j hj'
        exact inj i j hij hj' (by omega)
      · rw [if_neg hj'] at he
        exact hex ⟨i, by omega, by omega⟩
  refine ⟨⟨hp, fun d hd => ?_⟩, fun a ha hap => ?_⟩
  · have hd0 : 0 < d := Nat.pos_of_dvd_of_pos hd (by omega)
    have hdp := Nat.le_of_dvd (by omega) hd
    rcases Nat.lt_or_ge d p with hlt | hge
    · left
      obtain ⟨k, hk, he⟩ := surj d hd0 hlt
      have h2 : g ^ (p - 1 - k) * d % p = 1 := by
        rw [← he, Nat.mul_mod_mod, ← Nat.pow_add, show p - 1 - k + k = p - 1 by omega]; exact h1
      have h3 : d ∣ 1 := by
        rw [← h2]
        exact (Nat.dvd_mod_iff hd).2 (Nat.dvd_mul_left d _)
      exact Nat.dvd_one.1 h3
    · right; omega
  · obtain ⟨k, hk, he⟩ := surj a ha hap
    rw [← he, ← Nat.pow_mod, ← Nat.pow_mul, Nat.mul_comm, Nat.pow_mul, Nat.pow_mod, h1, Nat.one_pow, Nat.mod_eq_of_lt hp]

/-- Small primes, by trial. -/
def tdF (p : Nat) : Nat → Nat → Bool
  | 0, _ => true
  | f + 1, d => bif Nat.beq (p % d) 0 then false else tdF p f (d + 1)
theorem tdF_sound {p : Nat} : ∀ (f d : Nat), tdF p f d = true → ∀ k, d ≤ k → k < d + f → ¬ k ∣ p
  | 0, d, _, k, h1, h2 => by omega
  | f + 1, d, h, k, h1, h2 => by
    unfold tdF at h
    cases hb : Nat.beq (p % d) 0 with
    | true => rw [hb] at h; cases h
    | false =>
      rw [hb] at h
      by_cases hk : k = d
      · subst hk
        intro hd
        exact Nat.ne_of_beq_eq_false hb (Nat.mod_eq_zero_of_dvd hd)
      · exact tdF_sound f (d + 1) h k (by omega) (by omega)
theorem pr_trial {p : Nat} (f : Nat) (hp : 1 < p) (hf : p < (f + 2) * (f + 2)) (h : tdF p f 2 = true) : IsPr p := by
  refine ⟨hp, fun d hd => ?_⟩
  obtain ⟨c, hc⟩ := hd
  have hs := tdF_sound f 2 h
  rcases Nat.lt_or_ge d 2 with h1 | h1
  · left
    rcases Nat.eq_zero_or_pos d with h0 | h0
    · subst h0; omega
    · omega
  · right
    rcases Nat.lt_or_ge c 2 with h2 | h2
    · have : c = 1 := by
        rcases Nat.eq_zero_or_pos c with h0 | h0
        · subst h0; omega
        · omega
      rw [hc, this, Nat.mul_one]
    · exfalso
      rcases Nat.lt_or_ge d (f + 2) with h3 | h3
      · exact hs d h1 (by omega) ⟨c, hc⟩
      · rcases Nat.lt_or_ge c (f + 2) with h4 | h4
        · exact hs c h2 (by omega) ⟨d, by rw [hc, Nat.mul_comm]⟩
        · have := Nat.mul_le_mul h3 h4
          omega
/-- The powers below a prime. -/
def FermatAt (p : Nat) : Prop := ∀ a, 0 < a → a < p → a ^ (p - 1) % p = 1
theorem lucas' {p g : Nat} (d : Nat) (l : List (Nat × Nat)) (hp : 1 < p) (hd : p ≤ 2 ^ d) (hprod : Nat.beq (p - 1) (prodL l) = true) (hpr : ∀ x ∈ l, IsPr x.1) (h1 : Nat.beq (pwF d p g (p - 1)) 1 = true)
    (hne : (l.all fun x => !(Nat.beq (pwF d p g ((p - 1) / x.1)) 1)) = true) : IsPr p ∧ FermatAt p := by
  refine lucas (g := g) l hp (Nat.eq_of_beq_eq_true hprod) hpr ?_ fun x hx => ?_
  · rw [← pwF_eq d p g (p - 1) (by omega)]
    exact Nat.eq_of_beq_eq_true h1
  · have hlt : (p - 1) / x.1 < 2 ^ d := Nat.lt_of_le_of_lt (Nat.div_le_self _ _) (by omega)
    rw [← pwF_eq d p g _ hlt]
    have := List.all_eq_true.1 hne x hx
    simp only [Bool.not_eq_true'] at this
    exact Nat.ne_of_beq_eq_false this
/-! ### The certificates -/
set_option maxRecDepth 100000
theorem pr_2 : IsPr 2 := pr_trial 0 (by decide) (by decide) (by decide +kernel)
theorem pr_3 : IsPr 3 := pr_trial 0 (by decide) (by decide) (by decide +kernel)
theorem pr_13 : IsPr 13 := pr_trial 2 (by decide) (by decide) (by decide +kernel)
theorem pr_29 : IsPr 29 := pr_trial 4 (by decide) (by decide) (by decide +kernel)
theorem pr_67 : IsPr 67 := pr_trial 7 (by decide) (by decide) (by decide +kernel)
theorem pr_229 : IsPr 229 := pr_trial 14 (by decide) (by decide) (by decide +kernel)
theorem pr_311 : IsPr 311 := pr_trial 16 (by decide) (by decide) (by decide +kernel)
theorem pr_983 : IsPr 983 := pr_trial 30 (by decide) (by decide) (by decide +kernel)
theorem pr_11003 : IsPr 11003 := pr_trial 103 (by decide) (by decide) (by decide +kernel)
theorem pr_11 : IsPr 11 := pr_trial 2 (by decide) (by decide) (by decide +kernel)
theorem pr_4999 : IsPr 4999 := pr_trial 69 (by decide) (by decide) (by decide +kernel)
theorem pr_3691 : IsPr 3691 := pr_trial 59 (by decide) (by decide) (by decide +kernel)
theorem luc_405928799 : IsPr 405928799 ∧ FermatAt 405928799 :=
  lucas' (g := 22) 29 [(2, 1), (11, 1), (4999, 1), (3691, 1)] (by decide) (by decide) (by decide +kernel)
    (fun x hx => by
    simp only [List.mem_cons, List.not_mem_nil, or_false] at hx
    rcases hx with rfl | rfl | rfl | rfl
    · exact pr_2
    · exact pr_11
    · exact pr_4999
    · exact pr_3691) (by decide +kernel) (by decide +kernel)
theorem pr_405928799 : IsPr 405928799 := luc_405928799.1
theorem pr_5 : IsPr 5 := pr_trial 1 (by decide) (by decide) (by decide +kernel)
theorem pr_7 : IsPr 7 := pr_trial 1 (by decide) (by decide) (by decide +kernel)
theorem pr_19 : IsPr 19 := pr_trial 3 (by decide) (by decide) (by decide +kernel)
theorem pr_37 : IsPr 37 := pr_trial 5 (by decide) (by decide) (by decide +kernel)
theorem pr_233 : IsPr 233 := pr_trial 14 (by decide) (by decide) (by decide +kernel)
theorem luc_327599 : IsPr 327599 ∧ FermatAt 327599 :=
  lucas' (g := 19) 19 [(2, 1), (19, 1), (37, 1), (233, 1)] (by decide) (by decide) (by decide +kernel)
    (fun x hx => by
    simp only [List.mem_cons, List.not_mem_nil, or_false] at hx
    rcases hx with rfl | rfl | rfl | rfl
    · exact pr_2
    · exact pr_19
    · exact pr_37
    · exact pr_233) (by decide +kernel) (by decide +kernel)
theorem pr_327599 : IsPr 327599 := luc_327599.1
theorem luc_11465965001 : IsPr 11465965001 ∧ FermatAt 11465965001 :=
  lucas' (g := 3) 34 [(2, 3), (5, 4), (7, 1), (327599, 1)] (by decide) (by decide) (by decide +kernel)
    (fun x hx => by
    simp only [List.mem_cons, List.not_mem_nil, or_false] at hx
    rcases hx with rfl | rfl | rfl | rfl
    · exact pr_2
    · exact pr_5
    · exact pr_7
    · exact pr_327599) (by decide +kernel) (by decide +kernel)
theorem pr_11465965001 : IsPr 11465965001 := luc_11465965001.1
theorem pr_271 : IsPr 271 := pr_trial 15 (by decide) (by decide) (by decide +kernel)
theorem luc_1853641 : IsPr 1853641 ∧ FermatAt 1853641 :=
  lucas' (g := 17) 21 [(2, 3), (3, 2), (5, 1), (19, 1), (271, 1)] (by decide) (by decide) (by decide +kernel)
    (fun x hx => by
    simp only [List.mem_cons, List.not_mem_nil, or_false] at hx
    rcases hx with rfl | rfl | rfl | rfl | rfl
    · exact pr_2
    · exact pr_3
    · exact pr_5
    · exact pr_19
    · exact pr_271) (by decide +kernel) (by decide +kernel)
theorem pr_1853641 : IsPr 1853641 := luc_1853641.1
theorem pr_17 : IsPr 17 := pr_trial 3 (by decide) (by decide) (by decide +kernel)
theorem pr_109 : IsPr 109 := pr_trial 9 (by decide) (by decide) (by decide +kernel)
theorem pr_1231 : IsPr 1231 := pr_trial 34 (by decide) (by decide) (by decide +kernel)
theorem luc_4562087 : IsPr 4562087 ∧ FermatAt 4562087 :=
  lucas' (g := 5) 23 [(2, 1), (17, 1), (109, 1), (1231, 1)] (by decide) (by decide) (by decide +kernel)
    (fun x hx => by
    simp only [List.mem_cons, List.not_mem_nil, or_false] at hx
    rcases hx with rfl | rfl | rfl | rfl
    · exact pr_2
    · exact pr_17
    · exact pr_109
    · exact pr_1231) (by decide +kernel) (by decide +kernel)
theorem pr_4562087 : IsPr 4562087 := luc_4562087.1
theorem pr_73 : IsPr 73 := pr_trial 7 (by decide) (by decide) (by decide +kernel)
theorem pr_89 : IsPr 89 := pr_trial 8 (by decide) (by decide) (by decide +kernel)
theorem pr_13327 : IsPr 13327 := pr_trial 114 (by decide) (by decide) (by decide +kernel)
theorem luc_173171039 : IsPr 173171039 ∧ FermatAt 173171039 :=
  lucas' (g := 13) 28 [(2, 1), (73, 1), (89, 1), (13327, 1)] (by decide) (by decide) (by decide +kernel)
    (fun x hx => by
    simp only [List.mem_cons, List.not_mem_nil, or_false] at hx
    rcases hx with rfl | rfl | rfl | rfl
    · exact pr_2
    · exact pr_73
    · exact pr_89
    · exact pr_13327) (by decide +kernel) (by decide +kernel)
theorem pr_173171039 : IsPr 173171039 := luc_173171039.1
theorem pr_41 : IsPr 41 := pr_trial 5 (by decide) (by decide) (by decide +kernel)
theorem pr_911 : IsPr 911 := pr_trial 29 (by decide) (by decide) (by decide +kernel)
theorem pr_3557 : IsPr 3557 := pr_trial 58 (by decide) (by decide) (by decide +kernel)
theorem luc_1263766531 : IsPr 1263766531 ∧ FermatAt 1263766531 :=
  lucas' (g := 10) 31 [(2, 1), (3, 1), (5, 1), (13, 1), (911, 1), (3557, 1)] (by decide) (by decide) (by decide +kernel)
    (fun x hx => by
    simp only [List.mem_cons, List.not_mem_nil, or_false] at hx
    rcases hx with rfl | rfl | rfl | rfl | rfl | rfl
    · exact pr_2
    · exact pr_3
    · exact pr_5
    · exact pr_13
    · exact pr_911
    · exact pr_3557) (by decide +kernel) (by decide +kernel)
theorem pr_1263766531 : IsPr 1263766531 := luc_1263766531.1
theorem luc_35385462869 : IsPr 35385462869 ∧ FermatAt 35385462869 :=
  lucas' (g := 2) 36 [(2, 2), (7, 1), (1263766531, 1)] (by decide) (by decide) (by decide +kernel)
    (fun x hx => by
    simp only [List.mem_cons, List.not_mem_nil, or_false] at hx
    rcases hx with rfl | rfl | rfl
    · exact pr_2
    · exact pr_7
    · exact pr_1263766531) (by decide +kernel) (by decide +kernel)
theorem pr_35385462869 : IsPr 35385462869 := luc_35385462869.1
theorem luc_2480874801745591 : IsPr 2480874801745591 ∧ FermatAt 2480874801745591 :=
  lucas' (g := 6) 52 [(2, 1), (3, 2), (5, 1), (19, 1), (41, 1), (35385462869, 1)] (by decide) (by decide) (by decide +kernel)
    (fun x hx => by
    simp only [List.mem_cons, List.not_mem_nil, or_false] at hx
    rcases hx with rfl | rfl | rfl | rfl | rfl | rfl
    · exact pr_2
    · exact pr_3
    · exact pr_5
    · exact pr_19
    · exact pr_41
    · exact pr_35385462869) (by decide +kernel) (by decide +kernel)
theorem pr_2480874801745591 : IsPr 2480874801745591 := luc_2480874801745591.1
theorem luc_13427688667394608761327070753331941386769 : IsPr 13427688667394608761327070753331941386769 ∧ FermatAt 13427688667394608761327070753331941386769 :=
  lucas' (g := 17) 134 [(2, 4), (3, 1), (7, 1), (11, 1), (1853641, 1), (4562087, 1), (173171039, 1), (2480874801745591, 1)] (by decide) (by decide) (by decide +kernel)
    (fun x hx => by
    simp only [List.mem_cons, List.not_mem_nil, or_false] at hx
    rcases hx with rfl | rfl | rfl | rfl | rfl | rfl | rfl | rfl
    · exact pr_2
    · exact pr_3
    · exact pr_7
    · exact pr_11
    · exact pr_1853641
    · exact pr_4562087
    · exact pr_173171039
    · exact pr_2480874801745591) (by decide +kernel) (by decide +kernel)
theorem pr_13427688667394608761327070753331941386769 : IsPr 13427688667394608761327070753331941386769 := luc_13427688667394608761327070753331941386769.1
theorem luc_21888242871839275222246405745257275088696311157297823662689037894645226208583 : IsPr 21888242871839275222246405745257275088696311157297823662689037894645226208583 ∧ FermatAt 21888242871839275222246405745257275088696311157297823662689037894645226208583 :=
  lucas' (g := 3) 254 [(2, 1), (3, 2), (13, 1), (29, 1), (67, 1), (229, 1), (311, 1), (983, 1), (11003, 1), (405928799, 1), (11465965001, 1), (13427688667394608761327070753331941386769, 1)] (by decide) (by decide) (by decide +kernel)
    (fun x hx => by
    simp only [List.mem_cons, List.not_mem_nil, or_false] at hx
    rcases hx with rfl | rfl | rfl | rfl | rfl | rfl | rfl | rfl | rfl | rfl | rfl | rfl
    · exact pr_2
    · exact pr_3
    · exact pr_13
    · exact pr_29
    · exact pr_67
    · exact pr_229
    · exact pr_311
    · exact pr_983
    · exact pr_11003
    · exact pr_405928799
    · exact pr_11465965001
    · exact pr_13427688667394608761327070753331941386769) (by decide +kernel) (by decide +kernel)
theorem pr_21888242871839275222246405745257275088696311157297823662689037894645226208583 : IsPr 21888242871839275222246405745257275088696311157297823662689037894645226208583 := luc_21888242871839275222246405745257275088696311157297823662689037894645226208583.1
end Go.Sx
