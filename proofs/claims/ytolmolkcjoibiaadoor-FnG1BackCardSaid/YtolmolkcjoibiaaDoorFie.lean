import Derived.Test.YtolmolkcjoibiaaDoorSg
import Derived.Test.YtolmolkcjoibiaaDoorPrm
/- Aids to the claim: what is shown here is said at each theorem. -/
namespace Go.Sx
/-! ### The field -/
theorem fin_mul_val (x y : Fq) : (x * y).val = x.val * y.val % q := rfl
theorem powF_val : ∀ (d : Nat) (x : Fq) (n : Nat), n < 2 ^ d → (powF d x n).val = x.val ^ n % q
  | 0, x, n, h => by
    have : n = 0 := by simpa using h
    subst this
    rfl
  | d + 1, x, n, h => by
    unfold powF
    by_cases h0 : n = 0
    · subst h0
      rw [if_pos rfl]
      rfl
    · have h2 : n / 2 < 2 ^ d := by rw [Nat.pow_succ] at h; omega
      have ih := powF_val d (x * x) (n / 2) h2
      have hsq : (x * x).val ^ (n / 2) % q = x.val ^ (2 * (n / 2)) % q := by
        rw [fin_mul_val, ← Nat.pow_mod, Nat.pow_mul, Nat.pow_two]
      rw [if_neg h0]
      by_cases ho : n % 2 = 1
      · rw [if_pos ho, fin_mul_val, ih, hsq, Nat.mod_mul_mod, ← Nat.pow_succ, show (2 * (n / 2)).succ = n by omega]
      · rw [if_neg ho, ih, hsq, show 2 * (n / 2) = n by omega]
theorem fpow_val (x : Fq) {n : Nat} (h : n < 2 ^ 256) : (fpow x n).val = x.val ^ n % q := powF_val 256 x n h
theorem fpow_one (x : Fq) : fpow x 1 = x := Fin.ext (by rw [fpow_val x (by decide), Nat.pow_one, Nat.mod_eq_of_lt x.isLt])
theorem fpow_zero (x : Fq) : fpow x 0 = 1 := rfl
theorem fpow_add (x : Fq) {m n : Nat} (h : m + n < 2 ^ 256) : fpow x (m + n) = fpow x m * fpow x n := Fin.ext (by
  rw [fin_mul_val, fpow_val x h, fpow_val x (by omega), fpow_val x (by omega), Nat.pow_add, Nat.mul_mod])
theorem fpow_dbl (x : Fq) {n : Nat} (h : 2 * n < 2 ^ 256) : fpow x (2 * n) = fpow x n * fpow x n := by
  rw [show 2 * n = n + n by omega, fpow_add x (by omega)]
theorem fpow_mul_base (x y : Fq) {n : Nat} (h : n < 2 ^ 256) : fpow (x * y) n = fpow x n * fpow y n := Fin.ext (by
  rw [fin_mul_val, fpow_val _ h, fpow_val x h, fpow_val y h, fin_mul_val, ← Nat.pow_mod, Nat.mul_pow, ← Nat.mul_mod])
theorem fpow_fpow (x : Fq) {m n : Nat} (hm : m < 2 ^ 256) (hn : n < 2 ^ 256) (h : m * n < 2 ^ 256) : fpow (fpow x m) n = fpow x (m * n) := Fin.ext (by
  rw [fpow_val _ hn, fpow_val x hm, fpow_val x h, ← Nat.pow_mod, Nat.pow_mul])
theorem val_ne {x : Fq} (h : x ≠ 0) : 0 < x.val := by
  rcases Nat.eq_zero_or_pos x.val with h0 | h0
  · exact absurd (Fin.ext h0) h
  · exact h0
theorem fermat_q : FermatAt q := luc_21888242871839275222246405745257275088696311157297823662689037894645226208583.2
theorem fermat {x : Fq} (h : x ≠ 0) : fpow x (q - 1) = 1 := Fin.ext (by
  rw [fpow_val x (by unfold q; decide)]
  exact fermat_q x.val (val_ne h) x.isLt)
theorem mul_finv {x : Fq} (h : x ≠ 0) : x * finv x = 1 := by
  have h1 := fermat h
  rw [show q - 1 = 1 + (q - 2) by unfold q; decide, fpow_add x (by unfold q; decide), fpow_one] at h1
  exact h1
theorem finv_mul {x : Fq} (h : x ≠ 0) : finv x * x = 1 := by
  have := mul_finv h
  grind
theorem finv_zero : finv 0 = 0 := by decide +kernel
theorem mul_zero_or {x y : Fq} (h : x * y = 0) : x = 0 ∨ y = 0 := by
  by_cases hx : x = 0
  · exact .inl hx
  · right
    have := finv_mul hx
    grind
theorem mul_ne {x y : Fq} (hx : x ≠ 0) (hy : y ≠ 0) : x * y ≠ 0 := fun h => by
  rcases mul_zero_or h with h | h
  · exact hx h
  · exact hy h
theorem mul_cancel {x y z : Fq} (hx : x ≠ 0) (h : x * y = x * z) : y = z := by
  have := finv_mul hx
  grind
/-- The one inverse. -/
theorem finv_of {x y : Fq} (h : x * y = 1) : finv x = y := by
  have hx : x ≠ 0 := by
    rintro rfl
    have h0 : (0 : Fq) * y = 0 := by grind
    rw [h0] at h
    exact absurd h (by decide)
  have := finv_mul hx
  grind
theorem finv_eq_mul {x y : Fq} : finv (x * y) = finv x * finv y := by
  unfold finv
  exact fpow_mul_base x y (by unfold q; decide)
theorem two_ne : (2 : Fq) ≠ 0 := by decide
theorem neg_one_ne : (-1 : Fq) ≠ 1 := by decide
/-- No square is minus one. -/
theorem no_i (t : Fq) : t * t ≠ -1 := fun h => by
  have ht : t ≠ 0 := by
    rintro rfl
    exact absurd h (by decide)
  have h1 := fermat ht
  rw [show q - 1 = 2 * ((q - 1) / 2) by unfold q; decide, fpow_dbl t (by unfold q; decide), ← fpow_mul_base t t (by unfold q; decide), h] at h1
  exact absurd h1 (by unfold q; decide +kernel)
/-- A norm is 0 at 0 alone. -/
theorem norm_ne {a b : Fq} (h : ¬ (a = 0 ∧ b = 0)) : a * a + b * b ≠ 0 := fun hn => by
  by_cases hb : b = 0
  · subst hb
    have : a * a = 0 := by grind
    rcases mul_zero_or this with h1 | h1 <;> exact h ⟨h1, rfl⟩
  · have hi := finv_mul hb
    exact no_i (a * finv b) (by grind)
end Go.Sx
