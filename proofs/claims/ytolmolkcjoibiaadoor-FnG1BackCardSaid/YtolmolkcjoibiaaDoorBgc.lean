/- Aids to the claim: what is shown here is said at each theorem. -/
namespace Go.Sx
/-! ### The binary greatest common divisor by approximations: an outer round makes less -/
/-- What is asked of the approximations. -/
def Apx (a b A B : Int) : Prop := 0 ≤ A ∧ A < 18446744073709551616 ∧ 0 ≤ B ∧ B < 18446744073709551616 ∧ (a = 0 → A = 0) ∧
  ((A = a ∧ B = b) ∨ ∃ h : Int, (h ≤ a ∨ h ≤ b) ∧ a < 2 * h ∧ b < 2 * h ∧ (9223372036854775808 ≤ A ↔ h ≤ a) ∧ (9223372036854775808 ≤ B ↔ h ≤ b))
/-- The inner loop's state: F = 2^j. -/
structure GIn (a b m K F A B c0 c1 : Int) : Prop where
  F1 : 1 ≤ F
  A0 : 0 ≤ A
  A1 : A < 18446744073709551616
  B0 : 0 ≤ B
  B1 : B < 18446744073709551616
  mat : ∃ f0 g0 f1 g1 v0 v1 X k0 k1 : Int, c0 = f0 + 4294967296 * g0 + 18446744073709551616 * k0 ∧ c1 = f1 + 4294967296 * g1 + 18446744073709551616 * k1 ∧
    -F < f0 ∧ f0 ≤ F ∧ -F < g0 ∧ g0 ≤ F ∧ -F < f1 ∧ f1 ≤ F ∧ -F < g1 ∧ g1 ≤ F ∧ v0 = f0 * a + g0 * b ∧ v1 = f1 * a + g1 * b ∧ X = F * m ∧ 
    -X ≤ v0 ∧ v0 ≤ X ∧ -X ≤ v1 ∧ v1 ≤ X ∧ (a = 0 → A = 0 ∧ v0 = 0) ∧
    (a ≠ 0 → ((F = 1 ∧ v0 = a ∧ v1 = b) ∨ (-X < v0 ∧ v0 < X ∧ ((v1 = X ∨ v1 = -X) → A < B ∧ -K < v0 ∧ v0 < K))))
theorem GIn.start {a b m K A B : Int} (h : Apx a b A B) (ha : 0 ≤ a) (hb : 0 ≤ b) (hma : a ≤ m) (hmb : b ≤ m) : GIn a b m K 1 A B 1 4294967296 := by
  obtain ⟨h1, h2, h3, h4, h5, h6⟩ := h
  refine ⟨by omega, h1, h2, h3, h4, 1, 0, 0, 1, a, b, m, 0, 0, by omega, by omega, by omega, by omega, by omega, by omega, by omega, by omega, by omega, by omega, by omega, by omega, by omega, by omega, by omega, by omega, by omega, fun h => ⟨h5 h, h⟩, fun _ => .inl ⟨rfl, rfl, rfl⟩⟩
/-- A even. -/
theorem GIn.even {a b m K F A B c0 c1 A' c1' A0 B0 : Int} (hap : F = 1 → A = A0 ∧ B = B0) (hx : Apx a b A0 B0) (ha : 0 ≤ a) (hb : 0 ≤ b) (hm : 0 ≤ m) (hmx : (m = a ∧ b ≤ a) ∨ (m = b ∧ a ≤ b)) (hK : (K = 2147483648 * a ∧ a ≤ b) ∨ (K = 2147483648 * b ∧ b ≤ a))
    (h : GIn a b m K F A B c0 c1) (he : A % 2 = 0) (hA : A' = A / 2) (hc : ∃ k, c1' = 2 * c1 + 18446744073709551616 * k) : GIn a b m K (2 * F) A' B c0 c1' := by
  obtain ⟨F1, g1, g2, g3, g4, f0, gg0, f1, gg1, v0, v1, X, k0, k1, e0, e1, b1, b2, b3, b4, b5, b6, b7, b8, hv0, hv1, hX, p1, p2, p3, p4, hz, hs⟩ := h
  obtain ⟨k, hc⟩ := hc
  have hX2 : 2 * X = 2 * F * m := by rw [hX, Int.mul_assoc]
  have hv1' : 2 * v1 = 2 * f1 * a + 2 * gg1 * b := by rw [hv1, Int.mul_add, Int.mul_assoc, Int.mul_assoc]
  have hX0 : m ≤ X := by
    rw [hX]
    have := Int.mul_le_mul_of_nonneg_right F1 hm
    omega
  refine ⟨by omega, by omega, by omega, g3, g4, f0, gg0, 2 * f1, 2 * gg1, v0, 2 * v1, 2 * X, k0, 2 * k1 + k, e0, by omega, by omega, by omega, by omega, by omega, by omega, by omega, by omega, by omega, hv0, hv1', hX2, by omega, by omega, by omega, by omega, fun h => ⟨by have := hz h; omega, (hz h).2⟩, fun hne => .inr ?_⟩
  rcases hs hne with ⟨s1, s2, s3⟩ | ⟨s1, s2, s3⟩
  · obtain ⟨t1, t2⟩ := hap s1
    obtain ⟨x1, x2, x3, x4, x5, x6⟩ := hx
    have hXm : X = m := by rw [hX, s1, Int.one_mul]
    subst s2; subst s3; subst t1; subst t2
    refine ⟨by omega, by omega, fun hp => ?_⟩
    rcases x6 with ⟨y1, y2⟩ | ⟨hh, y1, y2, y3, y4, y5⟩
    · refine ⟨by omega, by omega, by omega⟩
    · refine ⟨by omega, by omega, by omega⟩
  · refine ⟨by omega, by omega, fun hp => ?_⟩
    have := s3 (by omega)
    exact ⟨by omega, this.2.1, this.2.2⟩
/-- A odd, not less than B. -/
theorem GIn.more {a b m K F A B c0 c1 A' c0' c1' A0 B0 : Int} (hap : F = 1 → A = A0 ∧ B = B0) (hx : Apx a b A0 B0) (ha : 0 ≤ a) (hb : 0 ≤ b) (hm : 0 ≤ m) (hmx : (m = a ∧ b ≤ a) ∨ (m = b ∧ a ≤ b)) (hK : (K = 2147483648 * a ∧ a ≤ b) ∨ (K = 2147483648 * b ∧ b ≤ a))
    (h : GIn a b m K F A B c0 c1) (he : A % 2 ≠ 0) (hAB : B ≤ A) (hA : A' = (A - B) / 2) (hc0 : ∃ k, c0' = c0 - c1 + 18446744073709551616 * k) (hc : ∃ k, c1' = 2 * c1 + 18446744073709551616 * k) : GIn a b m K (2 * F) A' B c0' c1' := by
  obtain ⟨F1, g1, g2, g3, g4, f0, gg0, f1, gg1, v0, v1, X, k0, k1, e0, e1, b1, b2, b3, b4, b5, b6, b7, b8, hv0, hv1, hX, p1, p2, p3, p4, hz, hs⟩ := h
  obtain ⟨k, hc⟩ := hc
  obtain ⟨k', hc0⟩ := hc0
  have hne : a ≠ 0 := fun h => he (by rw [(hz h).1]; rfl)
  have hX2 : 2 * X = 2 * F * m := by rw [hX, Int.mul_assoc]
  have hv1' : 2 * v1 = 2 * f1 * a + 2 * gg1 * b := by rw [hv1, Int.mul_add, Int.mul_assoc, Int.mul_assoc]
  have hv0' : v0 - v1 = (f0 - f1) * a + (gg0 - gg1) * b := by rw [hv0, hv1, Int.sub_mul, Int.sub_mul]; omega
  have hX0 : m ≤ X := by
    rw [hX]
    have := Int.mul_le_mul_of_nonneg_right F1 hm
    omega
  refine ⟨by omega, by omega, by omega, g3, g4, f0 - f1, gg0 - gg1, 2 * f1, 2 * gg1, v0 - v1, 2 * v1, 2 * X, k0 - k1 + k', 2 * k1 + k, by omega, by omega, by omega, by omega, by omega, by omega, by omega, by omega, by omega, by omega, hv0', hv1', hX2, by omega, by omega, by omega, by omega, fun h => absurd h hne, fun hne => .inr ?_⟩
  rcases hs hne with ⟨s1, s2, s3⟩ | ⟨s1, s2, s3⟩
  · obtain ⟨t1, t2⟩ := hap s1
    obtain ⟨x1, x2, x3, x4, x5, x6⟩ := hx
    have hXm : X = m := by rw [hX, s1, Int.one_mul]
    subst s2; subst s3; subst t1; subst t2
    refine ⟨by omega, by omega, fun hp => ?_⟩
    rcases x6 with ⟨y1, y2⟩ | ⟨hh, y1, y2, y3, y4, y5⟩
    · refine ⟨by omega, by omega, by omega⟩
    · refine ⟨by omega, by omega, by omega⟩
  · refine ⟨by omega, by omega, fun hp => ?_⟩
    have := s3 (by omega)
    omega
/-- A odd, less than B. -/
theorem GIn.less {a b m K F A B c0 c1 A' c0' c1' A0 B0 : Int} (hap : F = 1 → A = A0 ∧ B = B0) (hx : Apx a b A0 B0) (ha : 0 ≤ a) (hb : 0 ≤ b) (hm : 0 ≤ m) (hmx : (m = a ∧ b ≤ a) ∨ (m = b ∧ a ≤ b)) (hK : (K = 2147483648 * a ∧ a ≤ b) ∨ (K = 2147483648 * b ∧ b ≤ a))
    (h : GIn a b m K F A B c0 c1) (he : A % 2 ≠ 0) (hAB : A < B) (hA : A' = (B - A) / 2) (hc0 : ∃ k, c0' = c1 - c0 + 18446744073709551616 * k) (hc : ∃ k, c1' = 2 * c0 + 18446744073709551616 * k) : GIn a b m K (2 * F) A' A c0' c1' := by
  obtain ⟨F1, g1, g2, g3, g4, f0, gg0, f1, gg1, v0, v1, X, k0, k1, e0, e1, b1, b2, b3, b4, b5, b6, b7, b8, hv0, hv1, hX, p1, p2, p3, p4, hz, hs⟩ := h
  obtain ⟨k, hc⟩ := hc
  obtain ⟨k', hc0⟩ := hc0
  have hne : a ≠ 0 := fun h => he (by rw [(hz h).1]; rfl)
  have hX2 : 2 * X = 2 * F * m := by rw [hX, Int.mul_assoc]
  have hv1' : 2 * v0 = 2 * f0 * a + 2 * gg0 * b := by rw [hv0, Int.mul_add, Int.mul_assoc, Int.mul_assoc]
  have hv0' : v1 - v0 = (f1 - f0) * a + (gg1 - gg0) * b := by rw [hv0, hv1, Int.sub_mul, Int.sub_mul]; omega
  have hX0 : m ≤ X := by
    rw [hX]
    have := Int.mul_le_mul_of_nonneg_right F1 hm
    omega
  refine ⟨by omega, by omega, by omega, by omega, by omega, f1 - f0, gg1 - gg0, 2 * f0, 2 * gg0, v1 - v0, 2 * v0, 2 * X, k1 - k0 + k', 2 * k0 + k, by omega, by omega, by omega, by omega, by omega, by omega, by omega, by omega, by omega, by omega, hv0', hv1', hX2, by omega, by omega, by omega, by omega, fun h => absurd h hne, fun hne => .inr ?_⟩
  rcases hs hne with ⟨s1, s2, s3⟩ | ⟨s1, s2, s3⟩
  · obtain ⟨t1, t2⟩ := hap s1
    obtain ⟨x1, x2, x3, x4, x5, x6⟩ := hx
    have hXm : X = m := by rw [hX, s1, Int.one_mul]
    subst s2; subst s3; subst t1; subst t2
    refine ⟨by omega, by omega, fun hp => ?_⟩
    rcases x6 with ⟨y1, y2⟩ | ⟨hh, y1, y2, y3, y4, y5⟩
    · refine ⟨by omega, by omega, by omega⟩
    · refine ⟨by omega, by omega, by omega⟩
  · refine ⟨by omega, by omega, fun hp => by omega⟩
/-- Behind all steps. -/
theorem GIn.last {a b m K A B c0 c1 : Int} (h : GIn a b m K 2147483648 A B c0 c1) :
    ∃ f0 g0 f1 g1 k0 k1 : Int, c0 = f0 + 4294967296 * g0 + 18446744073709551616 * k0 ∧ c1 = f1 + 4294967296 * g1 + 18446744073709551616 * k1 ∧ (-2147483648 < f0 ∧ f0 ≤ 2147483648) ∧ (-2147483648 < g0 ∧ g0 ≤ 2147483648) ∧ (-2147483648 < f1 ∧ f1 ≤ 2147483648) ∧ (-2147483648 < g1 ∧ g1 ≤ 2147483648) ∧
      (-(2147483648 * m) ≤ f0 * a + g0 * b ∧ f0 * a + g0 * b ≤ 2147483648 * m) ∧ (-(2147483648 * m) ≤ f1 * a + g1 * b ∧ f1 * a + g1 * b ≤ 2147483648 * m) ∧ (a = 0 → f0 * a + g0 * b = 0) ∧
      (a ≠ 0 → -(2147483648 * m) < f0 * a + g0 * b ∧ f0 * a + g0 * b < 2147483648 * m ∧ ((f1 * a + g1 * b = 2147483648 * m ∨ f1 * a + g1 * b = -(2147483648 * m)) → -K < f0 * a + g0 * b ∧ f0 * a + g0 * b < K)) := by
  obtain ⟨F1, g1, g2, g3, g4, f0, gg0, f1, gg1, v0, v1, X, k0, k1, e0, e1, b1, b2, b3, b4, b5, b6, b7, b8, hv0, hv1, hX, p1, p2, p3, p4, hz, hs⟩ := h
  subst hv0 hv1 hX
  refine ⟨f0, gg0, f1, gg1, k0, k1, e0, e1, ⟨b1, b2⟩, ⟨b3, b4⟩, ⟨b5, b6⟩, ⟨b7, b8⟩, ⟨p1, p2⟩, ⟨p3, p4⟩, fun h => (hz h).2, fun h => ?_⟩
  rcases hs h with ⟨s1, _⟩ | ⟨s1, s2, s3⟩
  · exact absurd s1 (by decide)
  · exact ⟨s1, s2, fun hp => (s3 hp).2⟩
/-- What falls from round to round. -/
def meas (a b : Nat) : Nat := max a b * 115792089237316195423570985008687907853269984665640564039457584007913129639936 + min a b
theorem meas_fall {a b a' b' : Nat} {v0 v1 m K : Int} (hm : m = max (a : Int) b) (hK : K = 2147483648 * min (a : Int) b) (ha' : a' = v0.natAbs / 2147483648) (hb' : b' = v1.natAbs / 2147483648) (hl : a' < 115792089237316195423570985008687907853269984665640564039457584007913129639936)
    (h1 : -(2147483648 * m) < v0 ∧ v0 < 2147483648 * m) (h2 : -(2147483648 * m) ≤ v1 ∧ v1 ≤ 2147483648 * m) (h3 : (v1 = 2147483648 * m ∨ v1 = -(2147483648 * m)) → -K < v0 ∧ v0 < K) : meas a' b' < meas a b := by
  have hA : (a' : Int) < m := by omega
  have hB : (b' : Int) ≤ m := by omega
  have hC : (b' : Int) = m → a' < min a b := fun h => by
    have : v1 = 2147483648 * m ∨ v1 = -(2147483648 * m) := by omega
    have := h3 this
    omega
  unfold meas
  by_cases h : (b' : Int) = m
  · have := hC h
    have e1 : max a' b' = max a b := by omega
    have e2 : min a' b' < min a b := by omega
    rw [e1]
    omega
  · have e1 : max a' b' < max a b := by omega
    have e2 : min a' b' ≤ a' := by omega
    generalize max a' b' = x at *
    generalize max a b = y at *
    generalize min a' b' = z at *
    have : x + 1 ≤ y := e1
    have : (x + 1) * 115792089237316195423570985008687907853269984665640564039457584007913129639936 ≤ y * 115792089237316195423570985008687907853269984665640564039457584007913129639936 := Nat.mul_le_mul_right _ this
    rw [Nat.add_mul] at this
    omega
theorem meas_zero {b b' : Nat} {v1 : Int} (hb' : b' = v1.natAbs / 2147483648) (h2 : -(2147483648 * (b : Int)) ≤ v1 ∧ v1 ≤ 2147483648 * (b : Int)) : meas 0 b' ≤ meas 0 b := by
  have : b' ≤ b := by omega
  unfold meas
  omega
end Go.Sx
