import Derived.Test.YtolmolkcjoibiaaDoorSg
/- Aids to the claim: what is shown here is said at each theorem. -/
namespace Go.Sx
open Go
set_option maxRecDepth 100000

/-- The end that all reckonings have: the prime is taken away once, if need be. -/
theorem low_tail {e : Env} {v : SV} {p : Nat → Prop} {a b c d n0 n1 n2 n3 m0 m1 m2 m3 : Nat} {rest rest' : List (Nat × Atom)} (hr : ∀ x ∈ rest, x.1 < 4) (hr' : ∀ x ∈ rest', x.1 < 4)
    (hw : Wd (e.i a) ∧ Wd (e.i b) ∧ Wd (e.i c) ∧ Wd (e.i d)) (hlt : v4 (e.i a) (e.i b) (e.i c) (e.i d) < 43776485743678550444492811490514550177392622314595647325378075789290452417166)
    (hp : ∀ N : Nat, N < q → ((N : Int) = v4 (e.i a) (e.i b) (e.i c) (e.i d) ∨ (N : Int) = v4 (e.i a) (e.i b) (e.i c) (e.i d) - 21888242871839275222246405745257275088696311157297823662689037894645226208583) → p N) :
    Tree.lin e (Wrote e v p) (.br (.low (.v a) (.v b) (.v c) (.v d)) (.leaf (v, (3, .int .u64 (.v d)) :: (2, .int .u64 (.v c)) :: (1, .int .u64 (.v b)) :: (0, .int .u64 (.v a)) :: rest))
      (.dn (.sb n0 m0 (.v a) (.c 4332616871279656263) (.c 0)) (.dn (.sb n1 m1 (.v b) (.c 10917124144477883021) (.b m0)) (.dn (.sb n2 m2 (.v c) (.c 13281191951274694749) (.b m1))
        (.dn (.sb n3 m3 (.v d) (.c 3486998266802970665) (.b m2)) (.leaf (v, (3, .int .u64 (.v n3)) :: (2, .int .u64 (.v n2)) :: (1, .int .u64 (.v n1)) :: (0, .int .u64 (.v n0)) :: rest'))))))) := by
  have four : ∀ {A B C D : Atom} {rest : List (Nat × Atom)}, (∀ x ∈ rest, x.1 < 4) → ∀ x ∈ (3, A) :: (2, B) :: (1, C) :: (0, D) :: rest, x.1 < 4 := fun hr x hx => by
    simp only [List.mem_cons] at hx
    rcases hx with h | h | h | h | h
    · subst h; simp only; omega
    · subst h; simp only; omega
    · subst h; simp only; omega
    · subst h; simp only; omega
    · exact hr x h
  refine ⟨fun hl => ?_, fun hl => ?_⟩
  · have hl := of_decide_eq_true hl
    simp only [den_v] at hl
    obtain ⟨N, hN⟩ := nat_of (v4_nonneg hw.1.1 hw.2.1.1 hw.2.2.1.1 hw.2.2.2.1)
    rw [hN] at hl hp
    have hq : N < q := Int.ofNat_lt.1 hl
    exact ⟨rfl, four hr, N, hq, hp N hq (.inl rfl), _, _, _, _, rfl, rfl, rfl, rfl, w4_of hw.1 hw.2.1 hw.2.2.1 hw.2.2.2 hN⟩
  · have hl := Int.not_lt.1 (of_decide_eq_false hl)
    simp only [den_v] at hl
    intro g1 g2 g3 g4
    obtain ⟨s1, s2⟩ := sub_q hw hlt hl g1 g2 g3 g4
    obtain ⟨N, hN⟩ := nat_of (v4_nonneg s2.1.1 s2.2.1.1 s2.2.2.1.1 s2.2.2.2.1)
    have s1' := s1
    rw [hN] at s1'
    have hq := sub_lt s1' hlt
    exact ⟨rfl, four hr', N, hq, hp N hq (.inr s1'), _, _, _, _, rfl, rfl, rfl, rfl, w4_of s2.1 s2.2.1 s2.2.2.1 s2.2.2.2 hN⟩

theorem add4 {a b c d a' b' c' d' x y z t : Int} {c0 c1 c2 c3 : Int} {X Y : Nat} (hX : v4 a b c d = X) (hY : v4 a' b' c' d' = Y) (hx : X < q) (hy : Y < q)
    (e1 : x + 18446744073709551616 * c0 = a + a' + 0 ∧ 0 ≤ x ∧ x < 18446744073709551616 ∧ 0 ≤ c0 ∧ c0 ≤ 1)
    (e2 : y + 18446744073709551616 * c1 = b + b' + c0 ∧ 0 ≤ y ∧ y < 18446744073709551616 ∧ 0 ≤ c1 ∧ c1 ≤ 1)
    (e3 : z + 18446744073709551616 * c2 = c + c' + c1 ∧ 0 ≤ z ∧ z < 18446744073709551616 ∧ 0 ≤ c2 ∧ c2 ≤ 1)
    (e4 : t + 18446744073709551616 * c3 = d + d' + c2 ∧ 0 ≤ t ∧ t < 18446744073709551616 ∧ 0 ≤ c3 ∧ c3 ≤ 1) :
    v4 x y z t = X + Y ∧ (Wd x ∧ Wd y ∧ Wd z ∧ Wd t) ∧ v4 x y z t < 43776485743678550444492811490514550177392622314595647325378075789290452417166 := by
  have h : v4 x y z t = X + Y := by
    rw [← hX, ← hY]
    unfold q at hx hy
    unfold v4 at *
    omega
  refine ⟨h, ⟨⟨e1.2.1, e1.2.2.1⟩, ⟨e2.2.1, e2.2.2.1⟩, ⟨e3.2.1, e3.2.2.1⟩, ⟨e4.2.1, e4.2.2.1⟩⟩, ?_⟩
  rw [h]
  unfold q at hx hy
  clear hX hY e1 e2 e3 e4 h
  omega
theorem add_mod_of {N X Y : Nat} {T : Int} (hT : T = X + Y) (h : (N : Int) = T ∨ (N : Int) = T - 21888242871839275222246405745257275088696311157297823662689037894645226208583) : N % q = (X + Y) % q := by
  rcases h with h | h
  · have : N = X + Y := by omega
    rw [this]
  · have : X + Y = N + q := by unfold q; omega
    rw [this, Nat.add_mod_right]
theorem add_law {e : Env} {X Y : Nat} (hX : v4 (e.i 4) (e.i 5) (e.i 6) (e.i 7) = X) (hY : v4 (e.i 8) (e.i 9) (e.i 10) (e.i 11) = Y) (hx : X < q) (hy : Y < q) :
    tAdd.lin e (Wrote e (pt 0) fun N => N % q = (X + Y) % q) := by
  intro h0 h1 h2 h3
  obtain ⟨s1, s2, s3⟩ := add4 hX hY hx hy h0 h1 h2 h3
  exact low_tail (by simp) (by decide) s2 s3 fun N _ h => add_mod_of s1 h
theorem dbl_law {e : Env} {X : Nat} (hX : v4 (e.i 4) (e.i 5) (e.i 6) (e.i 7) = X) (hx : X < q) :
    tDbl.lin e (Wrote e (pt 0) fun N => N % q = (X + X) % q) := by
  intro h0 h1 h2 h3
  obtain ⟨s1, s2, s3⟩ := add4 hX hX hx hx h0 h1 h2 h3
  exact low_tail (by simp) (by decide) s2 s3 fun N _ h => add_mod_of s1 h

theorem sub4 {a b c d a' b' c' d' x y z t : Int} {c0 c1 c2 c3 : Int} {X Y : Nat} (hX : v4 a b c d = X) (hY : v4 a' b' c' d' = Y)
    (e1 : x = a - a' - 0 + 18446744073709551616 * c0 ∧ 0 ≤ x ∧ x < 18446744073709551616 ∧ 0 ≤ c0 ∧ c0 ≤ 1)
    (e2 : y = b - b' - c0 + 18446744073709551616 * c1 ∧ 0 ≤ y ∧ y < 18446744073709551616 ∧ 0 ≤ c1 ∧ c1 ≤ 1)
    (e3 : z = c - c' - c1 + 18446744073709551616 * c2 ∧ 0 ≤ z ∧ z < 18446744073709551616 ∧ 0 ≤ c2 ∧ c2 ≤ 1)
    (e4 : t = d - d' - c2 + 18446744073709551616 * c3 ∧ 0 ≤ t ∧ t < 18446744073709551616 ∧ 0 ≤ c3 ∧ c3 ≤ 1) :
    v4 x y z t = X - Y + 115792089237316195423570985008687907853269984665640564039457584007913129639936 * c3 ∧ (Wd x ∧ Wd y ∧ Wd z ∧ Wd t) := by
  refine ⟨?_, ⟨e1.2.1, e1.2.2.1⟩, ⟨e2.2.1, e2.2.2.1⟩, ⟨e3.2.1, e3.2.2.1⟩, ⟨e4.2.1, e4.2.2.1⟩⟩
  rw [← hX, ← hY]
  unfold v4
  omega
theorem add_q {a b c d x y z t : Int} {c0 c1 c2 c3 : Int} {X Y : Nat} (hv : v4 a b c d = X - Y + 115792089237316195423570985008687907853269984665640564039457584007913129639936) (hx : X < q) (hy : Y < q) (hw : Wd a ∧ Wd b ∧ Wd c ∧ Wd d)
    (e1 : x + 18446744073709551616 * c0 = a + 4332616871279656263 + 0 ∧ 0 ≤ x ∧ x < 18446744073709551616 ∧ 0 ≤ c0 ∧ c0 ≤ 1)
    (e2 : y + 18446744073709551616 * c1 = b + 10917124144477883021 + c0 ∧ 0 ≤ y ∧ y < 18446744073709551616 ∧ 0 ≤ c1 ∧ c1 ≤ 1)
    (e3 : z + 18446744073709551616 * c2 = c + 13281191951274694749 + c1 ∧ 0 ≤ z ∧ z < 18446744073709551616 ∧ 0 ≤ c2 ∧ c2 ≤ 1)
    (e4 : t + 18446744073709551616 * c3 = d + 3486998266802970665 + c2 ∧ 0 ≤ t ∧ t < 18446744073709551616 ∧ 0 ≤ c3 ∧ c3 ≤ 1) :
    v4 x y z t = X - Y + 21888242871839275222246405745257275088696311157297823662689037894645226208583 ∧ (Wd x ∧ Wd y ∧ Wd z ∧ Wd t) := by
  refine ⟨?_, ⟨e1.2.1, e1.2.2.1⟩, ⟨e2.2.1, e2.2.2.1⟩, ⟨e3.2.1, e3.2.2.1⟩, ⟨e4.2.1, e4.2.2.1⟩⟩
  have h1 : v4 a b c d < 115792089237316195423570985008687907853269984665640564039457584007913129639936 := by
    have := hw.1.2; have := hw.2.1.2; have := hw.2.2.1.2; have := hw.2.2.2.2
    clear hv e1 e2 e3 e4
    unfold v4
    omega
  have h2 : v4 x y z t + 115792089237316195423570985008687907853269984665640564039457584007913129639936 * c3 = v4 a b c d + 21888242871839275222246405745257275088696311157297823662689037894645226208583 := by
    unfold v4
    omega
  have h3 := e4.2.2.2
  have h4 : 0 ≤ v4 x y z t ∧ v4 x y z t < 115792089237316195423570985008687907853269984665640564039457584007913129639936 := by
    clear hv h1 h2
    unfold v4
    omega
  clear e1 e2 e3 e4
  unfold q at hx hy
  omega
theorem bi_zero {b : Bool} : (bi b == 0) = !b := by cases b <;> rfl
theorem sub_law {e : Env} {X Y : Nat} (hX : v4 (e.i 4) (e.i 5) (e.i 6) (e.i 7) = X) (hY : v4 (e.i 8) (e.i 9) (e.i 10) (e.i 11) = Y) (hx : X < q) (hy : Y < q) :
    tSub.lin e (Wrote e (pt 0) fun N => (N + Y) % q = X % q) := by
  intro h0 h1 h2 h3
  obtain ⟨s1, s2⟩ := sub4 hX hY h0 h1 h2 h3
  clear h0 h1 h2 h3
  refine ⟨fun hb => ?_, fun hb => ?_⟩
  · have hb' : e.b 3 = false := by
      have : (bi (e.b 3) == 0) = true := hb
      rw [bi_zero] at this
      simpa using this
    rw [hb'] at s1
    simp only [bi, Bool.false_eq_true, if_false, Int.mul_zero, Int.add_zero] at s1
    obtain ⟨N, hN⟩ := nat_of (v4_nonneg s2.1.1 s2.2.1.1 s2.2.2.1.1 s2.2.2.2.1)
    have hN' : N + Y = X := by omega
    refine ⟨rfl, by decide, N, by omega, by show (N + Y) % q = X % q; rw [hN'], _, _, _, _, rfl, rfl, rfl, rfl, w4_of s2.1 s2.2.1 s2.2.2.1 s2.2.2.2 hN⟩
  · have hb' : e.b 3 = true := by
      have : (bi (e.b 3) == 0) = false := hb
      rw [bi_zero] at this
      simpa using this
    rw [hb'] at s1
    simp only [bi, if_true, Int.mul_one] at s1
    have hlt : X < Y := by
      have : v4 (e.i 12) (e.i 13) (e.i 14) (e.i 15) < 115792089237316195423570985008687907853269984665640564039457584007913129639936 := by
        have := s2.1.2; have := s2.2.1.2; have := s2.2.2.1.2; have := s2.2.2.2.2
        clear s1 hX hY
        unfold v4
        omega
      omega
    intro g0 g1 g2 g3
    obtain ⟨k1, k2⟩ := add_q s1 hx hy s2 g0 g1 g2 g3
    clear g0 g1 g2 g3
    obtain ⟨N, hN⟩ := nat_of (v4_nonneg k2.1.1 k2.2.1.1 k2.2.2.1.1 k2.2.2.2.1)
    have hN' : N + Y = X + q := by unfold q at *; omega
    refine ⟨rfl, by decide, N, by omega, by show (N + Y) % q = X % q; rw [hN', Nat.add_mod_right], _, _, _, _, rfl, rfl, rfl, rfl, w4_of k2.1 k2.2.1 k2.2.2.1 k2.2.2.2 hN⟩

theorem or_wd {x y : Int} : Wd (btI .or .u64 x y) := (wrap_u _).1
theorem xor_wd {x y : Int} : Wd (btI .xor .u64 x y) := (wrap_u _).1
theorem ors_zero {a b c d x y z : Int} (ha : Wd a) (hb : Wd b) (hc : Wd c) (hd : Wd d) (h1 : x = btI .or .u64 d c) (h2 : y = btI .or .u64 x b) (h3 : z = btI .or .u64 y a) : z = 0 ↔ a = 0 ∧ b = 0 ∧ c = 0 ∧ d = 0 := by
  rw [h3, or_zero (by rw [h2]; exact or_wd) ha, h2, or_zero (by rw [h1]; exact or_wd) hb, h1, or_zero hd hc]
  exact ⟨fun h => ⟨h.2, h.1.2, h.1.1.2, h.1.1.1⟩, fun h => ⟨⟨⟨h.2.2.2, h.2.2.1⟩, h.2.1⟩, h.1⟩⟩
theorem neg_law {e : Env} {X : Nat} (hW : Wd (e.i 4) ∧ Wd (e.i 5) ∧ Wd (e.i 6) ∧ Wd (e.i 7)) (hX : v4 (e.i 4) (e.i 5) (e.i 6) (e.i 7) = X) (hx : X < q) :
    tNeg.lin e (Wrote e (pt 0) fun N => (N + X) % q = 0) := by
  intro h0 h1 h2
  have hz := ors_zero hW.1 hW.2.1 hW.2.2.1 hW.2.2.2 h0.1 h1.1 h2.1
  refine ⟨fun hb => ?_, fun hb => ?_⟩
  · have hb' : e.i 10 = 0 := by
      have : (e.i 10 == 0) = true := hb
      simpa using this
    obtain ⟨z1, z2, z3, z4⟩ := hz.1 hb'
    rw [z1, z2, z3, z4] at hX
    have hX0 : X = 0 := by unfold v4 at hX; omega
    exact ⟨rfl, by decide, 0, by unfold q; omega, by show (0 + X) % q = 0; rw [hX0]; rfl, _, _, _, _, rfl, rfl, rfl, rfl, rfl, rfl, rfl, rfl⟩
  · have hb' : e.i 10 ≠ 0 := by
      have : (e.i 10 == 0) = false := hb
      simpa using this
    have hX0 : 0 < X := by
      rcases Nat.eq_zero_or_pos X with h | h
      · exfalso
        apply hb'
        rw [hz]
        rw [h] at hX
        unfold v4 Wd at *
        omega
      · exact h
    intro g0 g1 g2 g3
    have hq : v4 4332616871279656263 10917124144477883021 13281191951274694749 3486998266802970665 = ((q : Nat) : Int) := by decide
    obtain ⟨k1, k2⟩ := sub4 hq hX g0 g1 g2 g3
    have hc := g3.2.2.2
    clear g0 g1 g2 g3 h0 h1 h2 hz hX hW
    obtain ⟨N, hN⟩ := nat_of (v4_nonneg k2.1.1 k2.2.1.1 k2.2.2.1.1 k2.2.2.2.1)
    have hb4 : v4 (e.i 11) (e.i 12) (e.i 13) (e.i 14) < 115792089237316195423570985008687907853269984665640564039457584007913129639936 := by
      have := k2.1.2; have := k2.2.1.2; have := k2.2.2.1.2; have := k2.2.2.2.2
      clear k1 hN
      unfold v4
      omega
    have hN' : N + X = q := by rw [hN] at k1 hb4; omega
    refine ⟨rfl, by decide, N, by omega, by show (N + X) % q = 0; rw [hN', Nat.mod_self], _, _, _, _, rfl, rfl, rfl, rfl, w4_of k2.1 k2.2.1 k2.2.2.1 k2.2.2.2 hN⟩

/-- A walk that writes nothing and tells a truth. -/
def Told (e : Env) (b : Bool) (l : Lf) : Prop := l.2 = [] ∧ ∃ x, l.1 = .one (.at (.bool x)) ∧ x.den e = b
theorem isZero_law {e : Env} {X : Nat} (hW : Wd (e.i 0) ∧ Wd (e.i 1) ∧ Wd (e.i 2) ∧ Wd (e.i 3)) (hX : v4 (e.i 0) (e.i 1) (e.i 2) (e.i 3) = X) : tIsZero.lin e (Told e (decide (X = 0))) := by
  intro h0 h1 h2
  have hz := ors_zero hW.1 hW.2.1 hW.2.2.1 hW.2.2.2 h0.1 h1.1 h2.1
  refine ⟨rfl, _, rfl, ?_⟩
  show (e.i 6 == 0) = _
  rw [Bool.eq_iff_iff, beq_iff_eq, hz, decide_eq_true_eq]
  clear hz h0 h1 h2
  unfold v4 Wd at *
  omega
theorem equal_law {e : Env} {X Y : Nat} (hW : ∀ k, k < 8 → Wd (e.i k)) (hX : v4 (e.i 0) (e.i 1) (e.i 2) (e.i 3) = X) (hY : v4 (e.i 4) (e.i 5) (e.i 6) (e.i 7) = Y) : tEqual.lin e (Told e (decide (X = Y))) := by
  intro h0 h1 h2 h3 h4 h5 h6
  refine ⟨rfl, _, rfl, ?_⟩
  show (e.i 14 == 0) = _
  have w0 := hW 0 (by omega); have w1 := hW 1 (by omega); have w2 := hW 2 (by omega); have w3 := hW 3 (by omega)
  have w4 := hW 4 (by omega); have w5 := hW 5 (by omega); have w6 := hW 6 (by omega); have w7 := hW 7 (by omega)
  have g0 : e.i 8 = btI .xor .u64 (e.i 3) (e.i 7) := h0.1
  have g1 : e.i 9 = btI .xor .u64 (e.i 2) (e.i 6) := h1.1
  have g2 : e.i 10 = btI .or .u64 (e.i 8) (e.i 9) := h2.1
  have g3 : e.i 11 = btI .xor .u64 (e.i 1) (e.i 5) := h3.1
  have g4 : e.i 12 = btI .or .u64 (e.i 10) (e.i 11) := h4.1
  have g5 : e.i 13 = btI .xor .u64 (e.i 0) (e.i 4) := h5.1
  have g6 : e.i 14 = btI .or .u64 (e.i 12) (e.i 13) := h6.1
  rw [Bool.eq_iff_iff, beq_iff_eq, decide_eq_true_eq, g6, or_zero (by rw [g4]; exact or_wd) (by rw [g5]; exact xor_wd), g4, or_zero (by rw [g2]; exact or_wd) (by rw [g3]; exact xor_wd), g2,
    or_zero (by rw [g0]; exact xor_wd) (by rw [g1]; exact xor_wd), g0, g1, g3, g5, xor_zero w3 w7, xor_zero w2 w6, xor_zero w1 w5, xor_zero w0 w4]
  clear h0 h1 h2 h3 h4 h5 h6 g0 g1 g2 g3 g4 g5 g6 hW
  unfold v4 Wd at *
  omega
theorem small_law {e : Env} (hW : Wd (e.i 0) ∧ Wd (e.i 1) ∧ Wd (e.i 2) ∧ Wd (e.i 3)) :
    tSmall.lin e (Told e (decide (v4 (e.i 0) (e.i 1) (e.i 2) (e.i 3) < 21888242871839275222246405745257275088696311157297823662689037894645226208583))) := by
  have lt : ∀ {x y : IE}, (BE.lt x y).den e = true → x.den e < y.den e := fun h => of_decide_eq_true h
  have nlt : ∀ {x y : IE}, (BE.lt x y).den e = false → y.den e ≤ x.den e := fun h => Int.not_lt.1 (of_decide_eq_false h)
  have eq : ∀ {x y : IE}, (BE.eq x y).den e = true → x.den e = y.den e := fun h => by
    have h' : (IE.den e _ == IE.den e _) = true := h
    simpa using h'
  have neq : ∀ {x y : IE}, (BE.eq x y).den e = false → x.den e ≠ y.den e := fun h => by
    have h' : (IE.den e _ == IE.den e _) = false := h
    simpa using h'
  obtain ⟨⟨a0, a1⟩, ⟨b0, b1⟩, ⟨c0, c1⟩, ⟨d0, d1⟩⟩ := hW
  refine ⟨fun h => ?_, fun h => ⟨fun g => ⟨fun h => ?_, fun h => ⟨fun g => ⟨fun h => ?_, fun h => ⟨fun g => ?_, fun g => ?_⟩⟩, fun g => ?_⟩⟩, fun g => ?_⟩⟩
  · have := lt h
    simp only [den_v, den_c] at this
    refine ⟨rfl, _, rfl, ?_⟩
    show true = _
    rw [decide_eq_true]
    unfold v4
    omega
  · rename_i h'
    have h1 := eq g
    have h2 := lt h
    simp only [den_v, den_c] at h1 h2
    refine ⟨rfl, _, rfl, ?_⟩
    show true = _
    rw [decide_eq_true]
    unfold v4
    omega
  · rename_i h3' g3 h2'
    have h1 := eq g3
    have h2 := eq g
    have h3 := lt h
    simp only [den_v, den_c] at h1 h2 h3
    refine ⟨rfl, _, rfl, ?_⟩
    show true = _
    rw [decide_eq_true]
    unfold v4
    omega
  · rename_i h3' g3 h2' g2
    have h1 := eq g3
    have h2 := eq g2
    have h3 := eq g
    simp only [den_v, den_c] at h1 h2 h3
    refine ⟨rfl, _, rfl, ?_⟩
    show decide (e.i 0 < 4332616871279656263) = _
    rw [decide_eq_decide]
    unfold v4
    omega
  · rename_i h3' g3 h2' g2
    have h1 := eq g3
    have h2 := eq g2
    have h3 := neq g
    have h4 := nlt h
    simp only [den_v, den_c] at h1 h2 h3 h4
    refine ⟨rfl, _, rfl, ?_⟩
    show false = _
    rw [decide_eq_false]
    unfold v4
    omega
  · rename_i h3' g3
    have h1 := eq g3
    have h3 := neq g
    have h4 := nlt h
    simp only [den_v, den_c] at h1 h3 h4
    refine ⟨rfl, _, rfl, ?_⟩
    show false = _
    rw [decide_eq_false]
    unfold v4
    omega
  · have h3 := neq g
    have h4 := nlt h
    simp only [den_v, den_c] at h3 h4
    refine ⟨rfl, _, rfl, ?_⟩
    show false = _
    rw [decide_eq_false]
    unfold v4
    omega

theorem madd {B_h l P p t k d0 h' d1 r d2 k' d3 : Int} (e1 : 18446744073709551616 * B_h + l = P) (hP : P ≤ 340282366920938463426481119284349108225) (ht : t < 18446744073709551616) (hk : k < 18446744073709551616)
    (e2 : p + 18446744073709551616 * d0 = t + k + 0) (e3 : h' + 18446744073709551616 * d1 = B_h + 0 + d0) (e4 : r + 18446744073709551616 * d2 = l + p + 0) (e5 : k' + 18446744073709551616 * d3 = h' + 0 + d2)
    (g1 : 0 ≤ d1) (g3 : 0 ≤ d3) (r0 : 0 ≤ r) (k0 : 0 ≤ k') : 18446744073709551616 * k' + r = P + t + k := by omega
theorem madd0 {B_h l P t x k d0 d1 : Int} (e1 : 18446744073709551616 * B_h + l = P) (hP : P ≤ 340282366920938463426481119284349108225) (ht : t < 18446744073709551616)
    (e2 : x + 18446744073709551616 * d0 = l + t + 0) (e3 : k + 18446744073709551616 * d1 = B_h + 0 + d0) (x0 : 0 ≤ x) (k0 : 0 ≤ k) (g : 0 ≤ d1) : 18446744073709551616 * k + x = P + t := by omega

/-- One round of the way back. -/
theorem back_round {t0 t1 t2 t3 m h0 l0 x k0 h1 l1 p1 q1 r0 k1 h2 l2 p2 q2 r1 k2 h3 l3 p3 q3 r2 k3 : Int} {c0 c1 a0 a1 a2 a3 b0 b1 b2 b3 d0 d1 d2 d3 : Int}
    (wt0 : Wd t0) (wt1 : Wd t1) (wt2 : Wd t2) (wt3 : Wd t3)
    (em : (∃ k, m = t0 * 9786893198990664585 - 18446744073709551616 * k) ∧ 0 ≤ m ∧ m < 18446744073709551616)
    (e1 : 18446744073709551616 * h0 + l0 = m * 4332616871279656263 ∧ 0 ≤ h0 ∧ h0 < 18446744073709551616 ∧ 0 ≤ l0 ∧ l0 < 18446744073709551616)
    (e2 : x + 18446744073709551616 * c0 = l0 + t0 + 0 ∧ 0 ≤ x ∧ x < 18446744073709551616 ∧ 0 ≤ c0 ∧ c0 ≤ 1)
    (e3 : k0 + 18446744073709551616 * c1 = h0 + 0 + c0 ∧ 0 ≤ k0 ∧ k0 < 18446744073709551616 ∧ 0 ≤ c1 ∧ c1 ≤ 1)
    (e4 : 18446744073709551616 * h1 + l1 = m * 10917124144477883021 ∧ 0 ≤ h1 ∧ h1 < 18446744073709551616 ∧ 0 ≤ l1 ∧ l1 < 18446744073709551616)
    (e5 : p1 + 18446744073709551616 * a0 = t1 + k0 + 0 ∧ 0 ≤ p1 ∧ p1 < 18446744073709551616 ∧ 0 ≤ a0 ∧ a0 ≤ 1)
    (e6 : q1 + 18446744073709551616 * a1 = h1 + 0 + a0 ∧ 0 ≤ q1 ∧ q1 < 18446744073709551616 ∧ 0 ≤ a1 ∧ a1 ≤ 1)
    (e7 : r0 + 18446744073709551616 * a2 = l1 + p1 + 0 ∧ 0 ≤ r0 ∧ r0 < 18446744073709551616 ∧ 0 ≤ a2 ∧ a2 ≤ 1)
    (e8 : k1 + 18446744073709551616 * a3 = q1 + 0 + a2 ∧ 0 ≤ k1 ∧ k1 < 18446744073709551616 ∧ 0 ≤ a3 ∧ a3 ≤ 1)
    (e9 : 18446744073709551616 * h2 + l2 = m * 13281191951274694749 ∧ 0 ≤ h2 ∧ h2 < 18446744073709551616 ∧ 0 ≤ l2 ∧ l2 < 18446744073709551616)
    (e10 : p2 + 18446744073709551616 * b0 = t2 + k1 + 0 ∧ 0 ≤ p2 ∧ p2 < 18446744073709551616 ∧ 0 ≤ b0 ∧ b0 ≤ 1)
    (e11 : q2 + 18446744073709551616 * b1 = h2 + 0 + b0 ∧ 0 ≤ q2 ∧ q2 < 18446744073709551616 ∧ 0 ≤ b1 ∧ b1 ≤ 1)
    (e12 : r1 + 18446744073709551616 * b2 = l2 + p2 + 0 ∧ 0 ≤ r1 ∧ r1 < 18446744073709551616 ∧ 0 ≤ b2 ∧ b2 ≤ 1)
    (e13 : k2 + 18446744073709551616 * b3 = q2 + 0 + b2 ∧ 0 ≤ k2 ∧ k2 < 18446744073709551616 ∧ 0 ≤ b3 ∧ b3 ≤ 1)
    (e14 : 18446744073709551616 * h3 + l3 = m * 3486998266802970665 ∧ 0 ≤ h3 ∧ h3 < 18446744073709551616 ∧ 0 ≤ l3 ∧ l3 < 18446744073709551616)
    (e15 : p3 + 18446744073709551616 * d0 = t3 + k2 + 0 ∧ 0 ≤ p3 ∧ p3 < 18446744073709551616 ∧ 0 ≤ d0 ∧ d0 ≤ 1)
    (e16 : q3 + 18446744073709551616 * d1 = h3 + 0 + d0 ∧ 0 ≤ q3 ∧ q3 < 18446744073709551616 ∧ 0 ≤ d1 ∧ d1 ≤ 1)
    (e17 : r2 + 18446744073709551616 * d2 = l3 + p3 + 0 ∧ 0 ≤ r2 ∧ r2 < 18446744073709551616 ∧ 0 ≤ d2 ∧ d2 ≤ 1)
    (e18 : k3 + 18446744073709551616 * d3 = q3 + 0 + d2 ∧ 0 ≤ k3 ∧ k3 < 18446744073709551616 ∧ 0 ≤ d3 ∧ d3 ≤ 1) :
    0 ≤ m ∧ m < 18446744073709551616 ∧ 18446744073709551616 * v4 r0 r1 r2 k3 = v4 t0 t1 t2 t3 + m * 21888242871839275222246405745257275088696311157297823662689037894645226208583 := by
  obtain ⟨⟨k, hk⟩, hm0, hm1⟩ := em
  have hb : ∀ c : Int, 0 ≤ c → c ≤ 18446744073709551615 → m * c ≤ 340282366920938463426481119284349108225 := fun c h0 h1 => Int.mul_le_mul (le_wd ⟨hm0, hm1⟩) h1 h0 (by decide)
  have k0' := madd0 e1.1 (hb _ (by decide) (by decide)) wt0.2 e2.1 e3.1 e2.2.1 e3.2.1 e3.2.2.2.1
  have z : x = 0 := low_zero (z0 := t0) (k := k) (by rw [hk, Int.mul_comm]) e1.1 (by rw [e2.1]; exact congrArg (· + (0 : Int)) (Int.add_comm _ _)) e2.2.1 e2.2.2.1
  have k1' := madd e4.1 (hb _ (by decide) (by decide)) wt1.2 e3.2.2.1 e5.1 e6.1 e7.1 e8.1 e6.2.2.2.1 e8.2.2.2.1 e7.2.1 e8.2.1
  have k2' := madd e9.1 (hb _ (by decide) (by decide)) wt2.2 e8.2.2.1 e10.1 e11.1 e12.1 e13.1 e11.2.2.2.1 e13.2.2.2.1 e12.2.1 e13.2.1
  have k3' := madd e14.1 (hb _ (by decide) (by decide)) wt3.2 e13.2.2.1 e15.1 e16.1 e17.1 e18.1 e16.2.2.2.1 e18.2.2.2.1 e17.2.1 e18.2.1
  refine ⟨hm0, hm1, ?_⟩
  clear e1 e2 e3 e4 e5 e6 e7 e8 e9 e10 e11 e12 e13 e14 e15 e16 e17 e18 hb hm0 hm1 hk wt0 wt1 wt2 wt3
  subst z
  unfold v4
  omega
theorem back_lt {T T' m : Int} (h : 18446744073709551616 * T' = T + m * 21888242871839275222246405745257275088696311157297823662689037894645226208583) (hT : T < 21888242871839275222246405745257275088696311157297823662689037894645226208583) (hm : m < 18446744073709551616) :
    T' < 21888242871839275222246405745257275088696311157297823662689037894645226208583 := by omega
theorem back_all {X T1 T2 T3 T4 k1 k2 k3 k4 : Int} (q1 : 18446744073709551616 * T1 = X + k1 * 21888242871839275222246405745257275088696311157297823662689037894645226208583)
    (q2 : 18446744073709551616 * T2 = T1 + k2 * 21888242871839275222246405745257275088696311157297823662689037894645226208583)
    (q3 : 18446744073709551616 * T3 = T2 + k3 * 21888242871839275222246405745257275088696311157297823662689037894645226208583)
    (q4 : 18446744073709551616 * T4 = T3 + k4 * 21888242871839275222246405745257275088696311157297823662689037894645226208583)
    (m1 : 0 ≤ k1) (m2 : 0 ≤ k2) (m3 : 0 ≤ k3) (m4 : 0 ≤ k4) : ∃ K : Nat, 115792089237316195423570985008687907853269984665640564039457584007913129639936 * T4 = X + K * 21888242871839275222246405745257275088696311157297823662689037894645226208583 := by
  have hK : 0 ≤ k1 + 18446744073709551616 * k2 + 340282366920938463463374607431768211456 * k3 + 6277101735386680763835789423207666416102355444464034512896 * k4 := by omega
  obtain ⟨K, hK⟩ := nat_of hK
  refine ⟨K, ?_⟩
  rw [← hK]
  clear hK m1 m2 m3 m4
  omega
theorem low_lt {T : Int} (h : T < 21888242871839275222246405745257275088696311157297823662689037894645226208583) : T < 43776485743678550444492811490514550177392622314595647325378075789290452417166 := by omega
theorem back_mod {X N K : Nat} {T : Int} (h : 115792089237316195423570985008687907853269984665640564039457584007913129639936 * T = X + K * 21888242871839275222246405745257275088696311157297823662689037894645226208583)
    (hN : (N : Int) = T ∨ (N : Int) = T - 21888242871839275222246405745257275088696311157297823662689037894645226208583) : N * RR % q = X % q := by
  rcases hN with hN | hN
  · rw [← hN] at h
    have h' : RR * N = X + K * q := Int.ofNat.inj h
    rw [Nat.mul_comm, h', Nat.add_mul_mod_self_right]
  · obtain ⟨t, rfl⟩ := nat_of (show 0 ≤ T by omega)
    have h' : RR * t = X + K * q := Int.ofNat.inj h
    have ht : t = N + q := by unfold q; omega
    have : N * RR % q = (N + q) * RR % q := by rw [Nat.add_mul, Nat.mul_comm q RR, Nat.add_mul_mod_self_right]
    rw [this, ← ht, Nat.mul_comm, h', Nat.add_mul_mod_self_right]
theorem back_law {e : Env} {X : Nat} (hW : Wd (e.i 4) ∧ Wd (e.i 5) ∧ Wd (e.i 6) ∧ Wd (e.i 7)) (hX : v4 (e.i 4) (e.i 5) (e.i 6) (e.i 7) = X) (hx : X < q) :
    tFromMont.lin e (Wrote e (.tup []) fun N => N * RR % q = X % q) := by
  intro h0 h1 h2 h3 h4 h5 h6 h7 h8 h9 h10 h11 h12 h13 h14 h15 h16 h17 h18
  obtain ⟨m1, l1, q1⟩ := back_round hW.1 hW.2.1 hW.2.2.1 hW.2.2.2 h0 h1 h2 h3 h4 h5 h6 h7 h8 h9 h10 h11 h12 h13 h14 h15 h16 h17 h18
  have w1 := wdl h7.2; have w2 := wdl h12.2; have w3 := wdl h17.2; have w4 := wdl h18.2
  clear h0 h1 h2 h3 h4 h5 h6 h7 h8 h9 h10 h11 h12 h13 h14 h15 h16 h17 h18
  intro h0 h1 h2 h3 h4 h5 h6 h7 h8 h9 h10 h11 h12 h13 h14 h15 h16 h17 h18
  obtain ⟨m2, l2, q2⟩ := back_round w1 w2 w3 w4 h0 h1 h2 h3 h4 h5 h6 h7 h8 h9 h10 h11 h12 h13 h14 h15 h16 h17 h18
  clear w1 w2 w3 w4
  have w1 := wdl h7.2; have w2 := wdl h12.2; have w3 := wdl h17.2; have w4 := wdl h18.2
  clear h0 h1 h2 h3 h4 h5 h6 h7 h8 h9 h10 h11 h12 h13 h14 h15 h16 h17 h18
  intro h0 h1 h2 h3 h4 h5 h6 h7 h8 h9 h10 h11 h12 h13 h14 h15 h16 h17 h18
  obtain ⟨m3, l3, q3⟩ := back_round w1 w2 w3 w4 h0 h1 h2 h3 h4 h5 h6 h7 h8 h9 h10 h11 h12 h13 h14 h15 h16 h17 h18
  clear w1 w2 w3 w4
  have w1 := wdl h7.2; have w2 := wdl h12.2; have w3 := wdl h17.2; have w4 := wdl h18.2
  clear h0 h1 h2 h3 h4 h5 h6 h7 h8 h9 h10 h11 h12 h13 h14 h15 h16 h17 h18
  intro h0 h1 h2 h3 h4 h5 h6 h7 h8 h9 h10 h11 h12 h13 h14 h15 h16 h17 h18
  obtain ⟨m4, l4, q4⟩ := back_round w1 w2 w3 w4 h0 h1 h2 h3 h4 h5 h6 h7 h8 h9 h10 h11 h12 h13 h14 h15 h16 h17 h18
  clear w1 w2 w3 w4
  have w1 := wdl h7.2; have w2 := wdl h12.2; have w3 := wdl h17.2; have w4 := wdl h18.2
  clear h0 h1 h2 h3 h4 h5 h6 h7 h8 h9 h10 h11 h12 h13 h14 h15 h16 h17 h18
  have hlt := back_lt q4 (back_lt q3 (back_lt q2 (back_lt q1 (by rw [hX]; exact Int.ofNat_lt.2 hx) l1) l2) l3) l4
  obtain ⟨K, key⟩ := back_all q1 q2 q3 q4 m1 m2 m3 m4
  rw [hX] at key
  exact low_tail (by decide) (by decide) ⟨w1, w2, w3, w4⟩ (low_lt hlt) fun N _ hN => back_mod key hN
theorem mul64_tree {e : Env} (hx : Wd (e.i 0)) (hy : Wd (e.i 1)) : tMul64.lin e fun l => l.2 = [] ∧ ∀ β, l.1.den β e = .tuple #[.int .u64 (e.i 0 * e.i 1 / 18446744073709551616), .int .u64 (e.i 0 * e.i 1 % 18446744073709551616)] := by
  intro h0 h1 h2 h3 h4 h5 h6 h7 h8 h9 h10 h11 h12 h13 h14 h15 h16
  have e2 : e.i 2 = e.i 0 % 4294967296 := h0.1.trans (and32 hx)
  have e3 : e.i 3 = e.i 0 / 4294967296 := h1.1.trans shr32
  have e4 : e.i 4 = e.i 1 % 4294967296 := h2.1.trans (and32 hy)
  have e5 : e.i 5 = e.i 1 / 4294967296 := h3.1.trans shr32
  obtain ⟨k6, e6⟩ := h4.1
  obtain ⟨k7, e7⟩ := h5.1
  have e8 : e.i 8 = e.i 6 / 4294967296 := h6.1.trans shr32
  obtain ⟨k9, e9⟩ := h7.1
  have e10 : e.i 10 = e.i 9 % 4294967296 := h8.1.trans (and32 h7.2)
  have e11 : e.i 11 = e.i 9 / 4294967296 := h9.1.trans shr32
  obtain ⟨k12, e12⟩ := h10.1
  obtain ⟨k13, e13⟩ := h11.1
  obtain ⟨k14, e14⟩ := h12.1
  obtain ⟨k15, e15⟩ := h13.1
  have e16 : e.i 16 = e.i 13 / 4294967296 := h14.1.trans shr32
  obtain ⟨k17, e17⟩ := h15.1
  obtain ⟨k18, e18⟩ := h16.1
  simp only [den_v] at e6 e7 e9 e12 e13 e14 e15 e17 e18
  have hi : e.i 17 = e.i 0 * e.i 1 / 18446744073709551616 :=
    mul64_law hx hy e2 e3 e4 e5 rfl rfl rfl rfl ⟨k6, e6⟩ h4.2 (t := e.i 9) ⟨k7, k9, by rw [e9, e7, e8], by rw [← e7]; exact h5.2⟩ h7.2 e10 e11
      (w1' := e.i 13) ⟨k12, k13, by rw [e13, e12], by rw [← e12]; exact h10.2⟩ h11.2 ⟨k14, k15, k17, by rw [e17, e15, e14, e16], by rw [← e14]; exact h12.2, by rw [← e14, ← e15]; exact h13.2⟩ h15.2
  have lo : e.i 18 = e.i 0 * e.i 1 % 18446744073709551616 := by
    have := h16.2
    clear hi e2 e3 e4 e5 e6 e7 e8 e9 e10 e11 e12 e13 e14 e15 e16 e17 h0 h1 h2 h3 h4 h5 h6 h7 h8 h9 h10 h11 h12 h13 h14 h15
    generalize e.i 0 * e.i 1 = p at *
    have h1 := this.1
    have h2 := this.2
    clear h16 this
    omega
  refine ⟨rfl, fun β => ?_⟩
  show Value.tuple #[.int .u64 (e.i 17), .int .u64 (e.i 18)] = _
  rw [hi, lo]
end Go.Sx
namespace Go.Sx
open Go

/-! ### Contracts -/
def wordsV (a b c d : Int) : List Value := [.int .u64 a, .int .u64 b, .int .u64 c, .int .u64 d]
def numV (n : Nat) : List Value := wordsV (w4 n 0) (w4 n 1) (w4 n 2) (w4 n 3)
abbrev emV (x : Fq) : List Value := numV (mont x)
abbrev epV (x : Fq) : List Value := numV x.val
/-- A place of four words that may be written. -/
def Place (w : World) (z : Addr) : Prop := (∃ a b c d : Int, Wd a ∧ Wd b ∧ Wd c ∧ Wd d ∧ CellsAt w z (wordsV a b c d)) ∧ Unfrozen w z 4
/-- The call hands back v and leaves the world w1, but for new places. -/
def Does (P : Program) (f : FuncId) (args : Array Value) (v : Value) (w w1 : World) : Prop :=
  (callFunc f args).run P w = .ok (.enter f args) w ∧ Calls P f args w fun en w' => en = .returned v ∧ Grow w1 w'
abbrev ptr (a : Addr) : Value := .pointer (some a)
def BinC (P : Program) (f : FuncId) (op : Fq → Fq → Fq) : Prop := ∀ (w : World) (z x y : Addr) (a b : Fq), Place w z → CellsAt w x (emV a) → CellsAt w y (emV b) →
  (x = z ∨ Apart x 4 z 4) → (y = z ∨ Apart y 4 z 4) → ¬ (x = z ∧ y = z) → Does P f #[ptr z, ptr x, ptr y] (ptr z) w (w.setCells z.block z.off (emV (op a b)))
def UnC (P : Program) (f : FuncId) (op : Fq → Fq) : Prop := ∀ (w : World) (z x : Addr) (a : Fq), Place w z → CellsAt w x (emV a) →
  (x = z ∨ Apart x 4 z 4) → Does P f #[ptr z, ptr x] (ptr z) w (w.setCells z.block z.off (emV (op a)))
def ZeroC (P : Program) (f : FuncId) : Prop := ∀ (w : World) (x : Addr) (a : Fq), CellsAt w x (emV a) → Does P f #[ptr x] (.bool (decide (a = 0))) w w
def EqC (P : Program) (f : FuncId) : Prop := ∀ (w : World) (x y : Addr) (a b : Fq), CellsAt w x (emV a) → CellsAt w y (emV b) → Does P f #[ptr x, ptr y] (.bool (decide (a = b))) w w
def SmallC (P : Program) (f : FuncId) : Prop := ∀ (w : World) (x : Addr) (a b c d : Int), Wd a → Wd b → Wd c → Wd d → CellsAt w x (wordsV a b c d) →
  Does P f #[ptr x] (.bool (decide (v4 a b c d < 21888242871839275222246405745257275088696311157297823662689037894645226208583))) w w
def BackC (P : Program) (f : FuncId) : Prop := ∀ (w : World) (x : Addr) (a : Fq), Place w x → CellsAt w x (emV a) → Does P f #[ptr x] (.tuple #[]) w (w.setCells x.block x.off (epV a))

/-! ### What the log leaves -/
def logSet (β : Nat → Nat) (e : Env) (off : Nat) : List (Nat × Atom) → Array Value → Array Value
  | [], c => c
  | (i, a) :: l, c => (logSet β e off l c).setIfInBounds (off + i) (a.den β e)
def rowSet : Nat → List Value → Array Value → Array Value
  | _, [], c => c
  | o, v :: vs, c => rowSet (o + 1) vs (c.setIfInBounds o v)
theorem logSet_size (β : Nat → Nat) (e : Env) (off : Nat) : ∀ (l : List (Nat × Atom)) (c : Array Value), (logSet β e off l c).size = c.size
  | [], c => rfl
  | (i, a) :: l, c => by rw [logSet, Array.size_setIfInBounds, logSet_size β e off l]
theorem logSet_get (β : Nat → Nat) (e : Env) (off : Nat) : ∀ (l : List (Nat × Atom)) (c : Array Value) (k : Nat), k < c.size →
    (logSet β e off l c)[k]? = if off ≤ k then (match logGet l (k - off) with | some a => some (a.den β e) | none => c[k]?) else c[k]?
  | [], c, k, hk => by simp [logSet, logGet]
  | (i, a) :: l, c, k, hk => by
    rw [logSet, Array.getElem?_setIfInBounds, logSet_size, logSet_get β e off l c k hk, logGet]
    by_cases h : off + i = k
    · subst h
      rw [if_pos rfl, if_pos hk, if_pos (by omega)]
      have : off + i - off = i := by omega
      rw [this]
      simp
    · rw [if_neg h]
      by_cases h2 : off ≤ k
      · rw [if_pos h2, if_pos h2]
        have : Nat.beq i (k - off) = false := by
          exact Nat.beq_eq_false_iff_ne.2 (by omega)
        rw [this]
        rfl
      · rw [if_neg h2, if_neg h2]
where
  Nat.beq_eq_false_iff_ne {a b : Nat} : Nat.beq a b = false ↔ a ≠ b :=
    ⟨fun h => Nat.ne_of_beq_eq_false h, fun h => by
      cases hb : Nat.beq a b with
      | true => exact absurd (Nat.eq_of_beq_eq_true hb) h
      | false => rfl⟩
theorem rowSet_size : ∀ (vs : List Value) (o : Nat) (c : Array Value), (rowSet o vs c).size = c.size
  | [], _, _ => rfl
  | v :: vs, o, c => by rw [rowSet, rowSet_size vs]; simp
theorem rowSet_get : ∀ (vs : List Value) (o : Nat) (c : Array Value) (k : Nat), k < c.size → (rowSet o vs c)[k]? = if o ≤ k ∧ k < o + vs.length then vs[k - o]? else c[k]?
  | [], o, c, k, hk => by rw [rowSet, if_neg (by simp)]
  | v :: vs, o, c, k, hk => by
    rw [rowSet, rowSet_get vs (o + 1) _ k (by simpa using hk)]
    simp only [List.length_cons]
    by_cases h : o = k
    · subst h
      rw [if_neg (by omega), if_pos (by omega)]
      simp [hk]
    · rw [Array.getElem?_setIfInBounds, if_neg h]
      by_cases h2 : o + 1 ≤ k ∧ k < o + 1 + vs.length
      · rw [if_pos h2, if_pos (by omega), show k - o = (k - (o + 1)) + 1 by omega]
        simp
      · rw [if_neg h2, if_neg (by omega)]
theorem apLog_heap (β : Nat → Nat) (e : Env) (j : Nat) : ∀ (l : List (Nat × Atom)) (w : World), (apLog β e l w).heap[j]? =
    if (e.ext 0).block = j then (w.heap[j]?).map (fun | .cells c t f => .cells (logSet β e (e.ext 0).off l c) t f | o => o) else w.heap[j]?
  | [], w => by
    simp only [apLog, logSet]
    split
    · cases w.heap[j]? with
      | none => rfl
      | some o => cases o <;> rfl
    · rfl
  | (i, a) :: l, w => by
    rw [apLog, heap_setCell _ _ _ rfl, apLog_heap β e j l w]
    simp only
    by_cases h : (e.ext 0).block = j
    · simp only [if_pos h]
      cases w.heap[j]? with
      | none => rfl
      | some o => cases o <;> rfl
    · simp only [if_neg h]
theorem setCells_heap (b j : Nat) : ∀ (vs : List Value) (o : Nat) (w : World), (w.setCells b o vs).heap[j]? =
    if b = j then (w.heap[j]?).map (fun | .cells c t f => .cells (rowSet o vs c) t f | o => o) else w.heap[j]?
  | [], o, w => by
    simp only [World.setCells, rowSet]
    split
    · cases w.heap[j]? with
      | none => rfl
      | some o => cases o <;> rfl
    · rfl
  | v :: vs, o, w => by
    rw [World.setCells, setCells_heap b j vs, heap_setCell _ _ _ rfl]
    by_cases h : b = j
    · simp only [if_pos h]
      cases w.heap[j]? with
      | none => rfl
      | some o => cases o <;> rfl
    · simp only [if_neg h]
theorem setCells_meta (b : Nat) : ∀ (vs : List Value) (o : Nat) (w : World), (w.setCells b o vs).tape = w.tape ∧ (w.setCells b o vs).os = w.os ∧ (w.setCells b o vs).output = w.output ∧ (w.setCells b o vs).heap.size = w.heap.size
  | [], _, _ => ⟨rfl, rfl, rfl, rfl⟩
  | v :: vs, o, w => by
    obtain ⟨h1, h2, h3, h4⟩ := setCells_meta b vs (o + 1) (w.setCell ⟨b, o, none⟩ v)
    refine ⟨h1, h2, h3, ?_⟩
    rw [World.setCells, h4]
    simp [World.setCell]

theorem logRow {β : Nat → Nat} {e : Env} {off : Nat} {l : List (Nat × Atom)} {vs : List Value} (hlt : ∀ x ∈ l, x.1 < vs.length) (hg : ∀ i v, vs[i]? = some v → ∃ a, logGet l i = some a ∧ a.den β e = v) (c : Array Value) :
    logSet β e off l c = rowSet off vs c := by
  apply Array.ext_getElem?
  intro k
  rcases Nat.lt_or_ge k c.size with hk | hk
  · rw [logSet_get β e off l c k hk, rowSet_get vs off c k hk]
    by_cases h1 : off ≤ k
    · by_cases h2 : k < off + vs.length
      · rw [if_pos h1, if_pos ⟨h1, h2⟩]
        have hv : vs[k - off]? = some vs[k - off] := List.getElem?_eq_getElem (by omega)
        obtain ⟨a, ha, hd⟩ := hg (k - off) _ hv
        rw [ha, hv, ← hd]
      · rw [if_pos h1, if_neg (by omega)]
        have : logGet l (k - off) = none := by
          have key : ∀ (l : List (Nat × Atom)), (∀ x ∈ l, x.1 < vs.length) → logGet l (k - off) = none := by
            intro l
            induction l with
            | nil => intro _; rfl
            | cons x l ih =>
              intro h
              obtain ⟨i, a⟩ := x
              have hi := h (i, a) (by simp)
              simp only at hi
              rw [logGet]
              cases hb : Nat.beq i (k - off) with
              | true => have := Nat.eq_of_beq_eq_true hb; omega
              | false => exact ih fun x hx => h x (by simp [hx])
          exact key l hlt
        rw [this]
    · rw [if_neg h1, if_neg (by omega)]
  · rw [Array.getElem?_eq_none (by rw [logSet_size]; omega), Array.getElem?_eq_none (by rw [rowSet_size]; omega)]

theorem grow_log {β : Nat → Nat} {e : Env} {l : List (Nat × Atom)} {vs : List Value} {w w' : World} {z : Addr} (hz : e.ext 0 = z) (hlt : ∀ x ∈ l, x.1 < vs.length) (hg : ∀ i v, vs[i]? = some v → ∃ a, logGet l i = some a ∧ a.den β e = v)
    (h : Grow (apLog β e l w) w') : Grow (w.setCells z.block z.off vs) w' := by
  obtain ⟨a1, a2, a3, a4⟩ := apLog_meta (β := β) (e := e) l w
  obtain ⟨b1, b2, b3, b4⟩ := setCells_meta z.block vs z.off w
  refine ⟨by rw [b1, ← a1]; exact h.tape, by rw [b2, ← a2]; exact h.os, by rw [b3, ← a3]; exact h.output, by rw [b4, ← a4]; exact h.size, fun j hj => ?_⟩
  rw [h.same j (by rw [a4]; rw [b4] at hj; exact hj), apLog_heap, setCells_heap, hz]
  have : (fun | .cells c t f => .cells (logSet β e z.off l c) t f | o => o : Obj → Obj) = (fun | .cells c t f => .cells (rowSet z.off vs c) t f | o => o) := by
    funext o
    cases o <;> simp only
    rw [logRow hlt hg]
  rw [this]

/-! ### The contracts of a function whose tree ends in a new element -/
section
variable {P : Program} {qf pf : QSum}
theorem ptr_of {a : Addr} (h : a.spot = none) : (⟨a.block, a.off + 0, none⟩ : Addr) = a := by
  obtain ⟨b, o, s⟩ := a
  cases h
  rfl
theorem wrote_end {e' : Env} {β' : Nat → Nat} {w : World} {z : Addr} {v u : SV} {log : List (Nat × Atom)} {N0 : Nat} (hz : e'.ext 0 = z)
    (h : Wrote e' u (fun N => N = N0) (v, log)) {w' : World} (hg : Grow (apLog β' e' log w) w') : Grow (w.setCells z.block z.off (numV N0)) w' := by
  obtain ⟨_, h2, N, _, h4, a, b, c, d, g0, g1, g2, g3, k0, k1, k2, k3⟩ := h
  subst h4
  refine grow_log hz h2 (fun i u hu => ?_) hg
  match i, hu with
  | 0, hu => simp only [numV, wordsV, List.getElem?_cons_zero, Option.some.injEq] at hu; subst hu; exact ⟨_, g0, by simp only [Atom.den, k0]⟩
  | 1, hu => simp only [numV, wordsV, List.getElem?_cons_zero, List.getElem?_cons_succ, Option.some.injEq] at hu; subst hu; exact ⟨_, g1, by simp only [Atom.den, k1]⟩
  | 2, hu => simp only [numV, wordsV, List.getElem?_cons_zero, List.getElem?_cons_succ, Option.some.injEq] at hu; subst hu; exact ⟨_, g2, by simp only [Atom.den, k2]⟩
  | 3, hu => simp only [numV, wordsV, List.getElem?_cons_zero, List.getElem?_cons_succ, Option.some.injEq] at hu; subst hu; exact ⟨_, g3, by simp only [Atom.den, k3]⟩
  | i + 4, hu => simp [numV, wordsV] at hu

theorem cells_block {w : World} {a : Addr} {v : Value} {vs : List Value} (h : CellsAt w a (v :: vs)) : a.block < w.heap.size :=
  cell_block_lt (a := ⟨a.block, a.off + 0, none⟩) (h.2 0 v rfl)
theorem ws_den {e : Env} {β : Nat → Nat} {b : Nat} : (ws b).map (Atom.den β e) = wordsV (e.i b) (e.i (b + 1)) (e.i (b + 2)) (e.i (b + 3)) := rfl

/-- A walk of a function of pointers: the first place is written, the others are read. -/
theorem run_ptr (hm : P.follows .mixedOrders = true) (hnum : NumOk P) (hq : QOk P qf) (hp : POk P pf) {n : Nat} {f : FuncId} {js : List Nat} {exts : List (List Atom)} {ni : Nat} {t : Tree Lf}
    (h : sxCall P qf pf n f (js.map pt) (hp0 exts ni 0) leafE = some t) (hbd : t.bd ni 0 0 = true) (hchk : t.chk ni = true) {w : World} (vals : Nat → Int) (addr : Nat → Addr) (hvals : ∀ k, k < ni → Wd (vals k))
    (hcells : ∀ j c, exts[j]? = some c → (addr j).block < w.heap.size ∧ (addr j).spot = none ∧ (c = [] ∨ ∃ b, b + 3 < ni ∧ c = ws b ∧ CellsAt w (addr j) (wordsV (vals b) (vals (b + 1)) (vals (b + 2)) (vals (b + 3)))))
    (hspot : ∀ j, j ∈ js → (addr j).spot = none)
    (hfrz : ∀ c, exts[0]? = some c → Unfrozen w (addr 0) c.length) (hdis : ∀ j c c0, j ≠ 0 → exts[j]? = some c → exts[0]? = some c0 → Apart (addr j) c.length (addr 0) c0.length)
    (Φ : Env → Lf → Prop) (law : ∀ e, Words e ni → (∀ k, k < ni → e.i k = vals k) → t.lin e (Φ e)) (hlen : exts.length ≤ 7 := by decide) :
    (callFunc f (js.map fun j => ptr (addr j)).toArray).run P w = .ok (.enter f (js.map fun j => ptr (addr j)).toArray) w ∧
    Calls P f (js.map fun j => ptr (addr j)).toArray w fun en w' => ∃ v log β' e', en = .returned (v.den β' e') ∧ (∀ k, e'.ext k = addr k) ∧ Φ e' (v, log) ∧ Grow (apLog β' e' log w) w' := by
  let e : Env := { i := vals, b := fun _ => false, f := fun _ => 0, ext := addr }
  have hag : ∀ e', AgreeE ni 0 0 e e' → Words e' ni ∧ (∀ k, k < ni → e'.i k = vals k) ∧ ∀ k, e'.ext k = addr k := fun e' ha =>
    ⟨fun k hk => by rw [ha.i k hk]; exact hvals k hk, fun k hk => ha.i k hk, fun k => by rw [ha.ext]⟩
  have hargs : ∀ e', AgreeE ni 0 0 e e' → (js.map pt).map (SV.den (fun _ => 0) e') = js.map fun j => ptr (addr j) := fun e' ha => by
    rw [List.map_map]
    refine List.map_congr_left fun j hj => ?_
    simp only [Function.comp, pt, SV.den, SV1.den, Atom.den, SA.den, (hag e' ha).2.2 j]
    rw [ptr_of (hspot j hj)]
  have := fn_of_tree (β := fun _ => 0) (e := e) (w := w) hm hnum hq hp h hbd (fun e' ha => by
      obtain ⟨g1, g2, g3⟩ := hag e' ha
      refine hp0_rel (fun j c hj => ?_) (fun c hc => by rw [g3]; exact hfrz c hc) (fun j c c0 hj hc hc0 => by rw [g3, g3]; exact hdis j c c0 hj hc hc0) (hlen := hlen)
      obtain ⟨k1, k2, k3⟩ := hcells j c hj
      rw [g3]
      refine ⟨k1, ?_⟩
      rcases k3 with rfl | ⟨b, hb, rfl, hc⟩
      · exact ⟨⟨k2, fun i v hi => by simp at hi⟩, fun a ha => by cases ha⟩
      · refine ⟨?_, fun a ha => ?_⟩
        · rw [ws_den, g2 b (by omega), g2 (b + 1) (by omega), g2 (b + 2) (by omega), g2 (b + 3) (by omega)]
          exact hc
        · simp only [ws, List.mem_cons, List.not_mem_nil, or_false] at ha
          rcases ha with rfl | rfl | rfl | rfl
          · exact wd_inR (g1 b (by omega))
          · exact wd_inR (g1 (b + 1) (by omega))
          · exact wd_inR (g1 (b + 2) (by omega))
          · exact wd_inR (g1 (b + 3) (by omega)))
    (fun e' ha s hs => by
      obtain ⟨j, _, rfl⟩ := List.mem_map.1 hs
      exact trivial)
    (fun e' ha => by rw [hargs e' ha, hargs e (AgreeE.refl _ _ _ _)]) Φ
    (fun e' ha => by
      obtain ⟨g1, g2, g3⟩ := hag e' ha
      exact t.goal_of_lin hchk g1 (law e' g1 g2))
  rw [hargs e (AgreeE.refl _ _ _ _)] at this
  refine ⟨this.1, this.2.mono fun en w' ⟨v, log, β', e', cnt, h1, h2, h3, h4, h5, h6⟩ => ⟨v, log, β', e', h1, (hag e' h2).2.2, h5, h6⟩⟩

theorem w4_wd (n j : Nat) : Wd ((w4 n j : Nat) : Int) := by
  have := w4_lt n j
  exact ⟨by omega, by omega⟩
/-- Values of words by a list. -/
def valsL (l : List Int) (k : Nat) : Int := l.getD k 0
theorem valsL_wd {l : List Int} (h : ∀ x ∈ l, Wd x) (k : Nat) : Wd (valsL l k) := by
  unfold valsL
  rw [List.getD_eq_getElem?_getD]
  cases hk : l[k]? with
  | none => exact ⟨Int.le_refl 0, by decide⟩
  | some x => exact h x (List.mem_of_getElem? hk)
def numL (n : Nat) : List Int := [(w4 n 0 : Nat), (w4 n 1 : Nat), (w4 n 2 : Nat), (w4 n 3 : Nat)]
theorem numL_wd {n : Nat} : ∀ x ∈ numL n, Wd x := fun x hx => by
  simp only [numL, List.mem_cons, List.not_mem_nil, or_false] at hx
  rcases hx with rfl | rfl | rfl | rfl <;> exact w4_wd _ _
theorem mont_RR (x : Fq) : mont x < RR := Nat.lt_trans (mont_lt x) (by unfold q RR; omega)
theorem val_RR (x : Fq) : x.val < RR := Nat.lt_trans x.isLt (by unfold q RR; omega)

/-- The laws of the words that a contract of two operands wants. -/
abbrev BinLaw (t : Tree Lf) (op : Fq → Fq → Fq) : Prop := ∀ (e : Env) (a b : Fq), Words e 12 → v4 (e.i 4) (e.i 5) (e.i 6) (e.i 7) = ((mont a : Nat) : Int) → v4 (e.i 8) (e.i 9) (e.i 10) (e.i 11) = ((mont b : Nat) : Int) →
  t.lin e (Wrote e (pt 0) fun N => N = mont (op a b))
abbrev UnLaw (t : Tree Lf) (op : Fq → Fq) : Prop := ∀ (e : Env) (a : Fq), Words e 8 → v4 (e.i 4) (e.i 5) (e.i 6) (e.i 7) = ((mont a : Nat) : Int) →
  t.lin e (Wrote e (pt 0) fun N => N = mont (op a))

theorem apart_refl0 (a : Addr) (n : Nat) : Apart a n a 0 := .inr (.inr (by omega))

theorem binC_of (hm : P.follows .mixedOrders = true) (hnum : NumOk P) (hq : QOk P qf) (hp : POk P pf) {f : FuncId} {t : Tree Lf} {op : Fq → Fq → Fq}
    (h012 : sxCall P qf pf 5000 f ([0, 1, 2].map pt) (hp0 [ws 0, ws 4, ws 8] 12 0) leafE = some t)
    (h001 : sxCall P qf pf 5000 f ([0, 0, 1].map pt) (hp0 [ws 4, ws 8] 12 0) leafE = some t)
    (h010 : sxCall P qf pf 5000 f ([0, 1, 0].map pt) (hp0 [ws 8, ws 4] 12 0) leafE = some t)
    (hbd : t.bd 12 0 0 = true) (hchk : t.chk 12 = true) (law : BinLaw t op) : BinC P f op := by
  intro w z x y a b hz hx hy hxz hyz hne
  obtain ⟨⟨o0, o1, o2, o3, w0, w1, w2, w3, hzc⟩, hzf⟩ := hz
  have hwd : ∀ k, Wd (valsL ([o0, o1, o2, o3] ++ numL (mont a) ++ numL (mont b)) k) := fun k => valsL_wd (fun x hx => by
    simp only [List.mem_append, List.mem_cons, List.not_mem_nil, or_false] at hx
    rcases hx with ((rfl | rfl | rfl | rfl) | h) | h
    · exact w0
    · exact w1
    · exact w2
    · exact w3
    · exact numL_wd _ h
    · exact numL_wd _ h) k
  have hlaw : ∀ e, Words e 12 → (∀ k, k < 12 → e.i k = valsL ([o0, o1, o2, o3] ++ numL (mont a) ++ numL (mont b)) k) → t.lin e (Wrote e (pt 0) fun N => N = mont (op a b)) := fun e hW hv =>
    law e a b hW (by rw [hv 4 (by omega), hv 5 (by omega), hv 6 (by omega), hv 7 (by omega)]; exact v4_w4 (mont_RR a)) (by rw [hv 8 (by omega), hv 9 (by omega), hv 10 (by omega), hv 11 (by omega)]; exact v4_w4 (mont_RR b))
  have fin : ∀ {addr : Nat → Addr} {en : Ending} {w' : World}, addr 0 = z → (∃ v log β' e', en = .returned (SV.den β' e' v) ∧ (∀ k, e'.ext k = addr k) ∧ Wrote e' (pt 0) (fun N => N = mont (op a b)) (v, log) ∧ Grow (apLog β' e' log w) w') →
      en = .returned (ptr z) ∧ Grow (w.setCells z.block z.off (emV (op a b))) w' := fun {addr en w'} h0 ⟨v, log, β', e', g1, g2, g3, g4⟩ => by
    have hv : v = pt 0 := g3.1
    refine ⟨?_, wrote_end (by rw [g2]; exact h0) g3 g4⟩
    rw [g1, hv]
    simp only [pt, SV.den, SV1.den, Atom.den, SA.den, g2, h0]
    rw [ptr_of hzc.1]
  by_cases e1 : x = z
  · subst e1
    have hyz' : Apart y 4 x 4 := by
      rcases hyz with h | h
      · exact absurd ⟨rfl, h⟩ hne
      · exact h
    have := run_ptr (w := w) hm hnum hq hp h001 hbd hchk (valsL ([o0, o1, o2, o3] ++ numL (mont a) ++ numL (mont b))) (fun j => if j = 0 then x else y) (fun k _ => hwd k)
      (fun j c hj => by
        match j, hj with
        | 0, hj => cases hj; exact ⟨cells_block hx, hx.1, .inr ⟨4, by omega, rfl, hx⟩⟩
        | 1, hj => cases hj; exact ⟨cells_block hy, hy.1, .inr ⟨8, by omega, rfl, hy⟩⟩
        | j + 2, hj => simp at hj)
      (fun j hj => by
        split
        · exact hx.1
        · exact hy.1)
      (fun c hc => by cases hc; exact hzf) (fun j c c0 hj hc hc0 => by
        match j, hj, hc with
        | 0, hj, _ => exact absurd rfl hj
        | 1, _, hc => cases hc; cases hc0; exact hyz'
        | j + 2, _, hc => simp at hc) _ hlaw
    exact ⟨this.1, this.2.mono fun en w' h => fin rfl h⟩
  · have hxz' : Apart x 4 z 4 := by
      rcases hxz with h | h
      · exact absurd h e1
      · exact h
    by_cases e2 : y = z
    · subst e2
      have := run_ptr (w := w) hm hnum hq hp h010 hbd hchk (valsL ([o0, o1, o2, o3] ++ numL (mont a) ++ numL (mont b))) (fun j => if j = 0 then y else x) (fun k _ => hwd k)
        (fun j c hj => by
          match j, hj with
          | 0, hj => cases hj; exact ⟨cells_block hy, hy.1, .inr ⟨8, by omega, rfl, hy⟩⟩
          | 1, hj => cases hj; exact ⟨cells_block hx, hx.1, .inr ⟨4, by omega, rfl, hx⟩⟩
          | j + 2, hj => simp at hj)
        (fun j hj => by
          split
          · exact hy.1
          · exact hx.1)
        (fun c hc => by cases hc; exact hzf) (fun j c c0 hj hc hc0 => by
          match j, hj, hc with
          | 0, hj, _ => exact absurd rfl hj
          | 1, _, hc => cases hc; cases hc0; exact hxz'
          | j + 2, _, hc => simp at hc) _ hlaw
      exact ⟨this.1, this.2.mono fun en w' h => fin rfl h⟩
    · have hyz' : Apart y 4 z 4 := by
        rcases hyz with h | h
        · exact absurd h e2
        · exact h
      have := run_ptr (w := w) hm hnum hq hp h012 hbd hchk (valsL ([o0, o1, o2, o3] ++ numL (mont a) ++ numL (mont b))) (fun j => if j = 0 then z else if j = 1 then x else y) (fun k _ => hwd k)
        (fun j c hj => by
          match j, hj with
          | 0, hj => cases hj; exact ⟨cells_block hzc, hzc.1, .inr ⟨0, by omega, rfl, hzc⟩⟩
          | 1, hj => cases hj; exact ⟨cells_block hx, hx.1, .inr ⟨4, by omega, rfl, hx⟩⟩
          | 2, hj => cases hj; exact ⟨cells_block hy, hy.1, .inr ⟨8, by omega, rfl, hy⟩⟩
          | j + 3, hj => simp at hj)
        (fun j hj => by
          split
          · exact hzc.1
          · split
            · exact hx.1
            · exact hy.1)
        (fun c hc => by cases hc; exact hzf) (fun j c c0 hj hc hc0 => by
          match j, hj, hc with
          | 0, hj, _ => exact absurd rfl hj
          | 1, _, hc => cases hc; cases hc0; exact hxz'
          | 2, _, hc => cases hc; cases hc0; exact hyz'
          | j + 3, _, hc => simp at hc) _ hlaw
      exact ⟨this.1, this.2.mono fun en w' h => fin rfl h⟩
end
end Go.Sx
namespace Go.Sx
open Go

theorem Wrote.imp {e : Env} {v : SV} {p p' : Nat → Prop} (h : ∀ N, N < q → p N → p' N) {l : Lf} (hw : Wrote e v p l) : Wrote e v p' l := by
  obtain ⟨h1, h2, N, h3, h4, h5⟩ := hw
  exact ⟨h1, h2, N, h3, h N h3 h4, h5⟩
theorem Tree.lin_imp {L : Type} {e : Env} {Φ Ψ : L → Prop} (h : ∀ l, Φ l → Ψ l) : ∀ {t : Tree L}, t.lin e Φ → t.lin e Ψ
  | .leaf l, ht => h l ht
  | .no, ht => ht
  | .dn _ _, ht => fun hd => Tree.lin_imp h (ht hd)
  | .br _ _ _, ht => ⟨fun hb => Tree.lin_imp h (ht.1 hb), fun hb => Tree.lin_imp h (ht.2 hb)⟩
theorem F_eq {a b : Nat} (h : a % q = b % q) : F a = F b := Fin.ext h

theorem mul_bin : BinLaw tMul (· * ·) := fun e a b hW hX hY =>
  Tree.lin_imp (fun _ h => h.imp fun N hN h => by
    have h1 := F_eq h
    rw [F_mul, F_mul, F_mont, F_mont] at h1
    refine mont_of hN ?_
    have := RRI
    grind) (mul_law (hW 4 (by omega)) (hW 5 (by omega)) (hW 6 (by omega)) (hW 7 (by omega)) hX hY (mont_lt b))
theorem sq_un : UnLaw tSq (fun a => a * a) := fun e a hW hX =>
  Tree.lin_imp (fun _ h => h.imp fun N hN h => by
    have h1 := F_eq h
    rw [F_mul, F_mul, F_mont] at h1
    refine mont_of hN ?_
    have := RRI
    grind) (sq_law (hW 4 (by omega)) (hW 5 (by omega)) (hW 6 (by omega)) (hW 7 (by omega)) hX hX (mont_lt a))
theorem add_bin : BinLaw tAdd (· + ·) := fun e a b hW hX hY =>
  Tree.lin_imp (fun _ h => h.imp fun N hN h => by
    have h1 := F_eq h
    rw [F_add, F_mont, F_mont] at h1
    refine mont_of hN ?_
    grind) (add_law hX hY (mont_lt a) (mont_lt b))
theorem dbl_un : UnLaw tDbl (fun a => a + a) := fun e a hW hX =>
  Tree.lin_imp (fun _ h => h.imp fun N hN h => by
    have h1 := F_eq h
    rw [F_add, F_mont] at h1
    refine mont_of hN ?_
    grind) (dbl_law hX (mont_lt a))
theorem sub_bin : BinLaw tSub (· - ·) := fun e a b hW hX hY =>
  Tree.lin_imp (fun _ h => h.imp fun N hN h => by
    have h1 := F_eq h
    rw [F_add, F_mont, F_mont] at h1
    refine mont_of hN ?_
    grind) (sub_law hX hY (mont_lt a) (mont_lt b))
theorem F_zero : F 0 = 0 := rfl
theorem neg_un : UnLaw tNeg (fun a => - a) := fun e a hW hX =>
  Tree.lin_imp (fun _ h => h.imp fun N hN h => by
    have h1 : F (N + mont a) = F 0 := F_eq h
    rw [F_add, F_mont, F_zero] at h1
    refine mont_of hN ?_
    grind) (neg_law ⟨hW 4 (by omega), hW 5 (by omega), hW 6 (by omega), hW 7 (by omega)⟩ hX (mont_lt a))

section
variable {P : Program} {qf pf : QSum}
theorem unC_of (hm : P.follows .mixedOrders = true) (hnum : NumOk P) (hq : QOk P qf) (hp : POk P pf) {f : FuncId} {t : Tree Lf} {op : Fq → Fq}
    (h01 : sxCall P qf pf 5000 f ([0, 1].map pt) (hp0 [ws 0, ws 4] 8 0) leafE = some t)
    (h00 : sxCall P qf pf 5000 f ([0, 0].map pt) (hp0 [ws 4] 8 0) leafE = some t)
    (hbd : t.bd 8 0 0 = true) (hchk : t.chk 8 = true) (law : UnLaw t op) : UnC P f op := by
  intro w z x a hz hx hxz
  obtain ⟨⟨o0, o1, o2, o3, w0, w1, w2, w3, hzc⟩, hzf⟩ := hz
  have hwd : ∀ k, Wd (valsL ([o0, o1, o2, o3] ++ numL (mont a)) k) := fun k => valsL_wd (fun x hx => by
    simp only [List.mem_append, List.mem_cons, List.not_mem_nil, or_false] at hx
    rcases hx with (rfl | rfl | rfl | rfl) | h
    · exact w0
    · exact w1
    · exact w2
    · exact w3
    · exact numL_wd _ h) k
  have hlaw : ∀ e, Words e 8 → (∀ k, k < 8 → e.i k = valsL ([o0, o1, o2, o3] ++ numL (mont a)) k) → t.lin e (Wrote e (pt 0) fun N => N = mont (op a)) := fun e hW hv =>
    law e a hW (by rw [hv 4 (by omega), hv 5 (by omega), hv 6 (by omega), hv 7 (by omega)]; exact v4_w4 (mont_RR a))
  have fin : ∀ {addr : Nat → Addr} {en : Ending} {w' : World}, addr 0 = z → (∃ v log β' e', en = .returned (SV.den β' e' v) ∧ (∀ k, e'.ext k = addr k) ∧ Wrote e' (pt 0) (fun N => N = mont (op a)) (v, log) ∧ Grow (apLog β' e' log w) w') →
      en = .returned (ptr z) ∧ Grow (w.setCells z.block z.off (emV (op a))) w' := fun {addr en w'} h0 ⟨v, log, β', e', g1, g2, g3, g4⟩ => by
    have hv : v = pt 0 := g3.1
    refine ⟨?_, wrote_end (by rw [g2]; exact h0) g3 g4⟩
    rw [g1, hv]
    simp only [pt, SV.den, SV1.den, Atom.den, SA.den, g2, h0]
    rw [ptr_of hzc.1]
  by_cases e1 : x = z
  · subst e1
    have := run_ptr (w := w) hm hnum hq hp h00 hbd hchk (valsL ([o0, o1, o2, o3] ++ numL (mont a))) (fun _ => x) (fun k _ => hwd k)
      (fun j c hj => by
        match j, hj with
        | 0, hj => cases hj; exact ⟨cells_block hx, hx.1, .inr ⟨4, by omega, rfl, hx⟩⟩
        | j + 1, hj => simp at hj)
      (fun j hj => hx.1)
      (fun c hc => by cases hc; exact hzf) (fun j c c0 hj hc hc0 => by
        match j, hj, hc with
        | 0, hj, _ => exact absurd rfl hj
        | j + 1, _, hc => simp at hc) _ hlaw
    exact ⟨this.1, this.2.mono fun en w' h => fin rfl h⟩
  · have hxz' : Apart x 4 z 4 := by
      rcases hxz with h | h
      · exact absurd h e1
      · exact h
    have := run_ptr (w := w) hm hnum hq hp h01 hbd hchk (valsL ([o0, o1, o2, o3] ++ numL (mont a))) (fun j => if j = 0 then z else x) (fun k _ => hwd k)
      (fun j c hj => by
        match j, hj with
        | 0, hj => cases hj; exact ⟨cells_block hzc, hzc.1, .inr ⟨0, by omega, rfl, hzc⟩⟩
        | 1, hj => cases hj; exact ⟨cells_block hx, hx.1, .inr ⟨4, by omega, rfl, hx⟩⟩
        | j + 2, hj => simp at hj)
      (fun j hj => by
        split
        · exact hzc.1
        · exact hx.1)
      (fun c hc => by cases hc; exact hzf) (fun j c c0 hj hc hc0 => by
        match j, hj, hc with
        | 0, hj, _ => exact absurd rfl hj
        | 1, _, hc => cases hc; cases hc0; exact hxz'
        | j + 2, _, hc => simp at hc) _ hlaw
    exact ⟨this.1, this.2.mono fun en w' h => fin rfl h⟩

theorem told_end {e e' : Env} {β' : Nat → Nat} {b : Bool} {v : SV} {log : List (Nat × Atom)} {w w' : World} (h : Told e' b (v, log)) (hg : Grow (apLog β' e log w) w') : v.den β' e' = .bool b ∧ Grow w w' := by
  obtain ⟨h1, x, h2, h3⟩ := h
  simp only at h1 h2
  subst h1; subst h2
  exact ⟨by simp only [SV.den, SV1.den, Atom.den, h3], hg⟩
theorem smallC_of (hm : P.follows .mixedOrders = true) (hnum : NumOk P) (hq : QOk P qf) (hp : POk P pf) {f : FuncId}
    (h : sxCall P qf pf 5000 f ([1].map pt) (hp0 [[], ws 0] 4 0) leafE = some tSmall) : SmallC P f := by
  intro w x a b c d ha hb hc hd hx
  have hwd : ∀ k, Wd (valsL [a, b, c, d] k) := fun k => valsL_wd (fun x hx => by
    simp only [List.mem_cons, List.not_mem_nil, or_false] at hx
    rcases hx with rfl | rfl | rfl | rfl
    · exact ha
    · exact hb
    · exact hc
    · exact hd) k
  have := run_ptr (w := w) hm hnum hq hp h (by decide) (by decide) (valsL [a, b, c, d]) (fun _ => x) (fun k _ => hwd k)
    (fun j c hj => by
      match j, hj with
      | 0, hj => cases hj; exact ⟨cells_block hx, hx.1, .inl rfl⟩
      | 1, hj => cases hj; exact ⟨cells_block hx, hx.1, .inr ⟨0, by omega, rfl, hx⟩⟩
      | j + 2, hj => simp at hj)
    (fun j hj => hx.1) (fun c hc => by cases hc; exact fun i hi => by simp at hi) (fun j c c0 hj hc hc0 => by
      match j, hj, hc with
      | 0, hj, _ => exact absurd rfl hj
      | 1, _, hc => cases hc; cases hc0; exact apart_refl0 _ _
      | j + 2, _, hc => simp at hc)
    (fun e => Told e (decide (v4 a b c d < 21888242871839275222246405745257275088696311157297823662689037894645226208583)))
    (fun e hW hv => by
      have := small_law (e := e) ⟨hW 0 (by omega), hW 1 (by omega), hW 2 (by omega), hW 3 (by omega)⟩
      rw [hv 0 (by omega), hv 1 (by omega), hv 2 (by omega), hv 3 (by omega)] at this
      exact this)
  exact ⟨this.1, this.2.mono fun en w' ⟨v, log, β', e', g1, g2, g3, g4⟩ => by
    obtain ⟨k1, k2⟩ := told_end g3 g4
    exact ⟨by rw [g1, k1], k2⟩⟩
theorem zeroC_of (hm : P.follows .mixedOrders = true) (hnum : NumOk P) (hq : QOk P qf) (hp : POk P pf) {f : FuncId}
    (h : sxCall P qf pf 5000 f ([1].map pt) (hp0 [[], ws 0] 4 0) leafE = some tIsZero) : ZeroC P f := by
  intro w x a hx
  have hwd : ∀ k, Wd (valsL (numL (mont a)) k) := fun k => valsL_wd (fun x hx => numL_wd _ hx) k
  have hz : decide (mont a = 0) = decide (a = 0) := by
    rw [decide_eq_decide]
    constructor
    · intro h
      have h1 := unmont_mont a
      rw [h] at h1
      rw [← h1]
      decide
    · intro h; rw [h]; decide
  have := run_ptr (w := w) hm hnum hq hp h (by decide) (by decide) (valsL (numL (mont a))) (fun _ => x) (fun k _ => hwd k)
    (fun j c hj => by
      match j, hj with
      | 0, hj => cases hj; exact ⟨cells_block hx, hx.1, .inl rfl⟩
      | 1, hj => cases hj; exact ⟨cells_block hx, hx.1, .inr ⟨0, by omega, rfl, hx⟩⟩
      | j + 2, hj => simp at hj)
    (fun j hj => hx.1) (fun c hc => by cases hc; exact fun i hi => by simp at hi) (fun j c c0 hj hc hc0 => by
      match j, hj, hc with
      | 0, hj, _ => exact absurd rfl hj
      | 1, _, hc => cases hc; cases hc0; exact apart_refl0 _ _
      | j + 2, _, hc => simp at hc)
    (fun e => Told e (decide (mont a = 0)))
    (fun e hW hv => isZero_law ⟨hW 0 (by omega), hW 1 (by omega), hW 2 (by omega), hW 3 (by omega)⟩
      (by rw [hv 0 (by omega), hv 1 (by omega), hv 2 (by omega), hv 3 (by omega)]; exact v4_w4 (mont_RR a)))
  rw [hz] at this
  exact ⟨this.1, this.2.mono fun en w' ⟨v, log, β', e', g1, g2, g3, g4⟩ => by
    obtain ⟨k1, k2⟩ := told_end g3 g4
    exact ⟨by rw [g1, k1], k2⟩⟩
theorem eqC_of (hm : P.follows .mixedOrders = true) (hnum : NumOk P) (hq : QOk P qf) (hp : POk P pf) {f : FuncId}
    (h : sxCall P qf pf 5000 f ([1, 2].map pt) (hp0 [[], ws 0, ws 4] 8 0) leafE = some tEqual) : EqC P f := by
  intro w x y a b hx hy
  have hwd : ∀ k, Wd (valsL (numL (mont a) ++ numL (mont b)) k) := fun k => valsL_wd (fun x hx => by
    rcases List.mem_append.1 hx with h | h
    · exact numL_wd _ h
    · exact numL_wd _ h) k
  have hz : decide (mont a = mont b) = decide (a = b) := by
    rw [decide_eq_decide]
    exact ⟨mont_inj, fun h => by rw [h]⟩
  have := run_ptr (w := w) hm hnum hq hp h (by decide) (by decide) (valsL (numL (mont a) ++ numL (mont b))) (fun j => if j = 0 then ⟨x.block, 0, none⟩ else if j = 2 then y else x) (fun k _ => hwd k)
    (fun j c hj => by
      match j, hj with
      | 0, hj => cases hj; exact ⟨(show x.block < w.heap.size from cells_block hx), rfl, .inl rfl⟩
      | 1, hj => cases hj; exact ⟨cells_block hx, hx.1, .inr ⟨0, by omega, rfl, hx⟩⟩
      | 2, hj => cases hj; exact ⟨cells_block hy, hy.1, .inr ⟨4, by omega, rfl, hy⟩⟩
      | j + 3, hj => simp at hj)
    (fun j hj => by
      split
      · rfl
      · split
        · exact hy.1
        · exact hx.1) (fun c hc => by cases hc; exact fun i hi => by simp at hi) (fun j c c0 hj hc hc0 => by
      match j, hj, hc with
      | 0, hj, _ => exact absurd rfl hj
      | 1, _, hc => cases hc; cases hc0; exact .inr (.inr (Nat.zero_le _))
      | 2, _, hc => cases hc; cases hc0; exact .inr (.inr (Nat.zero_le _))
      | j + 3, _, hc => simp at hc)
    (fun e => Told e (decide (mont a = mont b)))
    (fun e hW hv => equal_law hW
      (by rw [hv 0 (by omega), hv 1 (by omega), hv 2 (by omega), hv 3 (by omega)]; exact v4_w4 (mont_RR a))
      (by rw [hv 4 (by omega), hv 5 (by omega), hv 6 (by omega), hv 7 (by omega)]; exact v4_w4 (mont_RR b)))
  rw [hz] at this
  exact ⟨this.1, this.2.mono fun en w' ⟨v, log, β', e', g1, g2, g3, g4⟩ => by
    obtain ⟨k1, k2⟩ := told_end g3 g4
    exact ⟨by rw [g1, k1], k2⟩⟩
theorem backC_of (hm : P.follows .mixedOrders = true) (hnum : NumOk P) (hq : QOk P qf) (hp : POk P pf) {f : FuncId}
    (h : sxCall P qf pf 5000 f ([0].map pt) (hp0 [ws 4] 8 0) leafE = some tFromMont) : BackC P f := by
  intro w x a hz hx
  obtain ⟨_, hzf⟩ := hz
  have hwd : ∀ k, Wd (valsL ([0, 0, 0, 0] ++ numL (mont a)) k) := fun k => valsL_wd (fun x hx => by
    simp only [List.mem_append, List.mem_cons, List.not_mem_nil, or_false] at hx
    rcases hx with (rfl | rfl | rfl | rfl) | h
    · exact ⟨by decide, by decide⟩
    · exact ⟨by decide, by decide⟩
    · exact ⟨by decide, by decide⟩
    · exact ⟨by decide, by decide⟩
    · exact numL_wd _ h) k
  have := run_ptr (w := w) hm hnum hq hp h (by decide) (by decide) (valsL ([0, 0, 0, 0] ++ numL (mont a))) (fun _ => x) (fun k _ => hwd k)
    (fun j c hj => by
      match j, hj with
      | 0, hj => cases hj; exact ⟨cells_block hx, hx.1, .inr ⟨4, by omega, rfl, hx⟩⟩
      | j + 1, hj => simp at hj)
    (fun j hj => hx.1) (fun c hc => by cases hc; exact hzf) (fun j c c0 hj hc hc0 => by
      match j, hj, hc with
      | 0, hj, _ => exact absurd rfl hj
      | j + 1, _, hc => simp at hc)
    (fun e => Wrote e (.tup []) fun N => N = a.val)
    (fun e hW hv => Tree.lin_imp (fun _ h => h.imp fun N hN h => by
        have h1 := F_eq h
        rw [F_mul, F_mont] at h1
        have h2 : F N = a := by
          have := RRI
          grind
        have h3 := congrArg Fin.val h2
        have h4 : N % q = a.val := h3
        rw [← h4, Nat.mod_eq_of_lt hN])
      (back_law ⟨hW 4 (by omega), hW 5 (by omega), hW 6 (by omega), hW 7 (by omega)⟩ (by rw [hv 4 (by omega), hv 5 (by omega), hv 6 (by omega), hv 7 (by omega)]; exact v4_w4 (mont_RR a)) (mont_lt a)))
  exact ⟨this.1, this.2.mono fun en w' ⟨v, log, β', e', g1, g2, g3, g4⟩ => by
    have hv : v = .tup [] := g3.1
    refine ⟨?_, wrote_end (g2 0) g3 g4⟩
    rw [g1, hv]
    rfl⟩
theorem mul64_of (hm : P.follows .mixedOrders = true) (hnum : NumOk P) {f : FuncId}
    (h : sxCall P noF noF 5000 f [.one (.at (.int .u64 (.v 0))), .one (.at (.int .u64 (.v 1)))] (hp0 [] 2 0) leafE = some tMul64) : MulC P f := by
  intro x y hx hy w
  let e : Env := { i := valsL [x, y], b := fun _ => false, f := fun _ => 0, ext := fun _ => ⟨0, 0, none⟩ }
  have hag : ∀ e', AgreeE 2 0 0 e e' → e'.i 0 = x ∧ e'.i 1 = y := fun e' ha => ⟨ha.i 0 (by omega), ha.i 1 (by omega)⟩
  exact quiet_of_tree (e := e) (β := fun _ => 0) hm hnum (noF_q P) (noF_p P) h (by decide : tMul64.bd 2 0 0 = true) rfl
    (fun w e' ha => hp0_rel (fun j c hj => by simp at hj) (fun c hc => by simp at hc) (fun j c c0 _ hj => by simp at hj))
    (fun e' ha s hs => by
      obtain ⟨g1, g2⟩ := hag e' ha
      simp only [List.mem_cons, List.not_mem_nil, or_false] at hs
      rcases hs with rfl | rfl
      · show inR .u64 (e'.i 0)
        rw [g1]; exact wd_inR hx
      · show inR .u64 (e'.i 1)
        rw [g2]; exact wd_inR hy)
    (fun e' ha => by
      obtain ⟨g1, g2⟩ := hag e' ha
      simp only [List.map_cons, List.map_nil, SV.den, SV1.den, Atom.den, IE.den, g1, g2]
      rfl)
    (fun e' ha => by
      obtain ⟨g1, g2⟩ := hag e' ha
      have := mul64_tree (e := e') (by rw [g1]; exact hx) (by rw [g2]; exact hy)
      rw [g1, g2] at this
      refine Tree.goal_of_lin tMul64 (ni := 2) (by decide) (fun k hk => ?_) (Tree.lin_imp (fun l h => ⟨h.2, h.1⟩) this)
      match k, hk with
      | 0, _ => rw [g1]; exact hx
      | 1, _ => rw [g2]; exact hy) w
end
end Go.Sx
namespace Go.Sx
open Go

/-! ### Elements behind words -/
/-- The element whose Montgomery form four words are. -/
def elOf (h : Hp) (w : W4) : Option (List Dn × Nat × Hp) :=
  match w.em? with
  | some k => some ([], k, h)
  | none => match w.c? with
    | some n => let m := n.toNat * 20988524275117001072002809824448087578619730785600314334253784976379291040311 % q
      bif decide (0 ≤ n) && decide (n < 21888242871839275222246405745257275088696311157297823662689037894645226208583) then some ([.f h.nf (.k m)], h.nf, { h with nf := h.nf + 1 }) else none
    | none => bif (match look h.facts (.low w.a w.b w.c w.d) with | some true => true | _ => false) then some ([.f h.nf (.wm w.a w.b w.c w.d)], h.nf, { h with nf := h.nf + 1 }) else none
/-- The element whose plain words four words are. -/
def elP (h : Hp) (w : W4) : Option (List Dn × Nat × Hp) :=
  match w.ep? with
  | some k => some ([], k, h)
  | none => match w.c? with
    | some n => bif decide (0 ≤ n) && decide (n < 21888242871839275222246405745257275088696311157297823662689037894645226208583) then some ([.f h.nf (.k n.toNat)], h.nf, { h with nf := h.nf + 1 }) else none
    | none => bif (match look h.facts (.low w.a w.b w.c w.d) with | some true => true | _ => false) then some ([.f h.nf (.w w.a w.b w.c w.d)], h.nf, { h with nf := h.nf + 1 }) else none
def W4.ok (w : W4) (e : Env) : Prop := Wd (w.a.den e) ∧ Wd (w.b.den e) ∧ Wd (w.c.den e) ∧ Wd (w.d.den e)
def W4.is (w : W4) (e : Env) (n : Nat) : Prop := w.a.den e = w4 n 0 ∧ w.b.den e = w4 n 1 ∧ w.c.den e = w4 n 2 ∧ w.d.den e = w4 n 3
def W4.val (w : W4) (e : Env) : Int := v4 (w.a.den e) (w.b.den e) (w.c.den e) (w.d.den e)
theorem W4.is_of {w : W4} {e : Env} {n : Nat} (hw : w.ok e) (h : w.val e = n) : w.is e n := w4_of hw.1 hw.2.1 hw.2.2.1 hw.2.2.2 h
theorem SameMem.refl (h : Hp) : SameMem h h := ⟨rfl, rfl, rfl, rfl, rfl⟩
theorem SameMem.nf (h : Hp) (n : Nat) : SameMem h { h with nf := n } := ⟨rfl, rfl, rfl, rfl, rfl⟩
theorem SameMem.trans {a b c : Hp} (h : SameMem a b) (h' : SameMem b c) : SameMem a c :=
  ⟨h'.1.trans h.1, h'.2.1.trans h.2.1, h'.2.2.1.trans h.2.2.1, h'.2.2.2.1.trans h.2.2.2.1, h'.2.2.2.2.trans h.2.2.2.2⟩
theorem W4.em?_spec {w : W4} {k : Nat} (h : w.em? = some k) (e : Env) : w.is e (mont (e.f k)) := by
  obtain ⟨a, b, c, d⟩ := w
  unfold W4.em? at h
  split at h
  · rename_i e1 e2 e3 e4 h1 h2 h3 h4
    simp only at h1 h2 h3 h4
    subst h1 h2 h3 h4
    cases hb : (Nat.beq e1 e2 && Nat.beq e1 e3 && Nat.beq e1 e4) with
    | false => rw [hb] at h; cases h
    | true =>
      rw [hb] at h
      cases h
      simp only [Bool.and_eq_true] at hb
      have g1 := Nat.eq_of_beq_eq_true hb.1.1
      have g2 := Nat.eq_of_beq_eq_true hb.1.2
      have g3 := Nat.eq_of_beq_eq_true hb.2
      subst g1 g2 g3
      exact ⟨rfl, rfl, rfl, rfl⟩
  · cases h
theorem W4.ep?_spec {w : W4} {k : Nat} (h : w.ep? = some k) (e : Env) : w.is e (e.f k).val := by
  obtain ⟨a, b, c, d⟩ := w
  unfold W4.ep? at h
  split at h
  · rename_i e1 e2 e3 e4 h1 h2 h3 h4
    simp only at h1 h2 h3 h4
    subst h1 h2 h3 h4
    cases hb : (Nat.beq e1 e2 && Nat.beq e1 e3 && Nat.beq e1 e4) with
    | false => rw [hb] at h; cases h
    | true =>
      rw [hb] at h
      cases h
      simp only [Bool.and_eq_true] at hb
      have g1 := Nat.eq_of_beq_eq_true hb.1.1
      have g2 := Nat.eq_of_beq_eq_true hb.1.2
      have g3 := Nat.eq_of_beq_eq_true hb.2
      subst g1 g2 g3
      exact ⟨rfl, rfl, rfl, rfl⟩
  · cases h
theorem W4.c?_spec {w : W4} {n : Int} (h : w.c? = some n) (e : Env) : w.val e = n := by
  obtain ⟨a, b, c, d⟩ := w
  unfold W4.c? at h
  split at h
  · rename_i x y z t h1 h2 h3 h4
    simp only at h1 h2 h3 h4
    subst h1 h2 h3 h4
    cases h
    rfl
  · cases h
theorem low_fact {e : Env} {fs : List (BE × Bool)} (hf : Facts e fs) {w : W4} (h : (match look fs (.low w.a w.b w.c w.d) with | some true => true | _ => false) = true) : w.val e < 21888242871839275222246405745257275088696311157297823662689037894645226208583 := by
  split at h
  · rename_i hl
    exact of_decide_eq_true (look_sound hf hl)
  · cases h
theorem W4.val_nonneg {w : W4} {e : Env} (h : w.ok e) : 0 ≤ w.val e := v4_nonneg h.1.1 h.2.1.1 h.2.2.1.1 h.2.2.2.1
theorem elOf_sound {h h' : Hp} {w : W4} {ds : List Dn} {k : Nat} (hh : elOf h w = some (ds, k, h')) : SameMem h h' ∧ ∀ e, Facts e h.facts → w.ok e → (∀ d ∈ ds, d.holds e) → w.is e (mont (e.f k)) := by
  unfold elOf at hh
  split at hh
  · rename_i k' hk
    cases hh
    exact ⟨SameMem.refl _, fun e _ _ _ => W4.em?_spec hk e⟩
  · split at hh
    · rename_i n hn
      simp only at hh
      cases hb : (decide (0 ≤ n) && decide (n < 21888242871839275222246405745257275088696311157297823662689037894645226208583)) with
      | false => rw [hb] at hh; cases hh
      | true =>
        rw [hb] at hh
        cases hh
        simp only [Bool.and_eq_true, decide_eq_true_eq] at hb
        refine ⟨SameMem.nf _ _, fun e _ hw hd => ?_⟩
        have h1 : e.f h.nf = Fin.ofNat q (n.toNat * 20988524275117001072002809824448087578619730785600314334253784976379291040311 % q) := hd _ (List.mem_singleton.2 rfl)
        refine W4.is_of hw ?_
        rw [W4.c?_spec hn e]
        have h2 : e.f h.nf = unmont n.toNat := by
          rw [h1]
          show F _ = F n.toNat * F RI
          rw [← F_mul]
          exact F_eq (Nat.mod_mod _ _)
        rw [h2, mont_unmont (show n.toNat < q by unfold q; omega)]
        omega
    · cases hb : (match look h.facts (.low w.a w.b w.c w.d) with | some true => true | _ => false) with
      | false => rw [hb] at hh; cases hh
      | true =>
        rw [hb] at hh
        cases hh
        refine ⟨SameMem.nf _ _, fun e hf hw hd => ?_⟩
        have h1 : e.f h.nf = unmont (w.val e).toNat := hd _ (List.mem_singleton.2 rfl)
        have h2 := low_fact hf hb
        have h3 := W4.val_nonneg hw
        refine W4.is_of hw ?_
        rw [h1, mont_unmont (show (w.val e).toNat < q by unfold q; omega)]
        omega
theorem elP_sound {h h' : Hp} {w : W4} {ds : List Dn} {k : Nat} (hh : elP h w = some (ds, k, h')) : SameMem h h' ∧ ∀ e, Facts e h.facts → w.ok e → (∀ d ∈ ds, d.holds e) → w.is e (e.f k).val := by
  unfold elP at hh
  split at hh
  · rename_i k' hk
    cases hh
    exact ⟨SameMem.refl _, fun e _ _ _ => W4.ep?_spec hk e⟩
  · split at hh
    · rename_i n hn
      cases hb : (decide (0 ≤ n) && decide (n < 21888242871839275222246405745257275088696311157297823662689037894645226208583)) with
      | false => rw [hb] at hh; cases hh
      | true =>
        rw [hb] at hh
        cases hh
        simp only [Bool.and_eq_true, decide_eq_true_eq] at hb
        refine ⟨SameMem.nf _ _, fun e _ hw hd => ?_⟩
        have h1 : e.f h.nf = Fin.ofNat q n.toNat := hd _ (List.mem_singleton.2 rfl)
        refine W4.is_of hw ?_
        rw [W4.c?_spec hn e, h1]
        show n = ((n.toNat % q : Nat) : Int)
        rw [Nat.mod_eq_of_lt (show n.toNat < q by unfold q; omega)]
        omega
    · cases hb : (match look h.facts (.low w.a w.b w.c w.d) with | some true => true | _ => false) with
      | false => rw [hb] at hh; cases hh
      | true =>
        rw [hb] at hh
        cases hh
        refine ⟨SameMem.nf _ _, fun e hf hw hd => ?_⟩
        have h1 : e.f h.nf = Fin.ofNat q (w.val e).toNat := hd _ (List.mem_singleton.2 rfl)
        have h2 := low_fact hf hb
        have h3 := W4.val_nonneg hw
        refine W4.is_of hw ?_
        rw [h1]
        show w.val e = (((w.val e).toNat % q : Nat) : Int)
        rw [Nat.mod_eq_of_lt (show (w.val e).toNat < q by unfold q; omega)]
        omega

/-! ### Places -/
def sameR : Root → Root → Bool
  | .own i, .own j => Nat.beq i j
  | .ext i, .ext j => Nat.beq i j
  | .glob i, .glob j => Nat.beq i j
  | _, _ => false
def sameS (a b : SA) : Bool := sameR a.root b.root && Nat.beq a.off b.off
def apartS (a b : SA) : Bool :=
  match a.root, b.root with
  | .own i, .own j => !(Nat.beq i j) || Nat.ble (a.off + 4) b.off || Nat.ble (b.off + 4) a.off
  | .ext i, .ext j => Nat.beq i j && (Nat.ble (a.off + 4) b.off || Nat.ble (b.off + 4) a.off)
  | .own _, .ext _ => true
  | .ext _, .own _ => true
  | _, _ => false
theorem sameS_spec {a b : SA} (h : sameS a b = true) : a = b := by
  obtain ⟨r, o⟩ := a
  obtain ⟨r', o'⟩ := b
  simp only [sameS, Bool.and_eq_true] at h
  have h2 := Nat.eq_of_beq_eq_true h.2
  subst h2
  have h1 := h.1
  cases r <;> cases r' <;> simp only [sameR, Bool.false_eq_true] at h1 <;> rw [Nat.eq_of_beq_eq_true h1]
section
variable {w0 w : World} {e : Env} {β : Nat → Nat} {h : Hp}
theorem rd_root {a : SA} {n : Nat} {l : List Atom} (hr : rd h a n = some l) : ∃ c, cellsAt h a.root = some c := by
  obtain ⟨c, hc, _⟩ := rd_spec hr
  exact ⟨c, hc⟩
theorem apartS_sound (hr : HRel w0 e β h w) {a b : SA} {ca cb : List Atom} (ha : cellsAt h a.root = some ca) (hb : cellsAt h b.root = some cb) (h1 : apartS a b = true) : Apart (a.den β e) 4 (b.den β e) 4 := by
  obtain ⟨r, o⟩ := a
  obtain ⟨r', o'⟩ := b
  cases r <;> cases r' <;> simp only [apartS, Bool.false_eq_true] at h1
  · rename_i i j
    simp only [cellsAt] at ha hb
    obtain ⟨bi, hbi, _⟩ := Option.map_eq_some_iff.1 ha
    obtain ⟨bj, hbj, _⟩ := Option.map_eq_some_iff.1 hb
    simp only [Bool.or_eq_true, Bool.not_eq_true'] at h1
    simp only [SA.den, Apart]
    by_cases hij : i = j
    · subst hij
      rcases h1 with (h1 | h1) | h1
      · exact absurd rfl (Nat.ne_of_beq_eq_false h1)
      · exact .inr (.inl (Nat.le_of_ble_eq_true h1))
      · exact .inr (.inr (Nat.le_of_ble_eq_true h1))
    · exact .inl fun he => hij (hr.inj i j bi bj hbi hbj he)
  · rename_i i j
    simp only [cellsAt] at ha hb
    obtain ⟨bi, hbi, _⟩ := Option.map_eq_some_iff.1 ha
    have g1 := (hr.blk i bi hbi).2.1
    have g2 := hr.extb j cb hb
    simp only [SA.den, Apart]
    exact .inl (by omega)
  · rename_i i j
    simp only [cellsAt] at ha hb
    obtain ⟨bi, hbi, _⟩ := Option.map_eq_some_iff.1 hb
    have g1 := (hr.blk j bi hbi).2.1
    have g2 := hr.extb i ca ha
    simp only [SA.den, Apart]
    exact .inl (by omega)
  · rename_i i j
    simp only [Bool.and_eq_true, Bool.or_eq_true] at h1
    have hij := Nat.eq_of_beq_eq_true h1.1
    subst hij
    simp only [SA.den, Apart]
    rcases h1.2 with h2 | h2
    · exact .inr (.inl (by have := Nat.le_of_ble_eq_true h2; omega))
    · exact .inr (.inr (by have := Nat.le_of_ble_eq_true h2; omega))
theorem sa_spot (a : SA) : (a.den β e).spot = none := by
  obtain ⟨r, o⟩ := a; cases r <;> rfl
theorem rd4_sound (hr : HRel w0 e β h w) {a : SA} {v : W4} (h4 : rd4 h a = some v) :
    (∃ c, cellsAt h a.root = some c) ∧ v.ok e ∧ CellsAt w (a.den β e) (wordsV (v.a.den e) (v.b.den e) (v.c.den e) (v.d.den e)) := by
  unfold rd4 at h4
  split at h4
  · rename_i l hl
    unfold toW4 at h4
    split at h4
    · rename_i x y z t
      cases h4
      obtain ⟨h1, h2, h3⟩ := rd_sound hr hl
      refine ⟨rd_root hl, ⟨inR_wd (h2 (.int .u64 x) (by simp)), inR_wd (h2 (.int .u64 y) (by simp)), inR_wd (h2 (.int .u64 z) (by simp)), inR_wd (h2 (.int .u64 t) (by simp))⟩, sa_spot a, fun i u hu => ?_⟩
      have hoff : ∀ i, (⟨a.root, a.off + i⟩ : SA).den β e = ⟨(a.den β e).block, (a.den β e).off + i, none⟩ := fun i => by
        rw [← sa_add, sa_form a, addr_add]
      rw [← hoff]
      match i, hu with
      | 0, hu => cases hu; exact h3 0 _ rfl
      | 1, hu => cases hu; exact h3 1 _ rfl
      | 2, hu => cases hu; exact h3 2 _ rfl
      | 3, hu => cases hu; exact h3 3 _ rfl
      | i + 4, hu => simp [wordsV] at hu
    · cases h4
  · cases h4
theorem is_words {v : W4} {n : Nat} (h : v.is e n) : wordsV (v.a.den e) (v.b.den e) (v.c.den e) (v.d.den e) = numV n := by
  obtain ⟨h1, h2, h3, h4⟩ := h
  rw [h1, h2, h3, h4]
  rfl
theorem ems_den (k : Nat) : (ems k).map (Atom.den β e) = emV (e.f k) := rfl
theorem ems_ok (k n : Nat) : ∀ a ∈ ems k, a.ok n e := fun a ha => by
  simp only [ems, List.mem_cons, List.not_mem_nil, or_false] at ha
  rcases ha with rfl | rfl | rfl | rfl <;> exact wd_inR (w4_wd _ _)
theorem unfrozen_of {a : SA} (hu : ∀ i, i < 4 → (w.cell? ((⟨a.root, a.off + i⟩ : SA).den β e)).isSome = true ∧ w.frozen? ((⟨a.root, a.off + i⟩ : SA).den β e) = false) : Unfrozen w (a.den β e) 4 := fun i hi => by
  have := (hu i hi).2
  rw [show (⟨a.root, a.off + i⟩ : SA).den β e = ⟨(a.den β e).block, (a.den β e).off + i, none⟩ by rw [← sa_add, sa_form a, addr_add]] at this
  exact this
end

/-! ### The tables -/
theorem wr1_cnt {h h' : Hp} {a : SA} {v : Atom} (hw : wr1 h a v = some h') : h'.cnt = h.cnt := by
  unfold wr1 at hw
  split at hw
  · split at hw
    · rename_i b _
      cases hb : Nat.blt a.off b.cells.length with
      | false => rw [hb] at hw; cases hw
      | true => rw [hb] at hw; cases hw; rfl
    · cases hw
  · split at hw
    · rename_i c rest _
      cases hb : Nat.blt a.off c.length with
      | false => rw [hb] at hw; cases hw
      | true => rw [hb] at hw; cases hw; rfl
    · cases hw
  · cases hw
theorem wr_cnt {r : Root} : ∀ {l : List Atom} {o : Nat} {h h' : Hp}, wr h r o l = some h' → h'.cnt = h.cnt
  | [], _, _, _, hw => by cases hw; rfl
  | v :: vs, o, h, h', hw => by
    unfold wr at hw
    split at hw
    · rename_i h2 h1
      rw [wr_cnt hw, wr1_cnt h1]
    · cases hw
def binF (fn : FuncId) (mk : Nat → Nat → FD) : QSum := fun f args h =>
  bif Nat.beq f fn then match args with
    | [.one (.at (.ptr z)), .one (.at (.ptr x)), .one (.at (.ptr y))] => match rd4 h z, rd4 h x, rd4 h y with
      | some _, some wx, some wy => match elOf h wx with
        | some (d1, i, h1) => match elOf h1 wy with
          | some (d2, j, h2) => bif (sameS x z || apartS x z) && (sameS y z || apartS y z) && !(sameS x z && sameS y z) then
              match wr { h2 with nf := h2.nf + 1 } z.root z.off (ems h2.nf) with
              | some h3 => some (d1 ++ (d2 ++ [.f h2.nf (mk i j)]), .one (.at (.ptr z)), h3)
              | none => none
            else none
          | none => none
        | none => none
      | _, _, _ => none
    | _ => none
  else none
def unF (fn : FuncId) (mk : Nat → FD) : QSum := fun f args h =>
  bif Nat.beq f fn then match args with
    | [.one (.at (.ptr z)), .one (.at (.ptr x))] => match rd4 h z, rd4 h x with
      | some _, some wx => match elOf h wx with
        | some (d1, i, h1) => bif sameS x z || apartS x z then
            match wr { h1 with nf := h1.nf + 1 } z.root z.off (ems h1.nf) with
            | some h3 => some (d1 ++ [.f h1.nf (mk i)], .one (.at (.ptr z)), h3)
            | none => none
          else none
        | none => none
      | _, _ => none
    | _ => none
  else none
def zeF (fn : FuncId) : QSum := fun f args h =>
  bif Nat.beq f fn then match args with
    | [.one (.at (.ptr x))] => match rd4 h x with
      | some wx => match wx.c? with
        | some n => bif decide (0 ≤ n) && decide (n < 21888242871839275222246405745257275088696311157297823662689037894645226208583) then some ([], .one (.at (.bool (.c (decide (n = 0))))), h) else none
        | none => match elOf h wx with
          | some (d1, i, h1) => some (d1, .one (.at (.bool (.fz i))), h1)
          | none => none
      | none => none
    | _ => none
  else none
def eqF (fn : FuncId) : QSum := fun f args h =>
  bif Nat.beq f fn then match args with
    | [.one (.at (.ptr x)), .one (.at (.ptr y))] => match rd4 h x, rd4 h y with
      | some wx, some wy => match elOf h wx with
        | some (d1, i, h1) => match elOf h1 wy with
          | some (d2, j, h2) => some (d1 ++ d2, .one (.at (.bool (bif Nat.beq i j then .c true else .fe i j))), h2)
          | none => none
        | none => none
      | _, _ => none
    | _ => none
  else none

section
variable {P : Program}
theorem smF_p {fn : FuncId} (hc : SmallC P fn) : POk P (smF fn) := by
  intro f args h ds v h' hh
  unfold smF at hh
  cases hb : Nat.beq f fn with
  | false => rw [hb] at hh; cases hh
  | true =>
    rw [hb] at hh
    have hf := Nat.eq_of_beq_eq_true hb
    subst hf
    simp only [cond_true] at hh
    split at hh
    · rename_i a
      split at hh
      · rename_i wd hrd
        cases hh
        refine ⟨rfl, fun w0 e β w hr hok hds => ?_⟩
        obtain ⟨_, g2, g3⟩ := rd4_sound hr hrd
        have hlow : wd.lowB.den e = decide (wd.val e < 21888242871839275222246405745257275088696311157297823662689037894645226208583) := by
          unfold W4.lowB
          split
          · rename_i k hk
            have hv : wd.val e = mont (e.f k) := by
              obtain ⟨q1, q2, q3, q4⟩ := W4.em?_spec hk e
              unfold W4.val
              rw [q1, q2, q3, q4]
              exact v4_w4 (mont_RR _)
            rw [hv]
            exact (decide_eq_true (Int.ofNat_lt.2 (mont_lt _))).symm
          · rename_i k _ hk
            have hv : wd.val e = ((e.f k).val : Nat) := by
              obtain ⟨q1, q2, q3, q4⟩ := W4.ep?_spec hk e
              unfold W4.val
              rw [q1, q2, q3, q4]
              exact v4_w4 (val_RR _)
            rw [hv]
            exact (decide_eq_true (Int.ofNat_lt.2 (e.f k).isLt)).symm
          · rename_i n hn
            rw [W4.c?_spec hn e]
            rfl
          · rfl
        obtain ⟨k1, k2⟩ := hc w (a.den β e) _ _ _ _ g2.1 g2.2.1 g2.2.2.1 g2.2.2.2 g3
        refine ⟨trivial, k1, k2.mono fun en w' ⟨h1, h2⟩ => ⟨?_, hr.grow h2, h2.size⟩⟩
        rw [h1]
        simp only [SV.den, SV1.den, Atom.den, hlow]
        rfl
      · cases hh
    · cases hh

theorem binF_p {fn : FuncId} {mk : Nat → Nat → FD} {op : Fq → Fq → Fq} (hmk : ∀ e i j, (mk i j).ev e = op (e.f i) (e.f j)) (hc : BinC P fn op) : POk P (binF fn mk) := by
  intro f args h ds v h' hh
  unfold binF at hh
  cases hb : Nat.beq f fn with
  | false => rw [hb] at hh; cases hh
  | true =>
    rw [hb] at hh
    have hf := Nat.eq_of_beq_eq_true hb
    subst hf
    simp only [cond_true] at hh
    split at hh
    · rename_i z x y
      split at hh
      · rename_i wz wx wy hz hx hy
        split at hh
        · rename_i d1 i h1 he1
          split at hh
          · rename_i d2 j h2 he2
            cases hal : ((sameS x z || apartS x z) && (sameS y z || apartS y z) && !(sameS x z && sameS y z)) with
            | false => rw [hal] at hh; cases hh
            | true =>
              rw [hal] at hh
              simp only [cond_true] at hh
              split at hh
              · rename_i h3 hw
                cases hh
                obtain ⟨m1, s1⟩ := elOf_sound he1
                obtain ⟨m2, s2⟩ := elOf_sound he2
                have hmm : SameMem h { h2 with nf := h2.nf + 1 } := (m1.trans m2).trans (SameMem.nf _ _)
                have hcnt := (wr_cnt hw).trans hmm.2.1
                refine ⟨hcnt, fun w0 e β w hr hok hds => ?_⟩
                have hr' := hr.same hmm
                obtain ⟨⟨cz, hcz⟩, oz, az⟩ := rd4_sound hr hz
                obtain ⟨⟨cx, hcx⟩, ox, ax⟩ := rd4_sound hr hx
                obtain ⟨⟨cy, hcy⟩, oy, ay⟩ := rd4_sound hr hy
                have ix := s1 e hr.facts ox (fun d hd => hds d (by simp [hd]))
                have iy := s2 e (hr.same m1).facts oy (fun d hd => hds d (by simp [hd]))
                have hdef : e.f h2.nf = op (e.f i) (e.f j) := by
                  have : e.f h2.nf = (mk i j).ev e := hds (.f h2.nf (mk i j)) (by simp)
                  rw [this, hmk]
                obtain ⟨b1, b2, b3, _⟩ := wr_sound (ems h2.nf) hr' (r := z.root) (o := z.off) (ems_ok _ _) hw
                simp only [Bool.and_eq_true, Bool.or_eq_true, Bool.not_eq_true', Bool.and_eq_false_iff] at hal
                obtain ⟨⟨hax, hay⟩, hne⟩ := hal
                have pz : Place w (z.den β e) := ⟨⟨_, _, _, _, oz.1, oz.2.1, oz.2.2.1, oz.2.2.2, az⟩, unfrozen_of (a := z) b1⟩
                have nm : ∀ {u : SA} {cu}, cellsAt h u.root = some cu → (sameS u z = true ∨ apartS u z = true) → u.den β e = z.den β e ∨ Apart (u.den β e) 4 (z.den β e) 4 := fun {u cu} hu hor => by
                  rcases hor with h1 | h1
                  · exact .inl (by rw [sameS_spec h1])
                  · exact .inr (apartS_sound hr hu hcz h1)
                have ne : ¬ (x.den β e = z.den β e ∧ y.den β e = z.den β e) := by
                  rintro ⟨e1, e2⟩
                  have notap : ∀ {u : SA}, u.den β e = z.den β e → ¬ Apart (u.den β e) 4 (z.den β e) 4 := fun {u} hu ha => by
                    rw [hu] at ha
                    rcases ha with h1 | h1 | h1
                    · exact h1 rfl
                    · omega
                    · omega
                  have sx : sameS x z = true := by
                    rcases hax with h1 | h1
                    · exact h1
                    · exact absurd (apartS_sound hr hcx hcz h1) (notap e1)
                  have sy : sameS y z = true := by
                    rcases hay with h1 | h1
                    · exact h1
                    · exact absurd (apartS_sound hr hcy hcz h1) (notap e2)
                  rcases hne with h1 | h1
                  · rw [sx] at h1; cases h1
                  · rw [sy] at h1; cases h1
                obtain ⟨k1, k2⟩ := hc w (z.den β e) (x.den β e) (y.den β e) (e.f i) (e.f j) pz (by rw [is_words ix] at ax; exact ax) (by rw [is_words iy] at ay; exact ay) (nm hcx hax) (nm hcy hay) ne
                refine ⟨?_, k1, k2.mono fun en w' ⟨g1, g2⟩ => ⟨g1, ?_, ?_⟩⟩
                · have := hok (.one (.at (.ptr z))) (by simp)
                  exact this
                · rw [ems_den, hdef] at b2
                  exact b2.grow g2
                · have := g2.size
                  rw [setCells_size] at this
                  exact this
              · cases hh
          · cases hh
        · cases hh
      · cases hh
    · cases hh

theorem unF_p {fn : FuncId} {mk : Nat → FD} {op : Fq → Fq} (hmk : ∀ e i, (mk i).ev e = op (e.f i)) (hc : UnC P fn op) : POk P (unF fn mk) := by
  intro f args h ds v h' hh
  unfold unF at hh
  cases hb : Nat.beq f fn with
  | false => rw [hb] at hh; cases hh
  | true =>
    rw [hb] at hh
    have hf := Nat.eq_of_beq_eq_true hb
    subst hf
    simp only [cond_true] at hh
    split at hh
    · rename_i z x
      split at hh
      · rename_i wz wx hz hx
        split at hh
        · rename_i d1 i h1 he1
          cases hal : (sameS x z || apartS x z) with
          | false => rw [hal] at hh; cases hh
          | true =>
            rw [hal] at hh
            simp only [cond_true] at hh
            split at hh
            · rename_i h3 hw
              cases hh
              obtain ⟨m1, s1⟩ := elOf_sound he1
              have hmm : SameMem h { h1 with nf := h1.nf + 1 } := m1.trans (SameMem.nf _ _)
              have hcnt := (wr_cnt hw).trans hmm.2.1
              refine ⟨hcnt, fun w0 e β w hr hok hds => ?_⟩
              have hr' := hr.same hmm
              obtain ⟨⟨cz, hcz⟩, oz, az⟩ := rd4_sound hr hz
              obtain ⟨⟨cx, hcx⟩, ox, ax⟩ := rd4_sound hr hx
              have ix := s1 e hr.facts ox (fun d hd => hds d (by simp [hd]))
              have hdef : e.f h1.nf = op (e.f i) := by
                have : e.f h1.nf = (mk i).ev e := hds (.f h1.nf (mk i)) (by simp)
                rw [this, hmk]
              obtain ⟨b1, b2, b3, _⟩ := wr_sound (ems h1.nf) hr' (r := z.root) (o := z.off) (ems_ok _ _) hw
              have pz : Place w (z.den β e) := ⟨⟨_, _, _, _, oz.1, oz.2.1, oz.2.2.1, oz.2.2.2, az⟩, unfrozen_of (a := z) b1⟩
              have nm : x.den β e = z.den β e ∨ Apart (x.den β e) 4 (z.den β e) 4 := by
                rw [Bool.or_eq_true] at hal
                rcases hal with h1 | h1
                · exact .inl (by rw [sameS_spec h1])
                · exact .inr (apartS_sound hr hcx hcz h1)
              obtain ⟨k1, k2⟩ := hc w (z.den β e) (x.den β e) (e.f i) pz (by rw [is_words ix] at ax; exact ax) nm
              refine ⟨hok (.one (.at (.ptr z))) (by simp), k1, k2.mono fun en w' ⟨g1, g2⟩ => ⟨g1, ?_, ?_⟩⟩
              · rw [ems_den, hdef] at b2
                exact b2.grow g2
              · have := g2.size
                rw [setCells_size] at this
                exact this
            · cases hh
        · cases hh
      · cases hh
    · cases hh
theorem zeF_p {fn : FuncId} (hc : ZeroC P fn) : POk P (zeF fn) := by
  intro f args h ds v h' hh
  unfold zeF at hh
  cases hb : Nat.beq f fn with
  | false => rw [hb] at hh; cases hh
  | true =>
    rw [hb] at hh
    have hf := Nat.eq_of_beq_eq_true hb
    subst hf
    simp only [cond_true] at hh
    split at hh
    · rename_i x
      split at hh
      · rename_i wx hx
        split at hh
        · rename_i n hn
          cases hn2 : (decide (0 ≤ n) && decide (n < 21888242871839275222246405745257275088696311157297823662689037894645226208583)) with
          | false => rw [hn2] at hh; cases hh
          | true =>
            rw [hn2] at hh
            cases hh
            simp only [Bool.and_eq_true, decide_eq_true_eq] at hn2
            refine ⟨rfl, fun w0 e β w hr hok hds => ?_⟩
            obtain ⟨_, ox, ax⟩ := rd4_sound hr hx
            have hm : mont (unmont n.toNat) = n.toNat := mont_unmont (show n.toNat < q by unfold q; omega)
            have ix : wx.is e (mont (unmont n.toNat)) := W4.is_of ox (by rw [W4.c?_spec hn e, hm]; omega)
            obtain ⟨k1, k2⟩ := hc w (x.den β e) (unmont n.toNat) (by rw [is_words ix] at ax; exact ax)
            have hz : decide (unmont n.toNat = 0) = decide (n = 0) := by
              rw [decide_eq_decide]
              constructor
              · intro h0
                rw [h0] at hm
                have : mont 0 = 0 := by decide
                omega
              · intro h0
                subst h0
                decide
            refine ⟨trivial, k1, k2.mono fun en w' ⟨h1, h2⟩ => ⟨?_, hr.grow h2, h2.size⟩⟩
            rw [h1, hz]
            rfl
        · split at hh
          · rename_i d1 i h1 he
            cases hh
            obtain ⟨m1, s1⟩ := elOf_sound he
            refine ⟨m1.2.1, fun w0 e β w hr hok hds => ?_⟩
            obtain ⟨_, ox, ax⟩ := rd4_sound hr hx
            have ix := s1 e hr.facts ox hds
            obtain ⟨k1, k2⟩ := hc w (x.den β e) (e.f i) (by rw [is_words ix] at ax; exact ax)
            refine ⟨trivial, k1, k2.mono fun en w' ⟨h1, h2⟩ => ⟨?_, (hr.grow h2).same m1, h2.size⟩⟩
            rw [h1]
            rfl
          · cases hh
      · cases hh
    · cases hh
theorem eqF_p {fn : FuncId} (hc : EqC P fn) : POk P (eqF fn) := by
  intro f args h ds v h' hh
  unfold eqF at hh
  cases hb : Nat.beq f fn with
  | false => rw [hb] at hh; cases hh
  | true =>
    rw [hb] at hh
    have hf := Nat.eq_of_beq_eq_true hb
    subst hf
    simp only [cond_true] at hh
    split at hh
    · rename_i x y
      split at hh
      · rename_i wx wy hx hy
        split at hh
        · rename_i d1 i h1 he1
          split at hh
          · rename_i d2 j h2 he2
            cases hh
            obtain ⟨m1, s1⟩ := elOf_sound he1
            obtain ⟨m2, s2⟩ := elOf_sound he2
            refine ⟨(m1.trans m2).2.1, fun w0 e β w hr hok hds => ?_⟩
            obtain ⟨_, ox, ax⟩ := rd4_sound hr hx
            obtain ⟨_, oy, ay⟩ := rd4_sound hr hy
            have ix := s1 e hr.facts ox (fun d hd => hds d (by simp [hd]))
            have iy := s2 e (hr.same m1).facts oy (fun d hd => hds d (by simp [hd]))
            obtain ⟨k1, k2⟩ := hc w (x.den β e) (y.den β e) (e.f i) (e.f j) (by rw [is_words ix] at ax; exact ax) (by rw [is_words iy] at ay; exact ay)
            refine ⟨trivial, k1, k2.mono fun en w' ⟨h1, h2⟩ => ⟨?_, (hr.grow h2).same (m1.trans m2), h2.size⟩⟩
            rw [h1]
            cases hij : Nat.beq i j with
            | true => rw [Nat.eq_of_beq_eq_true hij]; simp [SV.den, SV1.den, Atom.den, BE.den]
            | false => rfl
          · cases hh
        · cases hh
      · cases hh
    · cases hh
end
end Go.Sx
