import Derived.Test.YtolmolkcjoibiaaDoorSo
import Derived.Test.YtolmolkcjoibiaaDoorFie
/- Aids to the claim: what is shown here is said at each theorem. -/
namespace Go.Sx
open Go
set_option maxRecDepth 100000
theorem bd_H (d : Bool) : (tH d).bd (niO d 5) 0 0 = true := by cases d <;> decide +kernel
theorem bd_11 (d : Bool) : (t11 d).bd (niO d 5) 0 0 = true := by cases d <;> decide +kernel
theorem bd_12 (d : Bool) (n : Nat) (h : n ≤ 256) : (t12 d n).bd (niO d 6) 0 0 = true := by
  have h0 : ∀ n, n < 257 → (t12 d n).bd (niO d 6) 0 0 = true := by cases d <;> decide +kernel
  exact h0 n (by omega)
theorem bd_13 (d : Bool) : (t13 d).bd (niO d 7) 0 0 = true := by cases d <;> decide +kernel
theorem bd_In (d : Bool) : (tIn d).bd (niO d 9) 0 0 = true := by cases d <;> decide +kernel
theorem bd_InE (d : Bool) : (tInE d).bd (niO d 9) 0 0 = true := by cases d <;> decide +kernel
theorem bd_5a (d : Bool) : (t5a d).bd (niO d 7) 0 0 = true := by cases d <;> decide +kernel
theorem bd_5b (d : Bool) : (t5b d).bd (niO d 8) 0 0 = true := by cases d <;> decide +kernel
theorem bd_5c (d : Bool) : (t5c d).bd (niO d 9) 0 0 = true := by cases d <;> decide +kernel
theorem bd_5d (d : Bool) : (t5d d).bd (niO d 9) 0 0 = true := by cases d <;> decide +kernel
theorem bd_6a (d : Bool) : (t6a d).bd (niO d 8) 0 0 = true := by cases d <;> decide +kernel
theorem bd_6b (d : Bool) : (t6b d).bd (niO d 9) 0 0 = true := by cases d <;> decide +kernel
theorem bd_6c (d : Bool) : (t6c d).bd (niO d 10) 0 0 = true := by cases d <;> decide +kernel
theorem bd_6d (d : Bool) : (t6d d).bd (niO d 10) 0 0 = true := by cases d <;> decide +kernel
theorem bd_7c (d : Bool) : (t7c d).bd (niO d 9) 0 0 = true := by cases d <;> decide +kernel
theorem bd_10 (d : Bool) : (t10 d).bd (niO d 5) 0 0 = true := by cases d <;> decide +kernel
theorem self_iv (ty : Nat) (d : Bool) : (ivP ty d hdT []).self ∧ (ivP ty d pNl []).self ∧ (ivP ty d pABl []).self ∧ (ivP ty d p4l []).self ∧ (ivP ty d p5al []).self ∧ (ivP ty d p5bl []).self ∧ (ivP ty d p6al []).self ∧ (ivP ty d p6bl []).self := by
  cases d <;> exact ⟨rfl, rfl, rfl, rfl, rfl, rfl, rfl, rfl⟩
theorem self_Nc (ty : Nat) (d : Bool) (n : Nat) : (pNc ty d n).self := by cases d <;> exact rfl
theorem self_In (ty : Nat) (d : Bool) (k : Nat) : (pIn ty d k).self := by cases d <;> exact rfl
theorem w4d_of {v : Nat → Int} {e : Env} {j N : Nat} (h : Wd (v j) ∧ Wd (v (j + 1)) ∧ Wd (v (j + 2)) ∧ Wd (v (j + 3))) (he : ∀ k, k < N → e.i k = v k) (hj : j + 3 < N) : W4d e j := by
  unfold W4d
  rw [he j (by omega), he (j + 1) (by omega), he (j + 2) (by omega), he (j + 3) (by omega)]
  exact h
theorem xo4 (d : Bool) (m : Nat) : m + 24 ≤ xo d m + 4 := by
  unfold xo
  cases d <;> simp only [cond_true, cond_false] <;> omega
theorem SV4.agree {v : Nat → Int} {e : Env} {j N S : Nat} (h : SV4 v j S) (he : ∀ k, k < N → e.i k = v k) (hj : j + 3 < N) : SV4 e.i j S := by
  unfold SV4
  rw [he j (by omega), he (j + 1) (by omega), he (j + 2) (by omega), he (j + 3) (by omega)]
  exact h
theorem u64_wd {x : Int} (h : inR .u64 x) : Wd x := inR_wd h
theorem small_lin {f g a b m : Int} (h : -(2147483648 * m) ≤ f * a + g * b ∧ f * a + g * b ≤ 2147483648 * m) (hm : m < 115792089237316195423570985008687907853269984665640564039457584007913129639936) :
    -248661618204893321077691124073410420050228075398673858720231988446579748506266687766528 ≤ f * a + g * b ∧ f * a + g * b ≤ 248661618204893321077691124073410420050228075398673858720231988446579748506266687766528 ∧ (f * a + g * b).natAbs < 248661618204893321077691124073410420050228075398673858720231988446579748506266687766528 := by
  generalize f * a + g * b = v at *
  omega
section
variable {P : Program} {qb ql : QSum} {ty : Nat} {d : Bool} {B X B2 T E : Code} {c : Operand}
/-- The inner rounds. -/
theorem iv_inner (hm : P.follows .mixedOrders = true) (hnum : NumOk P) (hq : QOk P qb) (K : IvChk P qb ql ty d B X B2 T E c) {w0 : World} {x0 : Nat → Addr} {i A Bn Xn : Nat} {m k A0 B0 : Int} (hX : Xn < q)
    (hx : Apx A Bn A0 B0) (hmx : (m = A ∧ (Bn : Int) ≤ A) ∨ (m = Bn ∧ (A : Int) ≤ Bn)) (hK : (k = 2147483648 * (A : Int) ∧ (A : Int) ≤ Bn) ∨ (k = 2147483648 * (Bn : Int) ∧ (Bn : Int) ≤ A))
    {vals : Nat → Int} {a : Act} {w : World} (hat : At w0 x0 (pIn ty d 0) vals a w) (hI : Iv d 9 i A Bn Xn vals) (h0 : vals 0 = A0) (h1 : vals 1 = B0) (h2 : vals 2 = 1) (h3 : vals 3 = 4294967296) {R : Act → World → Prop} {Q : Exit → Act → World → Prop} (hc : Calm Q)
    (hR : ∀ vals' a' w', At w0 x0 (ivP ty d p4l []) vals' a' w' → Iv d 7 i A Bn Xn vals' → (∃ A' B', GIn A Bn m k 2147483648 A' B' (vals' 0) (vals' 1)) → R a' w') : nest P [.block 2 (.loop B2)] R Q a w := by
  have hp := noF_p P
  have hm0 : 0 ≤ m := by omega
  have hs0 : InI A Bn m k A0 B0 1 (vals 0) (vals 1) (vals 2) (vals 3) := by
    rw [h0, h1, h2, h3]
    exact ⟨GIn.start hx (by omega) (by omega) (by omega) (by omega), fun _ => ⟨rfl, rfl⟩⟩
  refine block_loop (I := fun n a' w' => ∃ j, j + n = 31 ∧ ∃ vals, At w0 x0 (pIn ty d j) vals a' w' ∧ Iv d 9 i A Bn Xn vals ∧ InI A Bn m k A0 B0 ((2 : Int) ^ j) (vals 0) (vals 1) (vals 2) (vals 3)) (fun n a' w' hi => ?_) 31 a w ⟨0, rfl, vals, hat, hI, hs0⟩
  obtain ⟨j, hj, vs, hA, hIv, hIn⟩ := hi
  cases n with
  | succ n =>
    have wA : Wd (vs 0) := u64_wd (hA.tmpR (t := 18) (k := .u64) (j := 0) (by cases d <;> rfl))
    have wB : Wd (vs 1) := u64_wd (hA.tmpR (t := 19) (k := .u64) (j := 1) (by cases d <;> rfl))
    refine piece hm hnum hq hp (K.cIn j (by omega)) (self_In ty d j) (bd_In d) hA (Φ := fun x' v => x' = .normal ∧ Iv d 9 i A Bn Xn v ∧ StepR (vs 0) (vs 1) (vs 2) (vs 3) (v 0) (v 1) (v 2) (v 3)) (fun e' ha => ?_) hc.then.inBlock (fun _ _ h => h.2.1.fact (l := pInl) hX) ?_
    · have he : ∀ k, k < xo d 9 + 4 → e'.i k = vs k := ha.i
      have hx4 := xo4 d 9
      have := law_In (hIv.agree he) (by rw [he 0 (by omega)]; exact wA) (by rw [he 1 (by omega)]; exact wB)
      rw [he 0 (by omega), he 1 (by omega), he 2 (by omega), he 3 (by omega)] at this
      exact this
    · rintro _ v' a2 w2 ⟨rfl, hI2, hst⟩ hat2
      refine ⟨n, by omega, j + 1, by omega, v', hat2, hI2, ?_⟩
      have := hIn.step hx (by omega) (by omega) hm0 hmx hK hst
      rw [Int.pow_succ, Int.mul_comm]
      exact this
  | zero =>
    have hj31 : j = 31 := by omega
    subst hj31
    refine piece hm hnum hq hp K.cInE (self_In ty d 31) (bd_InE d) hA (Φ := fun x' v => x' = .exit 2 ∧ Iv d 7 i A Bn Xn v ∧ v 0 = vs 2 ∧ v 1 = vs 3) (fun e' ha => ?_) hc.then.inBlock (fun _ _ h => h.2.1.fact (l := p4l) hX) ?_
    · have he : ∀ k, k < xo d 9 + 4 → e'.i k = vs k := ha.i
      have hx4 := xo4 d 9
      have := law_InE (hIv.agree he)
      rw [he 2 (by omega), he 3 (by omega)] at this
      exact this
    · rintro _ v' a2 w2 ⟨rfl, hI2, e0, e1⟩ hat2
      refine hR v' a2 w2 hat2 hI2 ⟨vs 0, vs 1, ?_⟩
      rw [e0, e1]
      have := hIn.1
      rw [show ((2 : Int) ^ 31) = 2147483648 by decide] at this
      exact this
/-- One round. -/
theorem iv_round (hm : P.follows .mixedOrders = true) (hnum : NumOk P) (hq : QOk P qb) (hl : QOk P ql) (K : IvChk P qb ql ty d B X B2 T E c) {w0 : World} {x0 : Nat → Addr} {i A Bn Xn : Nat} {vals : Nat → Int} {a : Act} {w : World} (hX : Xn < q)
    (hat : At w0 x0 (ivP ty d hdT []) vals a w) (hI : Iv d 5 i A Bn Xn vals) {R : Act → World → Prop} {Q : Exit → Act → World → Prop} (hc : Calm Q)
    (hR : ∀ vals' A' B' a' w', At w0 x0 (ivP ty d hdT []) vals' a' w' → Iv d 5 i A' B' Xn vals' → (A ≠ 0 → meas A' B' < meas A Bn) → (A = 0 → A' = 0 ∧ meas A' B' ≤ meas A Bn) → R a' w') : nest P (flat X) R Q a w := by
  have hp := noF_p P
  obtain ⟨sH, sN, sAB, s4, s5a, s5b, s6a, s6b⟩ := self_iv ty d
  have bA : ∀ {l v a w}, At w0 x0 (ivP ty d l []) v a w → Wd (v l.length) ∧ Wd (v (l.length + 1)) ∧ Wd (v (l.length + 2)) ∧ Wd (v (l.length + 3)) := fun h => h.blkR (k := 0) (ty := ty) rfl
  have bB : ∀ {l v a w}, At w0 x0 (ivP ty d l []) v a w → Wd (v (l.length + 4)) ∧ Wd (v (l.length + 4 + 1)) ∧ Wd (v (l.length + 4 + 2)) ∧ Wd (v (l.length + 4 + 3)) := fun h => h.blkR (k := 1) (ty := ty) rfl
  have bS : ∀ {l v a w}, At w0 x0 (ivP ty d l []) v a w → Wd (v (l.length + 16)) ∧ Wd (v (l.length + 16 + 1)) ∧ Wd (v (l.length + 16 + 2)) ∧ Wd (v (l.length + 16 + 3)) := fun h => h.blkR (k := 4) (ty := ty) rfl
  have hA256 : (A : Int) < 115792089237316195423570985008687907853269984665640564039457584007913129639936 := by
    have h1 := bA hat
    have h2 := v4_lt h1.1 h1.2.1 h1.2.2.1 h1.2.2.2
    have h3 : v4 (vals 5) (vals (5 + 1)) (vals (5 + 2)) (vals (5 + 3)) = A := hI.hA
    rw [← h3]
    exact h2
  have hB256 : (Bn : Int) < 115792089237316195423570985008687907853269984665640564039457584007913129639936 := by
    have h1 := bB hat
    have h2 := v4_lt h1.1 h1.2.1 h1.2.2.1 h1.2.2.2
    have h3 : v4 (vals 9) (vals (9 + 1)) (vals (9 + 2)) (vals (9 + 3)) = Bn := hI.hB
    rw [← h3]
    exact h2
  rw [K.fX]
  simp only [nest_append]
  -- the length
  refine piece hm hnum hl hp K.c11 sH (bd_11 d) hat (Φ := fun x' v => x' = .normal ∧ Iv d 6 i A Bn Xn v ∧ v 0 = ((max (blen A) (blen Bn) : Nat) : Int)) (fun e' ha => ?_) hc (fun _ _ h => h.2.1.fact (l := pNl) hX) ?_
  · have he : ∀ k, k < xo d 5 + 4 → e'.i k = vals k := ha.i
    have hx4 := xo4 d 5
    exact law_11 (hI.agree he) (w4d_of (bA hat) he (by show 5 + 3 < _; omega)) (w4d_of (bB hat) he (by show 9 + 3 < _; omega))
  rintro _ v1 a1 w1 ⟨rfl, hI1, hn1⟩ hat1
  -- both approximations
  have hn256 : max (blen A) (blen Bn) ≤ 256 := by
    have h1 : blen A ≤ 256 := blen_bound (by omega)
    have h2 : blen Bn ≤ 256 := blen_bound (by omega)
    omega
  have hat1' : At w0 x0 (pNc ty d (max (blen A) (blen Bn))) v1 a1 w1 := hat1.const (p := ivP ty d pNl []) (t := 17) (j := 0) (k := .i64) rfl hn1
  refine piece hm hnum hq hp (K.c12 _ hn256) (self_Nc ty d _) (bd_12 d _ hn256) hat1' (Φ := fun x' v => x' = .normal ∧ Iv d 7 i A Bn Xn v ∧ Apx A Bn (v 0) (v 1)) (fun e' ha => ?_) hc (fun _ _ h => h.2.1.fact (l := pABl) hX) ?_
  · have he : ∀ k, k < xo d 6 + 4 → e'.i k = v1 k := ha.i
    have hx4 := xo4 d 6
    exact law_12 rfl hn256 (hI1.agree he) (w4d_of (bA hat1) he (by show 6 + 3 < _; omega)) (w4d_of (bB hat1) he (by show 10 + 3 < _; omega))
  rintro _ v2 a2 w2 ⟨rfl, hI2, hap⟩ hat2
  refine piece hm hnum hq hp K.c13 sAB (bd_13 d) hat2 (Φ := fun x' v => x' = .normal ∧ Iv d 9 i A Bn Xn v ∧ v 0 = v2 0 ∧ v 1 = v2 1 ∧ v 2 = 1 ∧ v 3 = 4294967296) (fun e' ha => ?_) hc (fun _ _ h => h.2.1.fact (l := pInl) hX) ?_
  · have he : ∀ k, k < xo d 7 + 4 → e'.i k = v2 k := ha.i
    have hx4 := xo4 d 7
    exact law_13 (hI2.agree he) (he 0 (by omega)) (he 1 (by omega))
  rintro _ v3 a3 w3 ⟨rfl, hI3, e0, e1, e2, e3⟩ hat3
  -- the inner rounds
  have hmx : (max (A : Int) Bn = A ∧ (Bn : Int) ≤ A) ∨ (max (A : Int) Bn = Bn ∧ (A : Int) ≤ Bn) := by omega
  have hK : (2147483648 * min (A : Int) Bn = 2147483648 * (A : Int) ∧ (A : Int) ≤ Bn) ∨ (2147483648 * min (A : Int) Bn = 2147483648 * (Bn : Int) ∧ (Bn : Int) ≤ A) := by omega
  refine iv_inner hm hnum hq K hX hap hmx hK hat3 hI3 e0 e1 e2 e3 hc fun v4' a4 w4' hat4 hI4 ⟨Ae, Be, hG⟩ => ?_
  obtain ⟨f0, g0, f1, g1, k0, k1, hc0, hc1, bf0, bg0, bf1, bg1, hv0, hv1, hz, hnz⟩ := hG.last
  have hmax : max (A : Int) Bn < 115792089237316195423570985008687907853269984665640564039457584007913129639936 := by omega
  obtain ⟨l0, u0, t0⟩ := small_lin hv0 hmax
  obtain ⟨l1, u1, t1⟩ := small_lin hv1 hmax
  -- the factors
  refine piece hm hnum hq hp K.c5a s4 (bd_5a d) hat4 (Φ := fun x' v => x' = .normal ∧ Iv d 8 i A Bn Xn v ∧ SV4 v 24 A ∧ v 0 = f0 ∧ v 1 = g0 ∧ v 2 = v4' 1) (fun e' ha => ?_) hc (fun _ _ h => h.2.1.fact (l := p5al) hX) ?_
  · have he : ∀ k, k < xo d 7 + 4 → e'.i k = v4' k := ha.i
    have hx4 := xo4 d 7
    exact law_5a (hI4.agree he) (by rw [he 0 (by omega)]; exact hc0) bf0 bg0 (he 1 (by omega))
  rintro _ v5 a5 w5 ⟨rfl, hI5, hS5, hf5, hg5, hc5⟩ hat5
  -- the first one's combination
  refine piece hm hnum hq hp K.c5b s5a (bd_5b d) hat5 (Φ := fun x' v => x' = .normal ∧ ∃ A' : Nat, Iv d 9 i A' Bn Xn v ∧ SV4 v 25 A ∧ v 3 = v4' 1 ∧ ∃ c, A' + 115792089237316195423570985008687907853269984665640564039457584007913129639936 * v 0 = f0 * A + g0 * Bn + T320 * c) (fun e' ha => ?_) hc (fun _ _ h => by
    obtain ⟨_, _, h, _⟩ := h
    exact h.fact (l := p5bl) hX) ?_
  · have he : ∀ k, k < xo d 8 + 4 → e'.i k = v5 k := ha.i
    have hx4 := xo4 d 8
    exact law_5b (hI5.agree he) (hS5.agree he (by omega)) (w4d_of (bB hat5) he (by show 12 + 3 < _; omega)) (w4d_of (bS hat5) he (by show 24 + 3 < _; omega)) ((he 0 (by omega)).trans hf5) ((he 1 (by omega)).trans hg5) ((he 2 (by omega)).trans hc5) bf0 bg0
  rintro _ v6 a6 w6 ⟨rfl, A6, hI6, hS6, hc6, hV6⟩ hat6
  refine piece hm hnum hq hp K.c5c s5b (bd_5c d) hat6 (Φ := fun x' v => x' = .normal ∧ ∃ A' : Nat, Iv d 9 i A' Bn Xn v ∧ SV4 v 25 A ∧ v 3 = v4' 1 ∧ A' + 115792089237316195423570985008687907853269984665640564039457584007913129639936 * v 0 = ((f0 * A + g0 * Bn).natAbs : Nat)) (fun e' ha => ?_) hc (fun _ _ h => by
    obtain ⟨_, _, h, _⟩ := h
    exact h.fact (l := p5bl) hX) ?_
  · have he : ∀ k, k < xo d 9 + 4 → e'.i k = v6 k := ha.i
    have hx4 := xo4 d 9
    exact law_5c (hI6.agree he) (hS6.agree he (by omega)) (w4d_of (bA hat6) he (by show 9 + 3 < _; omega)) (by rw [he 0 (by omega)]; exact u64_wd (hat6.tmpR (t := 23) (k := .u64) (j := 0) rfl)) ((he 3 (by omega)).trans hc6) (by rw [he 0 (by omega)]; exact hV6) l0 u0
  rintro _ v7 a7 w7 ⟨rfl, A7, hI7, hS7, hc7, hV7⟩ hat7
  refine piece hm hnum hq hp K.c5d s5b (bd_5d d) hat7 (Φ := fun x' v => x' = .normal ∧ Iv d 8 i ((f0 * A + g0 * Bn).natAbs / 2147483648) Bn Xn v ∧ SV4 v 24 A ∧ v 2 = v4' 1) (fun e' ha => ?_) hc (fun _ _ h => h.2.1.fact (l := p5al) hX) ?_
  · have he : ∀ k, k < xo d 9 + 4 → e'.i k = v7 k := ha.i
    have hx4 := xo4 d 9
    exact law_5d (hI7.agree he) (hS7.agree he (by omega)) (w4d_of (bA hat7) he (by show 9 + 3 < _; omega)) (by rw [he 0 (by omega)]; exact u64_wd (hat7.tmpR (t := 23) (k := .u64) (j := 0) rfl)) ((he 3 (by omega)).trans hc7) (by rw [he 0 (by omega)]; exact hV7) t0
  rintro _ v8 a8 w8 ⟨rfl, hI8, hS8, hc8⟩ hat8
  -- the second one's
  refine piece hm hnum hq hp K.c6a s5a (bd_6a d) hat8 (Φ := fun x' v => x' = .normal ∧ Iv d 9 i ((f0 * A + g0 * Bn).natAbs / 2147483648) Bn Xn v ∧ SV4 v 25 A ∧ v 0 = f1 ∧ v 1 = g1) (fun e' ha => ?_) hc (fun _ _ h => h.2.1.fact (l := p6al) hX) ?_
  · have he : ∀ k, k < xo d 8 + 4 → e'.i k = v8 k := ha.i
    have hx4 := xo4 d 8
    exact law_6a (hI8.agree he) (hS8.agree he (by omega)) (by rw [he 2 (by omega), hc8]; exact hc1) bf1 bg1
  rintro _ v9 a9 w9 ⟨rfl, hI9, hS9, hf9, hg9⟩ hat9
  refine piece hm hnum hq hp K.c6b s6a (bd_6b d) hat9 (Φ := fun x' v => x' = .normal ∧ ∃ B' : Nat, Iv d 10 i ((f0 * A + g0 * Bn).natAbs / 2147483648) B' Xn v ∧ ∃ c, B' + 115792089237316195423570985008687907853269984665640564039457584007913129639936 * v 0 = f1 * A + g1 * Bn + T320 * c) (fun e' ha => ?_) hc (fun _ _ h => by
    obtain ⟨_, _, h, _⟩ := h
    exact h.fact (l := p6bl) hX) ?_
  · have he : ∀ k, k < xo d 9 + 4 → e'.i k = v9 k := ha.i
    have hx4 := xo4 d 9
    exact law_6b (hI9.agree he) (hS9.agree he (by omega)) (w4d_of (bB hat9) he (by show 13 + 3 < _; omega)) (w4d_of (bS hat9) he (by show 25 + 3 < _; omega)) ((he 0 (by omega)).trans hf9) ((he 1 (by omega)).trans hg9) bf1 bg1
  rintro _ va aa wa ⟨rfl, Ba, hIa, hVa⟩ hata
  refine piece hm hnum hq hp K.c6c s6b (bd_6c d) hata (Φ := fun x' v => x' = .normal ∧ ∃ B' : Nat, Iv d 10 i ((f0 * A + g0 * Bn).natAbs / 2147483648) B' Xn v ∧ B' + 115792089237316195423570985008687907853269984665640564039457584007913129639936 * v 0 = ((f1 * A + g1 * Bn).natAbs : Nat)) (fun e' ha => ?_) hc (fun _ _ h => by
    obtain ⟨_, _, h, _⟩ := h
    exact h.fact (l := p6bl) hX) ?_
  · have he : ∀ k, k < xo d 10 + 4 → e'.i k = va k := ha.i
    have hx4 := xo4 d 10
    exact law_6c (hIa.agree he) (w4d_of (bB hata) he (by show 14 + 3 < _; omega)) (by rw [he 0 (by omega)]; exact u64_wd (hata.tmpR (t := 25) (k := .u64) (j := 0) rfl)) (by rw [he 0 (by omega)]; exact hVa) l1 u1
  rintro _ vb ab wb ⟨rfl, Bb, hIb, hVb⟩ hatb
  refine piece hm hnum hq hp K.c6d s6b (bd_6d d) hatb (Φ := fun x' v => x' = .normal ∧ Iv d 9 i ((f0 * A + g0 * Bn).natAbs / 2147483648) ((f1 * A + g1 * Bn).natAbs / 2147483648) Xn v) (fun e' ha => ?_) hc (fun _ _ h => h.2.fact (l := p6al) hX) ?_
  · have he : ∀ k, k < xo d 10 + 4 → e'.i k = vb k := ha.i
    have hx4 := xo4 d 10
    exact law_6d (hIb.agree he) (w4d_of (bB hatb) he (by show 14 + 3 < _; omega)) (by rw [he 0 (by omega)]; exact u64_wd (hatb.tmpR (t := 25) (k := .u64) (j := 0) rfl)) (by rw [he 0 (by omega)]; exact hVb) t1
  rintro _ vc ac wc ⟨rfl, hIc⟩ hatc
  -- what falls
  have fin : ∀ vals' a' w', At w0 x0 (ivP ty d hdT []) vals' a' w' → Iv d 5 i ((f0 * A + g0 * Bn).natAbs / 2147483648) ((f1 * A + g1 * Bn).natAbs / 2147483648) Xn vals' → R a' w' := fun vals' a' w' h1 h2 => by
    refine hR vals' _ _ a' w' h1 h2 (fun h => ?_) fun h => ?_
    · obtain ⟨n1, n2, n3⟩ := hnz (by omega)
      exact meas_fall rfl rfl rfl rfl (by omega) ⟨n1, n2⟩ hv1 n3
    · have := hz (by omega)
      subst h
      have e0 : (f0 * ((0 : Nat) : Int) + g0 * Bn).natAbs / 2147483648 = 0 := by rw [this]; rfl
      refine ⟨e0, ?_⟩
      rw [e0]
      refine meas_zero rfl ?_
      have hmb : max ((0 : Nat) : Int) Bn = Bn := by omega
      rw [hmb] at hv1
      exact hv1
  -- the factors kept, or the pair made
  have keep : ∀ {cs : List Code} {vals' : Nat → Int} {a' : Act} {w' : World} {A' B' : Nat} {R' : Act → World → Prop}, okIvO d 9 4 (niO d 9) (sxs P qb noF 300 cs (ivP ty d p6al []).st (kM fun _ => ivP ty d p6al [])) = true → At w0 x0 (ivP ty d p6al []) vals' a' w' → Iv d 9 i A' B' Xn vals' →
      (∀ v2 a2 w2, At w0 x0 (ivP ty d p6al []) v2 a2 w2 → Iv d 9 i A' B' Xn v2 → R' a2 w2) → nest P cs R' Q a' w' := fun hk h1 h2 h3 => by
    obtain ⟨t, ht, hok, hbd⟩ := okIvO_some hk
    refine piece hm hnum hq hp ht s6a hbd h1 (Φ := fun x' v => x' = .normal ∧ Iv d 9 i _ _ Xn v) (fun e' ha => okIv_goal (h2.agree ha.i) hok) hc (fun _ _ h => h.2.fact (l := p6al) hX) ?_
    rintro _ v2 a2 w2 ⟨rfl, hI'⟩ hat'
    exact h3 v2 a2 w2 hat' hI'
  have keep' : ∀ {cs : List Code} {vals' : Nat → Int} {a' : Act} {w' : World} {A' B' : Nat} {R' : Act → World → Prop}, okIvO d 9 0 (niO d 9) (sxs P qb noF 300 cs (ivP ty d p6al []).st (kM fun _ => ivP ty d hdT [])) = true → At w0 x0 (ivP ty d p6al []) vals' a' w' → Iv d 9 i A' B' Xn vals' →
      (∀ v2 a2 w2, At w0 x0 (ivP ty d hdT []) v2 a2 w2 → Iv d 5 i A' B' Xn v2 → R' a2 w2) → nest P cs R' Q a' w' := fun hk h1 h2 h3 => by
    obtain ⟨t, ht, hok, hbd⟩ := okIvO_some hk
    refine piece hm hnum hq hp ht s6a hbd h1 (Φ := fun x' v => x' = .normal ∧ Iv d 5 i _ _ Xn v) (fun e' ha => okIv_goal (h2.agree ha.i) hok) hc (fun _ _ h => h.2.fact (l := hdT) hX) ?_
    rintro _ v2 a2 w2 ⟨rfl, hI'⟩ hat'
    exact h3 v2 a2 w2 hat' hI'
  rw [← nest_append]
  refine piece_cond hm hnum hq hp K.c7 s6a (bd_7c d) hatc (Φ := fun _ v => Iv d 9 i ((f0 * A + g0 * Bn).natAbs / 2147483648) ((f1 * A + g1 * Bn).natAbs / 2147483648) Xn v) (fun e' ha => ?_) hc (fun _ _ h => h.fact (l := p6al) hX) (fun vd ad wd hId hatd => ?_) (fun vd ad wd hId hatd => keep' K.c7e hatd hId fin)
  · intro _
    have he : ∀ k, k < xo d 9 + 4 → e'.i k = vc k := ha.i
    have := hIc.agree he
    exact this.rst (ts := [.v 0, .v 1, .v 2, .v 3]) (x := .normal) rfl this.hi this.hA this.hB
  · rw [K.fT]
    simp only [nest_append]
    refine keep K.c7a hatd hId fun ve ae we hate hIe => ?_
    refine keep K.c7b hate hIe fun vf af wf hatf hIf => ?_
    exact keep' K.c7d hatf hIf fin
end
end Go.Sx
namespace Go.Sx
open Go
set_option maxRecDepth 100000
/-! ### A product whose first operand is any words -/
def BinW (P : Program) (f : FuncId) : Prop := ∀ (w : World) (z x y : Addr) (X : Nat) (b : Fq), X < RR → Place w z → CellsAt w x (numV X) → CellsAt w y (emV b) →
  (x = z ∨ Apart x 4 z 4) → (y = z ∨ Apart y 4 z 4) → ¬ (x = z ∧ y = z) → Does P f #[ptr z, ptr x, ptr y] (ptr z) w (w.setCells z.block z.off (emV (unmont X * b)))
abbrev WLaw (t : Tree Lf) : Prop := ∀ (e : Env) (X : Nat) (b : Fq), Words e 12 → v4 (e.i 4) (e.i 5) (e.i 6) (e.i 7) = (X : Int) → v4 (e.i 8) (e.i 9) (e.i 10) (e.i 11) = ((mont b : Nat) : Int) →
  t.lin e (Wrote e (pt 0) fun N => N = mont (unmont X * b))
theorem mul_w : WLaw tMul := fun e X b hW hX hY =>
  Tree.lin_imp (fun _ h => h.imp fun N hN h => by
    have h1 := F_eq h
    rw [F_mul, F_mul, F_mont] at h1
    refine mont_of hN ?_
    have := RRI
    show F N = F X * F RI * b * F RR
    grind) (mul_law (hW 4 (by omega)) (hW 5 (by omega)) (hW 6 (by omega)) (hW 7 (by omega)) hX hY (mont_lt b))
section
variable {P : Program} {qf pf : QSum}
theorem binW_of (hm : P.follows .mixedOrders = true) (hnum : NumOk P) (hq : QOk P qf) (hp : POk P pf) {f : FuncId} {t : Tree Lf} 
    (h012 : sxCall P qf pf 5000 f ([0, 1, 2].map pt) (hp0 [ws 0, ws 4, ws 8] 12 0) leafE = some t)
    (h001 : sxCall P qf pf 5000 f ([0, 0, 1].map pt) (hp0 [ws 4, ws 8] 12 0) leafE = some t)
    (h010 : sxCall P qf pf 5000 f ([0, 1, 0].map pt) (hp0 [ws 8, ws 4] 12 0) leafE = some t)
    (hbd : t.bd 12 0 0 = true) (hchk : t.chk 12 = true) (law : WLaw t) : BinW P f := by
  intro w z x y X b hX hz hx hy hxz hyz hne
  obtain ⟨⟨o0, o1, o2, o3, w0, w1, w2, w3, hzc⟩, hzf⟩ := hz
  have hwd : ∀ k, Wd (valsL ([o0, o1, o2, o3] ++ numL X ++ numL (mont b)) k) := fun k => valsL_wd (fun x hx => by
    simp only [List.mem_append, List.mem_cons, List.not_mem_nil, or_false] at hx
    rcases hx with ((rfl | rfl | rfl | rfl) | h) | h
    · exact w0
    · exact w1
    · exact w2
    · exact w3
    · exact numL_wd _ h
    · exact numL_wd _ h) k
  have hlaw : ∀ e, Words e 12 → (∀ k, k < 12 → e.i k = valsL ([o0, o1, o2, o3] ++ numL X ++ numL (mont b)) k) → t.lin e (Wrote e (pt 0) fun N => N = mont (unmont X * b)) := fun e hW hv =>
    law e X b hW (by rw [hv 4 (by omega), hv 5 (by omega), hv 6 (by omega), hv 7 (by omega)]; exact v4_w4 hX) (by rw [hv 8 (by omega), hv 9 (by omega), hv 10 (by omega), hv 11 (by omega)]; exact v4_w4 (mont_RR b))
  have fin : ∀ {addr : Nat → Addr} {en : Ending} {w' : World}, addr 0 = z → (∃ v log β' e', en = .returned (SV.den β' e' v) ∧ (∀ k, e'.ext k = addr k) ∧ Wrote e' (pt 0) (fun N => N = mont (unmont X * b)) (v, log) ∧ Grow (apLog β' e' log w) w') →
      en = .returned (ptr z) ∧ Grow (w.setCells z.block z.off (emV (unmont X * b))) w' := fun {addr en w'} h0 ⟨v, log, β', e', g1, g2, g3, g4⟩ => by
    have hv : v = pt 0 := g3.1
    refine ⟨?_, wrote_end (by rw [g2]; exact h0) g3 g4⟩
    rw [g1, hv]
    simp only [pt, SV.den, SV1.den, Atom.den, SA.den, g2, h0]
    rw [ptr_of hzc.1]
  by_cases e1 : x = z
  · subst e1
    have hyz' : Apart y 4 x 4 := by
      rcases hyz with h | h
      · exact absurd ⟨rfl, h⟩ hne
      · exact h
    have := run_ptr (w := w) hm hnum hq hp h001 hbd hchk (valsL ([o0, o1, o2, o3] ++ numL X ++ numL (mont b))) (fun j => if j = 0 then x else y) (fun k _ => hwd k)
      (fun j c hj => by
        match j, hj with
        | 0, hj => cases hj; exact ⟨cells_block hx, hx.1, .inr ⟨4, by omega, rfl, hx⟩⟩
        | 1, hj => cases hj; exact ⟨cells_block hy, hy.1, .inr ⟨8, by omega, rfl, hy⟩⟩
        | j + 2, hj => simp at hj)
      (fun j hj => by
        split
        · exact hx.1
        · exact hy.1)
      (fun c hc => by cases hc; exact hzf) (fun j c c0 hj hc hc0 => by
        match j, hj, hc with
        | 0, hj, _ => exact absurd rfl hj
        | 1, _, hc => cases hc; cases hc0; exact hyz'
        | j + 2, _, hc => simp at hc) _ hlaw
    exact ⟨this.1, this.2.mono fun en w' h => fin rfl h⟩
  · have hxz' : Apart x 4 z 4 := by
      rcases hxz with h | h
      · exact absurd h e1
      · exact h
    by_cases e2 : y = z
    · subst e2
      have := run_ptr (w := w) hm hnum hq hp h010 hbd hchk (valsL ([o0, o1, o2, o3] ++ numL X ++ numL (mont b))) (fun j => if j = 0 then y else x) (fun k _ => hwd k)
        (fun j c hj => by
          match j, hj with
          | 0, hj => cases hj; exact ⟨cells_block hy, hy.1, .inr ⟨8, by omega, rfl, hy⟩⟩
          | 1, hj => cases hj; exact ⟨cells_block hx, hx.1, .inr ⟨4, by omega, rfl, hx⟩⟩
          | j + 2, hj => simp at hj)
        (fun j hj => by
          split
          · exact hy.1
          · exact hx.1)
        (fun c hc => by cases hc; exact hzf) (fun j c c0 hj hc hc0 => by
          match j, hj, hc with
          | 0, hj, _ => exact absurd rfl hj
          | 1, _, hc => cases hc; cases hc0; exact hxz'
          | j + 2, _, hc => simp at hc) _ hlaw
      exact ⟨this.1, this.2.mono fun en w' h => fin rfl h⟩
    · have hyz' : Apart y 4 z 4 := by
        rcases hyz with h | h
        · exact absurd h e2
        · exact h
      have := run_ptr (w := w) hm hnum hq hp h012 hbd hchk (valsL ([o0, o1, o2, o3] ++ numL X ++ numL (mont b))) (fun j => if j = 0 then z else if j = 1 then x else y) (fun k _ => hwd k)
        (fun j c hj => by
          match j, hj with
          | 0, hj => cases hj; exact ⟨cells_block hzc, hzc.1, .inr ⟨0, by omega, rfl, hzc⟩⟩
          | 1, hj => cases hj; exact ⟨cells_block hx, hx.1, .inr ⟨4, by omega, rfl, hx⟩⟩
          | 2, hj => cases hj; exact ⟨cells_block hy, hy.1, .inr ⟨8, by omega, rfl, hy⟩⟩
          | j + 3, hj => simp at hj)
        (fun j hj => by
          split
          · exact hzc.1
          · split
            · exact hx.1
            · exact hy.1)
        (fun c hc => by cases hc; exact hzf) (fun j c c0 hj hc hc0 => by
          match j, hj, hc with
          | 0, hj, _ => exact absurd rfl hj
          | 1, _, hc => cases hc; cases hc0; exact hxz'
          | 2, _, hc => cases hc; cases hc0; exact hyz'
          | j + 3, _, hc => simp at hc) _ hlaw
      exact ⟨this.1, this.2.mono fun en w' h => fin rfl h⟩
end
/-- The element behind any words. -/
def elW (h : Hp) (w : W4) : Option (List Dn × Nat × Hp) :=
  match elOf h w with
  | some r => some r
  | none => some ([.f h.nf (.wm w.a w.b w.c w.d)], h.nf, { h with nf := h.nf + 1 })
theorem elW_sound {h h' : Hp} {w : W4} {ds : List Dn} {k : Nat} (hh : elW h w = some (ds, k, h')) : SameMem h h' ∧ ∀ e, Facts e h.facts → w.ok e → (∀ d ∈ ds, d.holds e) → ∃ X, X < RR ∧ w.is e X ∧ e.f k = unmont X := by
  unfold elW at hh
  split at hh
  · rename_i r hr
    cases hh
    obtain ⟨m, s⟩ := elOf_sound hr
    exact ⟨m, fun e hf ho hd => ⟨mont (e.f k), mont_RR _, s e hf ho hd, (unmont_mont _).symm⟩⟩
  · cases hh
    refine ⟨SameMem.nf _ _, fun e _ ho hd => ?_⟩
    have h1 : e.f h.nf = unmont (w.val e).toNat := hd _ (List.mem_singleton.2 rfl)
    have h2 := W4.val_nonneg ho
    have h3 := v4_lt ho.1 ho.2.1 ho.2.2.1 ho.2.2.2
    refine ⟨(w.val e).toNat, ?_, W4.is_of ho (by omega), h1⟩
    unfold W4.val at *
    unfold RR
    omega
def binWF (fn : FuncId) : QSum := fun f args h =>
  bif Nat.beq f fn then match args with
    | [.one (.at (.ptr z)), .one (.at (.ptr x)), .one (.at (.ptr y))] => match rd4 h z, rd4 h x, rd4 h y with
      | some _, some wx, some wy => match elW h wx with
        | some (d1, i, h1) => match elOf h1 wy with
          | some (d2, j, h2) => bif (sameS x z || apartS x z) && (sameS y z || apartS y z) && !(sameS x z && sameS y z) then
              match wr { h2 with nf := h2.nf + 1 } z.root z.off (ems h2.nf) with
              | some h3 => some (d1 ++ (d2 ++ [.f h2.nf (.mul i j)]), .one (.at (.ptr z)), h3)
              | none => none
            else none
          | none => none
        | none => none
      | _, _, _ => none
    | _ => none
  else none
section
variable {P : Program}
theorem binWF_p {fn : FuncId} (hc : BinW P fn) : POk P (binWF fn) := by
  intro f args h ds v h' hh
  unfold binWF at hh
  cases hb : Nat.beq f fn with
  | false => rw [hb] at hh; cases hh
  | true =>
    rw [hb] at hh
    have hf := Nat.eq_of_beq_eq_true hb
    subst hf
    simp only [cond_true] at hh
    split at hh
    · rename_i z x y
      split at hh
      · rename_i wz wx wy hz hx hy
        split at hh
        · rename_i d1 i h1 he1
          split at hh
          · rename_i d2 j h2 he2
            cases hal : ((sameS x z || apartS x z) && (sameS y z || apartS y z) && !(sameS x z && sameS y z)) with
            | false => rw [hal] at hh; cases hh
            | true =>
              rw [hal] at hh
              simp only [cond_true] at hh
              split at hh
              · rename_i h3 hw
                cases hh
                obtain ⟨m1, s1⟩ := elW_sound he1
                obtain ⟨m2, s2⟩ := elOf_sound he2
                have hmm : SameMem h { h2 with nf := h2.nf + 1 } := (m1.trans m2).trans (SameMem.nf _ _)
                have hcnt := (wr_cnt hw).trans hmm.2.1
                refine ⟨hcnt, fun w0 e β w hr hok hds => ?_⟩
                have hr' := hr.same hmm
                obtain ⟨⟨cz, hcz⟩, oz, az⟩ := rd4_sound hr hz
                obtain ⟨⟨cx, hcx⟩, ox, ax⟩ := rd4_sound hr hx
                obtain ⟨⟨cy, hcy⟩, oy, ay⟩ := rd4_sound hr hy
                obtain ⟨X, hXR, ix, hXe⟩ := s1 e hr.facts ox (fun d hd => hds d (by simp [hd]))
                have iy := s2 e (hr.same m1).facts oy (fun d hd => hds d (by simp [hd]))
                have hdef : e.f h2.nf = unmont X * e.f j := by
                  have : e.f h2.nf = e.f i * e.f j := hds (.f h2.nf (.mul i j)) (by simp)
                  rw [this, hXe]
                obtain ⟨b1, b2, b3, _⟩ := wr_sound (ems h2.nf) hr' (r := z.root) (o := z.off) (ems_ok _ _) hw
                simp only [Bool.and_eq_true, Bool.or_eq_true, Bool.not_eq_true', Bool.and_eq_false_iff] at hal
                obtain ⟨⟨hax, hay⟩, hne⟩ := hal
                have pz : Place w (z.den β e) := ⟨⟨_, _, _, _, oz.1, oz.2.1, oz.2.2.1, oz.2.2.2, az⟩, unfrozen_of (a := z) b1⟩
                have nm : ∀ {u : SA} {cu}, cellsAt h u.root = some cu → (sameS u z = true ∨ apartS u z = true) → u.den β e = z.den β e ∨ Apart (u.den β e) 4 (z.den β e) 4 := fun {u cu} hu hor => by
                  rcases hor with h1 | h1
                  · exact .inl (by rw [sameS_spec h1])
                  · exact .inr (apartS_sound hr hu hcz h1)
                have ne : ¬ (x.den β e = z.den β e ∧ y.den β e = z.den β e) := by
                  rintro ⟨e1, e2⟩
                  have notap : ∀ {u : SA}, u.den β e = z.den β e → ¬ Apart (u.den β e) 4 (z.den β e) 4 := fun {u} hu ha => by
                    rw [hu] at ha
                    rcases ha with h1 | h1 | h1
                    · exact h1 rfl
                    · omega
                    · omega
                  have sx : sameS x z = true := by
                    rcases hax with h1 | h1
                    · exact h1
                    · exact absurd (apartS_sound hr hcx hcz h1) (notap e1)
                  have sy : sameS y z = true := by
                    rcases hay with h1 | h1
                    · exact h1
                    · exact absurd (apartS_sound hr hcy hcz h1) (notap e2)
                  rcases hne with h1 | h1
                  · rw [sx] at h1; cases h1
                  · rw [sy] at h1; cases h1
                obtain ⟨k1, k2⟩ := hc w (z.den β e) (x.den β e) (y.den β e) X (e.f j) hXR pz (by rw [is_words ix] at ax; exact ax) (by rw [is_words iy] at ay; exact ay) (nm hcx hax) (nm hcy hay) ne
                refine ⟨?_, k1, k2.mono fun en w' ⟨g1, g2⟩ => ⟨g1, ?_, ?_⟩⟩
                · have := hok (.one (.at (.ptr z))) (by simp)
                  exact this
                · rw [ems_den, hdef] at b2
                  exact b2.grow g2
                · have := g2.size
                  rw [setCells_size] at this
                  exact this
              · cases hh
          · cases hh
        · cases hh
      · cases hh
    · cases hh

end
end Go.Sx
namespace Go.Sx
open Go
set_option maxRecDepth 100000
/-! ### IsOne -/
def OneC (P : Program) (f : FuncId) : Prop := ∀ (w : World) (x : Addr) (a : Fq), CellsAt w x (emV a) → Does P f #[ptr x] (.bool (decide (a = 1))) w w
def tIsOne : Tree Lf :=
  .dn (.i 4 (.bt .xor .u64 (.v 3) (.c 1011752739694698287))) <| .dn (.i 5 (.bt .xor .u64 (.v 2) (.c 7381016538464732716))) <| .dn (.i 6 (.bt .or .u64 (.v 4) (.v 5))) <|
  .dn (.i 7 (.bt .xor .u64 (.v 1) (.c 754611498739239741))) <| .dn (.i 8 (.bt .or .u64 (.v 6) (.v 7))) <| .dn (.i 9 (.bt .xor .u64 (.v 0) (.c 15230403791020821917))) <| .dn (.i 10 (.bt .or .u64 (.v 8) (.v 9))) <|
  .leaf (.one (.at (.bool (.eq (.v 10) (.c 0)))), [])
theorem mont_one : mont 1 = 6350874878119819312338956282401532409788428879151445726012394534686998597021 := by decide +kernel
theorem isOne_law {e : Env} {a : Fq} (hW : Wd (e.i 0) ∧ Wd (e.i 1) ∧ Wd (e.i 2) ∧ Wd (e.i 3)) (hX : v4 (e.i 0) (e.i 1) (e.i 2) (e.i 3) = ((mont a : Nat) : Int)) : tIsOne.lin e (Told e (decide (a = 1))) := by
  intro h0 h1 h2 h3 h4 h5 h6
  have c3 : Wd (1011752739694698287 : Int) := ⟨by decide, by decide⟩
  have c2 : Wd (7381016538464732716 : Int) := ⟨by decide, by decide⟩
  have c1 : Wd (754611498739239741 : Int) := ⟨by decide, by decide⟩
  have c0 : Wd (15230403791020821917 : Int) := ⟨by decide, by decide⟩
  have h0 : e.i 4 = btI .xor .u64 (e.i 3) 1011752739694698287 := h0.1
  have h1 : e.i 5 = btI .xor .u64 (e.i 2) 7381016538464732716 := h1.1
  have h2 : e.i 6 = btI .or .u64 (e.i 4) (e.i 5) := h2.1
  have h3 : e.i 7 = btI .xor .u64 (e.i 1) 754611498739239741 := h3.1
  have h4 : e.i 8 = btI .or .u64 (e.i 6) (e.i 7) := h4.1
  have h5 : e.i 9 = btI .xor .u64 (e.i 0) 15230403791020821917 := h5.1
  have h6 : e.i 10 = btI .or .u64 (e.i 8) (e.i 9) := h6.1
  have x3 := xor_zero hW.2.2.2 c3
  have x2 := xor_zero hW.2.2.1 c2
  have x1 := xor_zero hW.2.1 c1
  have x0 := xor_zero hW.1 c0
  rw [← h0] at x3
  rw [← h1] at x2
  rw [← h3] at x1
  rw [← h5] at x0
  have o1 := or_zero (x := e.i 4) (y := e.i 5) (by rw [h0]; exact xor_wd) (by rw [h1]; exact xor_wd)
  rw [← h2] at o1
  have o2 := or_zero (x := e.i 6) (y := e.i 7) (by rw [h2]; exact or_wd) (by rw [h3]; exact xor_wd)
  rw [← h4] at o2
  have o3 := or_zero (x := e.i 8) (y := e.i 9) (by rw [h4]; exact or_wd) (by rw [h5]; exact xor_wd)
  rw [← h6] at o3
  refine ⟨rfl, _, rfl, ?_⟩
  show (e.i 10 == 0) = _
  rw [Bool.eq_iff_iff, beq_iff_eq, o3, o2, o1, x3, x2, x1, x0, decide_eq_true_eq]
  have key : a = 1 ↔ mont a = 6350874878119819312338956282401532409788428879151445726012394534686998597021 := by
    rw [← mont_one]
    exact ⟨fun h => by rw [h], mont_inj⟩
  rw [key]
  clear o1 o2 o3 x0 x1 x2 x3 h0 h1 h2 h3 h4 h5 h6 key
  unfold v4 Wd at *
  omega
section
variable {P : Program} {qf pf : QSum}
theorem oneC_of (hm : P.follows .mixedOrders = true) (hnum : NumOk P) (hq : QOk P qf) (hp : POk P pf) {f : FuncId}
    (h : sxCall P qf pf 5000 f ([1].map pt) (hp0 [[], ws 0] 4 0) leafE = some tIsOne) : OneC P f := by
  intro w x a hx
  have hwd : ∀ k, Wd (valsL (numL (mont a)) k) := fun k => valsL_wd (fun x hx => numL_wd _ hx) k
  have := run_ptr (w := w) hm hnum hq hp h (by decide) (by decide) (valsL (numL (mont a))) (fun _ => x) (fun k _ => hwd k)
    (fun j c hj => by
      match j, hj with
      | 0, hj => cases hj; exact ⟨cells_block hx, hx.1, .inl rfl⟩
      | 1, hj => cases hj; exact ⟨cells_block hx, hx.1, .inr ⟨0, by omega, rfl, hx⟩⟩
      | j + 2, hj => simp at hj)
    (fun j hj => hx.1) (fun c hc => by cases hc; exact fun i hi => by simp at hi) (fun j c c0 hj hc hc0 => by
      match j, hj, hc with
      | 0, hj, _ => exact absurd rfl hj
      | 1, _, hc => cases hc; cases hc0; exact apart_refl0 _ _
      | j + 2, _, hc => simp at hc)
    (fun e => Told e (decide (a = 1)))
    (fun e hW hv => isOne_law ⟨hW 0 (by omega), hW 1 (by omega), hW 2 (by omega), hW 3 (by omega)⟩
      (by rw [hv 0 (by omega), hv 1 (by omega), hv 2 (by omega), hv 3 (by omega)]; exact v4_w4 (mont_RR a)))
  exact ⟨this.1, this.2.mono fun en w' ⟨v, log, β', e', g1, g2, g3, g4⟩ => by
    obtain ⟨k1, k2⟩ := told_end g3 g4
    exact ⟨by rw [g1, k1], k2⟩⟩
end
def oneF (fn : FuncId) : QSum := fun f args h =>
  bif Nat.beq f fn then match args with
    | [.one (.at (.ptr x))] => match rd4 h x with
      | some wx => match elOf h wx with
          | some (d1, i, h1) => some (d1 ++ [.f h1.nf (.k 1)], .one (.at (.bool (.fe i h1.nf))), { h1 with nf := h1.nf + 1 })
          | none => none
      | none => none
    | _ => none
  else none
theorem oneF_p {P : Program} {fn : FuncId} (hc : OneC P fn) : POk P (oneF fn) := by
  intro f args h ds v h' hh
  unfold oneF at hh
  cases hb : Nat.beq f fn with
  | false => rw [hb] at hh; cases hh
  | true =>
    rw [hb] at hh
    have hf := Nat.eq_of_beq_eq_true hb
    subst hf
    simp only [cond_true] at hh
    split at hh
    · rename_i x
      split at hh
      · rename_i wx hx
        split at hh
        · rename_i d1 i h1 he1
          cases hh
          obtain ⟨m1, s1⟩ := elOf_sound he1
          have hmm : SameMem h { h1 with nf := h1.nf + 1 } := m1.trans (SameMem.nf _ _)
          refine ⟨hmm.2.1, fun w0 e β w hr hok hds => ?_⟩
          obtain ⟨_, ox, ax⟩ := rd4_sound hr hx
          have ix := s1 e hr.facts ox (fun d hd => hds d (by simp [hd]))
          have hk : e.f h1.nf = 1 := hds (.f h1.nf (.k 1)) (by simp)
          obtain ⟨k1, k2⟩ := hc w (x.den β e) (e.f i) (by rw [is_words ix] at ax; exact ax)
          refine ⟨trivial, k1, k2.mono fun en w' ⟨g1, g2⟩ => ⟨?_, (hr.same hmm).grow g2, g2.size⟩⟩
          rw [g1]
          simp only [SV.den, SV1.den, Atom.den, BE.den, hk]
        · cases hh
      · cases hh
    · cases hh

/-! ### inverseExp -/
def IexC (P : Program) (f : FuncId) : Prop := ∀ (w : World) (z : Addr) (a : Fq), Place w z → Does P f #[ptr z, .agg (emV a).toArray] (ptr z) w (w.setCells z.block z.off (emV (finv a)))
def isEm (o : Option Atom) (k j : Nat) : Bool := match o with
  | some (.int .u64 (.em a b)) => Nat.beq a k && Nat.beq b j
  | _ => false
theorem isEm_spec {o : Option Atom} {k j : Nat} (h : isEm o k j = true) : o = some (.int .u64 (.em k j)) := by
  unfold isEm at h
  split at h
  · rw [Bool.and_eq_true] at h
    rw [Nat.eq_of_beq_eq_true h.1, Nat.eq_of_beq_eq_true h.2]
  · cases h
def isP0 : SV → Bool
  | .one (.at (.ptr ⟨.ext 0, 0⟩)) => true
  | _ => false
theorem isP0_spec {s : SV} (h : isP0 s = true) : s = pt 0 := by
  unfold isP0 at h
  split at h
  · rfl
  · cases h
def okEnd (cur : Nat) (l : Lf) : Bool := isP0 l.1 && (l.2.all fun x => Nat.blt x.1 4) && isEm (logGet l.2 0) cur 0 && isEm (logGet l.2 1) cur 1 && isEm (logGet l.2 2) cur 2 && isEm (logGet l.2 3) cur 3
theorem okEnd_spec {cur : Nat} {l : Lf} {e : Env} {N : Nat} (h : okEnd cur l = true) (hN : N = mont (e.f cur)) : Wrote e (pt 0) (fun n => n = N) l := by
  unfold okEnd at h
  simp only [Bool.and_eq_true] at h
  obtain ⟨⟨⟨⟨⟨h1, h2⟩, h3⟩, h4⟩, h5⟩, h6⟩ := h
  refine ⟨isP0_spec h1, fun x hx => blt_lt (List.all_eq_true.1 h2 x hx), mont (e.f cur), mont_lt _, hN.symm, _, _, _, _, isEm_spec h3, isEm_spec h4, isEm_spec h5, isEm_spec h6, rfl, rfl, rfl, rfl⟩
def okM (k : Tree Lf → Bool) (nx : Nat) : Tree Lf → Bool
  | .dn (.f n' (.mul a' b')) t' => Nat.beq n' (nx + 1) && Nat.beq a' nx && Nat.beq b' 0 && k t'
  | _ => false
/-- Squares and products by the exponent's bits. -/
def okE (E : Nat) : Nat → Nat → Nat → Tree Lf → Bool
  | 0, cur, _, .leaf l => okEnd cur l
  | i + 1, cur, nx, .dn (.f n (.mul a b)) t => Nat.beq n nx && Nat.beq a cur && Nat.beq b cur && (bif Nat.beq (E / 2 ^ i % 2) 1 then okM (okE E i (nx + 1) (nx + 2)) nx t else okE E i nx (nx + 1) t)
  | _, _, _, _ => false
theorem okE_goal {E : Nat} (hE : E < 2 ^ 256) {e : Env} {a : Fq} (h0 : e.f 0 = a) : ∀ (i cur nx : Nat) (t : Tree Lf), okE E i cur nx t = true → e.f cur = fpow a (E / 2 ^ i) → t.goal e (Wrote e (pt 0) fun n => n = mont (fpow a E))
  | 0, cur, nx, t, h, hc => by
    cases t with
    | leaf l =>
      simp only [okE] at h
      rw [Nat.pow_zero, Nat.div_one] at hc
      exact okEnd_spec h (by rw [hc])
    | no => simp [okE] at h
    | dn d t => simp [okE] at h
    | br b t f => simp [okE] at h
  | i + 1, cur, nx, .leaf _, h, _ => by simp [okE] at h
  | i + 1, cur, nx, .no, h, _ => by simp [okE] at h
  | i + 1, cur, nx, .br _ _ _, h, _ => by simp [okE] at h
  | i + 1, cur, nx, .dn (.f n (.mul a1 b1)) t1, h, hc => by
    rw [okE] at h
    simp only [Bool.and_eq_true] at h
    obtain ⟨⟨⟨e1, e2⟩, e3⟩, h⟩ := h
    have e1 := Nat.eq_of_beq_eq_true e1
    have e2 := Nat.eq_of_beq_eq_true e2
    have e3 := Nat.eq_of_beq_eq_true e3
    subst e1 e2 e3
    intro hd
    have hd : e.f n = e.f b1 * e.f b1 := hd
    have hlt : E / 2 ^ i < 2 ^ 256 := Nat.lt_of_le_of_lt (Nat.div_le_self _ _) hE
    have hdiv : E / 2 ^ (i + 1) = E / 2 ^ i / 2 := by rw [Nat.pow_succ, Nat.div_div_eq_div_mul]
    have hsq : e.f n = fpow a (2 * (E / 2 ^ (i + 1))) := by
      rw [hd, hc, fpow_dbl]
      omega
    cases hb : Nat.beq (E / 2 ^ i % 2) 1 with
    | true =>
      have hb' := Nat.eq_of_beq_eq_true hb
      rw [hb] at h
      simp only [cond_true] at h
      unfold okM at h
      split at h
      · rename_i n' a' b' t'
        simp only [Bool.and_eq_true] at h
        obtain ⟨⟨⟨e1, e2⟩, e3⟩, h⟩ := h
        have e1 := Nat.eq_of_beq_eq_true e1
        have e2 := Nat.eq_of_beq_eq_true e2
        have e3 := Nat.eq_of_beq_eq_true e3
        subst e1 e2 e3
        intro hd'
        have hd' : e.f (a' + 1) = e.f a' * e.f 0 := hd'
        refine okE_goal hE h0 i _ _ t' h ?_
        rw [hd', hsq, h0, show E / 2 ^ i = 2 * (E / 2 ^ (i + 1)) + 1 by omega, fpow_add a (by omega), fpow_one]
      · cases h
    | false =>
      rw [hb] at h
      simp only [cond_false] at h
      have hb := Nat.ne_of_beq_eq_false hb
      refine okE_goal hE h0 i _ _ t1 h ?_
      rw [hsq]
      congr 1
      omega
  | i + 1, cur, nx, .dn (.i _ _) _, h, _ => by simp [okE] at h
  | i + 1, cur, nx, .dn (.ad _ _ _ _ _) _, h, _ => by simp [okE] at h
  | i + 1, cur, nx, .dn (.sb _ _ _ _ _) _, h, _ => by simp [okE] at h
  | i + 1, cur, nx, .dn (.mu _ _ _ _) _, h, _ => by simp [okE] at h
  | i + 1, cur, nx, .dn (.b _ _) _, h, _ => by simp [okE] at h
  | i + 1, cur, nx, .dn (.f _ (.add _ _)) _, h, _ => by simp [okE] at h
  | i + 1, cur, nx, .dn (.f _ (.sub _ _)) _, h, _ => by simp [okE] at h
  | i + 1, cur, nx, .dn (.f _ (.neg _)) _, h, _ => by simp [okE] at h
  | i + 1, cur, nx, .dn (.f _ (.pow _ _)) _, h, _ => by simp [okE] at h
  | i + 1, cur, nx, .dn (.f _ (.k _)) _, h, _ => by simp [okE] at h
  | i + 1, cur, nx, .dn (.f _ (.w _ _ _ _)) _, h, _ => by simp [okE] at h
  | i + 1, cur, nx, .dn (.f _ (.wm _ _ _ _)) _, h, _ => by simp [okE] at h
  | i + 1, cur, nx, .dn (.f _ (.fn _ _)) _, h, _ => by simp [okE] at h
def okEO (E k ni nf : Nat) : Option (Tree Lf) → Bool
  | some t => okE E k 0 1 t && t.bd ni 0 nf
  | none => false
section
variable {P : Program} {qf pf : QSum}
theorem iexC_of (hm : P.follows .mixedOrders = true) (hnum : NumOk P) (hq : QOk P qf) (hp : POk P pf) {f : FuncId} {n : Nat}
    (h : okEO (q - 2) 253 4 1 (sxCall P qf pf n f [pt 0, .one (.agg (ems 0))] (hp0 [ws 0] 4 1) leafE) = true) : IexC P f := by
  intro w z a hz
  obtain ⟨⟨o0, o1, o2, o3, w0, w1, w2, w3, hzc⟩, hzf⟩ := hz
  cases ht : sxCall P qf pf n f [pt 0, .one (.agg (ems 0))] (hp0 [ws 0] 4 1) leafE with
  | none => rw [ht] at h; cases h
  | some t =>
    rw [ht, okEO, Bool.and_eq_true] at h
    let e : Env := { i := valsL [o0, o1, o2, o3], b := fun _ => false, f := fun _ => a, ext := fun _ => z }
    have hwd : ∀ k, Wd (e.i k) := fun k => valsL_wd (fun x hx => by
      simp only [List.mem_cons, List.not_mem_nil, or_false] at hx
      rcases hx with rfl | rfl | rfl | rfl
      · exact w0
      · exact w1
      · exact w2
      · exact w3) k
    have hargs : ∀ e', AgreeE 4 0 1 e e' → [pt 0, .one (.agg (ems 0))].map (SV.den (fun _ => 0) e') = [ptr z, .agg (emV a).toArray] := fun e' ha => by
      have h1 : e'.f 0 = a := ha.f 0 (by omega)
      have h2 : e'.ext 0 = z := by rw [ha.ext]
      simp only [List.map_cons, List.map_nil, pt, SV.den, SV1.den, Atom.den, SA.den, h2, ems_den, h1]
      rw [ptr_of hzc.1]
    have := fn_of_tree (β := fun _ => 0) (e := e) (w := w) hm hnum hq hp ht h.2 (fun e' ha => by
        refine hp0_rel (fun j c hj => ?_) (fun c hc => ?_) (fun j c c0 hj hc hc0 => ?_)
        · match j, hj with
          | 0, hj =>
            cases hj
            have h2 : e'.ext 0 = z := by rw [ha.ext]
            rw [h2]
            refine ⟨cells_block hzc, ?_, fun x hx => ?_⟩
            · rw [ws_den, ha.i 0 (by omega), ha.i 1 (by omega), ha.i 2 (by omega), ha.i 3 (by omega)]
              exact hzc
            · simp only [ws, List.mem_cons, List.not_mem_nil, or_false] at hx
              rcases hx with rfl | rfl | rfl | rfl
              · exact wd_inR (by rw [den_v, ha.i 0 (by omega)]; exact hwd 0)
              · exact wd_inR (by rw [den_v, ha.i 1 (by omega)]; exact hwd 1)
              · exact wd_inR (by rw [den_v, ha.i 2 (by omega)]; exact hwd 2)
              · exact wd_inR (by rw [den_v, ha.i 3 (by omega)]; exact hwd 3)
          | j + 1, hj => simp at hj
        · cases hc
          rw [ha.ext]
          exact hzf
        · match j, hj, hc with
          | 0, hj, _ => exact absurd rfl hj
          | j + 1, _, hc => simp at hc)
      (fun e' ha s hs => by
        simp only [List.mem_cons, List.not_mem_nil, or_false] at hs
        rcases hs with rfl | rfl
        · trivial
        · exact ems_ok _ _)
      (fun e' ha => by rw [hargs e' ha, hargs e (AgreeE.refl _ _ _ _)]) (fun e' l => Wrote e' (pt 0) (fun n => n = mont (fpow a (q - 2))) l)
      (fun e' ha => okE_goal (by unfold q; decide) (ha.f 0 (by omega)) 253 0 1 t h.1 (by
        rw [show (q - 2) / 2 ^ 253 = 1 by unfold q; decide, fpow_one]
        exact ha.f 0 (by omega)))
    rw [hargs e (AgreeE.refl _ _ _ _)] at this
    refine ⟨this.1, this.2.mono fun en w' ⟨v, log, β', e', cnt, g1, g2, g3, g4, g5, g6⟩ => ?_⟩
    have hv : v = pt 0 := g5.1
    have h2 : e'.ext 0 = z := by rw [g2.ext]
    refine ⟨?_, wrote_end h2 g5 g6⟩
    rw [g1, hv]
    simp only [pt, SV.den, SV1.den, Atom.den, SA.den, h2]
    rw [ptr_of hzc.1]
end
/-- Its table. -/
def iexF (fn : FuncId) : QSum := fun f args h =>
  bif Nat.beq f fn then match args with
    | [.one (.at (.ptr z)), .one (.agg lx)] => match rd4 h z, toW4 lx with
      | some _, some wx => match elOf h wx with
        | some (d1, i, h1) => match wr { h1 with nf := h1.nf + 1 } z.root z.off (ems h1.nf) with
            | some h3 => some (d1 ++ [.f h1.nf (.fn 0 [i])], .one (.at (.ptr z)), h3)
            | none => none
        | none => none
      | _, _ => none
    | _ => none
  else none
theorem iexF_p {P : Program} {fn : FuncId} (hc : IexC P fn) : POk P (iexF fn) := by
  intro f args h ds v h' hh
  unfold iexF at hh
  cases hb : Nat.beq f fn with
  | false => rw [hb] at hh; cases hh
  | true =>
    rw [hb] at hh
    have hf := Nat.eq_of_beq_eq_true hb
    subst hf
    simp only [cond_true] at hh
    split at hh
    · rename_i z lx
      split at hh
      · rename_i wz wx hz hx
        split at hh
        · rename_i d1 i h1 he1
          split at hh
          · rename_i h3 hw
            cases hh
            obtain ⟨m1, s1⟩ := elOf_sound he1
            have hmm : SameMem h { h1 with nf := h1.nf + 1 } := m1.trans (SameMem.nf _ _)
            have hcnt := (wr_cnt hw).trans hmm.2.1
            refine ⟨hcnt, fun w0 e β w hr hok hds => ?_⟩
            have hr' := hr.same hmm
            obtain ⟨⟨cz, hcz⟩, oz, az⟩ := rd4_sound hr hz
            have ox : wx.ok e := W4.ok_of hx (hok (.one (.agg lx)) (by simp))
            have ix := s1 e hr.facts ox (fun d hd => hds d (by simp [hd]))
            have hdef : e.f h1.nf = finv (e.f i) := hds (.f h1.nf (.fn 0 [i])) (by simp)
            obtain ⟨b1, b2, b3, _⟩ := wr_sound (ems h1.nf) hr' (r := z.root) (o := z.off) (ems_ok _ _) hw
            have pz : Place w (z.den β e) := ⟨⟨_, _, _, _, oz.1, oz.2.1, oz.2.2.1, oz.2.2.2, az⟩, unfrozen_of (a := z) b1⟩
            obtain ⟨k1, k2⟩ := hc w (z.den β e) (e.f i) pz
            have hargs : ([SV.one (.at (.ptr z)), .one (.agg lx)].map (SV.den β e)).toArray = #[ptr (z.den β e), .agg (emV (e.f i)).toArray] := by
              simp only [List.map_cons, List.map_nil]
              rw [W4.agg_den hx, is_words ix]
              rfl
            rw [hargs]
            refine ⟨hok (.one (.at (.ptr z))) (by simp), k1, k2.mono fun en w' ⟨g1, g2⟩ => ⟨g1, ?_, ?_⟩⟩
            · rw [ems_den, hdef] at b2
              exact b2.grow g2
            · have := g2.size
              rw [setCells_size] at this
              exact this
          · cases hh
        · cases hh
      · cases hh
    · cases hh
end Go.Sx
namespace Go.Sx
open Go
set_option maxRecDepth 100000
section
variable {P : Program} {qb ql : QSum} {ty : Nat} {d : Bool} {B X B2 T E : Code} {c : Operand}
theorem law_10 {i A Bn Xn : Nat} {e : Env} (h : Iv d 5 i A Bn Xn e.i) (wi : Wd (e.i 4)) : (t10 d).goal e fun l => l.1 = .normal ∧ Iv d 5 ((i + 1) % 18446744073709551616) A Bn Xn (VL.vals l e) := by
  intro h0
  have h0 : e.i (niO d 5) = IntKind.u64.wrap (e.i 4 + 1) := h0
  have hi : e.i 4 = i := h.hi
  rw [wrap_u64, hi] at h0
  have h0 : e.i (niO d 5) = (((i + 1) % 18446744073709551616 : Nat) : Int) := by rw [h0]; omega
  refine ⟨rfl, ?_⟩
  cases d with
  | true => exact ⟨h0, h.hA, h.hB, h.hX⟩
  | false => exact ⟨h0, h.hA, h.hB, h.hX⟩
/-- The outer loop. -/
theorem iv_outer (hm : P.follows .mixedOrders = true) (hnum : NumOk P) (hq : QOk P qb) (hl : QOk P ql) (K : IvChk P qb ql ty d B X B2 T E c) {w0 : World} {x0 : Nat → Addr} {i A Bn Xn V : Nat} {vals : Nat → Int} {a : Act} {w : World} (hX : Xn < q)
    (hat : At w0 x0 (ivP ty d hdT []) vals a w) (hI : Iv d 5 i A Bn Xn vals) (hV : v4 (vals 17) (vals 18) (vals 19) (vals 20) = V) (hz : Xn = 0 → A = 0 ∧ i % 2 = 0 ∧ V = 0) {R : Act → World → Prop} {Q : Exit → Act → World → Prop} (hc : Calm Q)
    (hR : ∀ vals' i' A' B' V' a' w', At w0 x0 (ivP ty d hdT []) vals' a' w' → Iv d 5 i' A' B' Xn vals' → v4 (vals' 17) (vals' 18) (vals' 19) (vals' 20) = ((V' : Nat) : Int) → (Xn = 0 → V' = 0) → R a' w') : nest P [.block 0 (.loop B)] R Q a w := by
  have hp := noF_p P
  obtain ⟨sH, _⟩ := self_iv ty d
  refine block_loop (I := fun n a' w' => ∃ vals i A Bn V, At w0 x0 (ivP ty d hdT []) vals a' w' ∧ Iv d 5 i A Bn Xn vals ∧ v4 (vals 17) (vals 18) (vals 19) (vals 20) = ((V : Nat) : Int) ∧ (Xn = 0 → A = 0 ∧ i % 2 = 0 ∧ V = 0) ∧ 2 * meas A Bn + i % 2 ≤ n) (fun n a' w' hi => ?_) (2 * meas A Bn + i % 2) a w ⟨vals, i, A, Bn, V, hat, hI, hV, hz, Nat.le_refl _⟩
  obtain ⟨vs, i, A, Bn, V, hA, hI, hV, hz, hn⟩ := hi
  rw [K.fB]
  simp only [nest_append]
  have wi : Wd (vs 4) := u64_wd (hA.tmpR (t := 14) (k := .u64) (j := 4) rfl)
  refine piece hm hnum hq hp K.cH sH (bd_H d) hA (Φ := fun x' v => Iv d 5 i A Bn Xn v ∧ v4 (v 17) (v 18) (v 19) (v 20) = V ∧ ((x' = .exit 0 ∧ i % 2 = 0 ∧ A = 0) ∨ (x' = .normal ∧ ¬ (i % 2 = 0 ∧ A = 0)))) (fun e' ha => ?_) hc.then.inBlock (fun _ _ h => h.1.fact (l := hdT) hX) ?_
  · have he : ∀ k, k < xo d 5 + 4 → e'.i k = vs k := ha.i
    have hx4 := xo4 d 5
    exact law_H (hI.agree he) (w4d_of (hA.blkR (k := 0) (j := 5) (ty := ty) rfl) he (by omega)) (by rw [he 4 (by omega)]; exact wi) (by rw [he 17 (by omega), he 18 (by omega), he 19 (by omega), he 20 (by omega)]; exact hV)
  rintro x' v1 a1 w1 ⟨hI1, hV1, ⟨rfl, h1, h2⟩ | ⟨rfl, hne⟩⟩ hat1
  · exact hR v1 i A Bn V a1 w1 hat1 hI1 hV1 fun h => (hz h).2.2
  · have hXne : Xn ≠ 0 := fun h => hne ⟨(hz h).2.1, (hz h).1⟩
    refine block_flat ?_
    refine iv_round hm hnum hq hl K hX hat1 hI1 hc.then.inBlock.then.inBlock fun v2 A2 B2' a2 w2 hat2 hI2 hf hf0 => ?_
    have wi2 : Wd (v2 4) := u64_wd (hat2.tmpR (t := 14) (k := .u64) (j := 4) rfl)
    refine piece hm hnum hq hp K.c10 sH (bd_10 d) hat2 (Φ := fun x' v => x' = .normal ∧ Iv d 5 ((i + 1) % 18446744073709551616) A2 B2' Xn v) (fun e' ha => ?_) hc.then.inBlock (fun _ _ h => h.2.fact (l := hdT) hX) ?_
    · have he : ∀ k, k < xo d 5 + 4 → e'.i k = v2 k := ha.i
      have hx4 := xo4 d 5
      exact law_10 (hI2.agree he) (by rw [he 4 (by omega)]; exact wi2)
    rintro _ v3 a3 w3 ⟨rfl, hI3⟩ hat3
    have hb := hat3.blkR (k := 3) (j := 17) (ty := ty) rfl
    obtain ⟨V3, hV3⟩ := nat_of (v4_nonneg hb.1.1 hb.2.1.1 hb.2.2.1.1 hb.2.2.2.1)
    have hi' : i < 18446744073709551616 := by
      have h4 : vs 4 = i := hI.hi
      unfold Wd at wi
      omega
    refine ⟨2 * meas A2 B2' + (i + 1) % 18446744073709551616 % 2, ?_, v3, _, A2, B2', V3, hat3, hI3, hV3, fun h => absurd h hXne, Nat.le_refl _⟩
    by_cases hA0 : A = 0
    · obtain ⟨_, g⟩ := hf0 hA0
      have : i % 2 = 1 := by omega
      omega
    · have := hf hA0
      omega
end
/-! ### Behind the loop -/
def xs0 (d : Bool) : Nat := bif d then 4 else 0
def xe (d : Bool) : Nat := bif d then 13 else 9
def ieS (d : Bool) : Pat := { n := 239, tms := [(0, pt 0), (1, pt (bif d then 1 else 0))], bs := [], cnt := 0, ni := xs0 d + 4, ext := bif d then [ws 0, ws 4] else [ws 0], facts := [(.low (.v (xs0 d)) (.v (xs0 d + 1)) (.v (xs0 d + 2)) (.v (xs0 d + 3)), true)] }
def cst0 : List Atom := [.int .u64 (.c 4611686018427387904), .int .u64 (.c 0), .int .u64 (.c 0), .int .u64 (.c 0)]
def ieE (ty : Nat) (d : Bool) : Pat :=
  { n := 239, tms := [(14, .one (.at (.int .u64 (.v 0)))), (0, pt 0), (1, pt (bif d then 1 else 0)), po 5 0, po 7 2, po 15 3], bs := [(0, ⟨cst0, ty⟩), (3, ⟨ws 1, ty⟩), (2, ⟨ws 5, ty⟩)], cnt := 5, ni := xe d + 4,
    ext := bif d then [ws 9, ws 13] else [ws 9], facts := [(.low (.v (xe d)) (.v (xe d + 1)) (.v (xe d + 2)) (.v (xe d + 3)), true)] }
def zL (k : Nat) : List IE := List.replicate k (.c 0)
def tS (d : Bool) : Tree VL := .leaf (.normal, zL 5 ++ ((vW (xs0 d)).l ++ (qW4.l ++ ([.c 1] ++ (zL 11 ++ (bif d then (vW 0).l ++ (vW 4).l else (vW 0).l))))))
def exL (d : Bool) (m : Nat) : List IE := bif d then (vW m).l ++ (vW (m + 4)).l else (vW m).l
def t54 (d : Bool) : Tree VL := .leaf (.normal, [.v 4] ++ ((vW 17).l ++ ((vW 13).l ++ exL d 25)))
def emW (k : Nat) : W4 := ⟨.em k 0, .em k 1, .em k 2, .em k 3⟩
def tF (d : Bool) : Tree VL :=
  .br (.lt (.v 0) (.c 18))
    (.dn (.f 0 (.wm (.v 1) (.v 2) (.v 3) (.v 4))) <| .dn (.f 1 (.k 21047911838852153443635108893929778640093099074524106816178778772651408069066)) <| .dn (.f 2 (.mul 0 1)) <| .dn (.i (xe d + 4) (.ar .add .u64 (.v 0) (.c 2))) <|
      .leaf (.normal, [.v (xe d + 4)] ++ ((emW 2).l ++ ((vW 5).l ++ exL d 9))))
    (.leaf (.exit 4, [.v 0] ++ ((vW 1).l ++ ((vW 5).l ++ exL d 9))))
def logE (k : Nat) (l : List (Nat × Atom)) : List (Nat × Atom) := (3, .int .u64 (.em k 3)) :: (2, .int .u64 (.em k 2)) :: (1, .int .u64 (.em k 1)) :: (0, .int .u64 (.em k 0)) :: l
def tEnd (d : Bool) : Tree Lf :=
  .dn (.f 0 (.wm (.v 1) (.v 2) (.v 3) (.v 4))) <| .dn (.f 1 (.k 14313922907838535422173540437843230044262521778210338777079312922256405555962)) <| .dn (.f 2 (.mul 0 1)) <|
  .dn (.f 3 (.wm (.v (xe d)) (.v (xe d + 1)) (.v (xe d + 2)) (.v (xe d + 3)))) <| .dn (.f 4 (.mul 3 2)) <| .dn (.f 5 (.k 1)) <|
  .br (.fe 4 5) (.leaf (pt 0, logE 2 []))
    (.dn (.f 6 (.wm (.v (xe d)) (.v (xe d + 1)) (.v (xe d + 2)) (.v (xe d + 3)))) <| .br (.fz 6) (.leaf (pt 0, logE 2 []))
      (.dn (.f 7 (.wm (.v (xe d)) (.v (xe d + 1)) (.v (xe d + 2)) (.v (xe d + 3)))) <| .dn (.f 8 (.fn 0 [7])) <| .leaf (pt 0, logE 8 (logE 2 []))))
structure Ve (d : Bool) (X : Nat) (v : Nat → Int) : Prop where
  hX : v4 (v (xe d)) (v (xe d + 1)) (v (xe d + 2)) (v (xe d + 3)) = X
  hV : X = 0 → v4 (v 1) (v 2) (v 3) (v 4) = 0
theorem Ve.agree {d : Bool} {X : Nat} {v : Nat → Int} {e : Env} (h : Ve d X v) (he : ∀ k, k < xe d + 4 → e.i k = v k) : Ve d X e.i where
  hX := by rw [he (xe d) (by omega), he (xe d + 1) (by omega), he (xe d + 2) (by omega), he (xe d + 3) (by omega)]; exact h.hX
  hV := fun h0 => by
    have : 9 ≤ xe d := by cases d <;> decide
    rw [he 1 (by omega), he 2 (by omega), he 3 (by omega), he 4 (by omega)]
    exact h.hV h0
theorem Ve.fact {d : Bool} {X : Nat} {v : Nat → Int} {x0 : Nat → Addr} {ty : Nat} (h : Ve d X v) (hX : X < q) : Facts (envOf v x0) (ieE ty d).facts := by
  intro f hf
  simp only [ieE, List.mem_cons, List.not_mem_nil, or_false] at hf
  subst hf
  refine decide_eq_true ?_
  show v4 (v (xe d)) (v (xe d + 1)) (v (xe d + 2)) (v (xe d + 3)) < _
  rw [h.hX]
  unfold q at hX
  omega
section
variable {d : Bool} {X : Nat} {e : Env}
theorem wm_ev {k0 k1 k2 k3 : Nat} {n : Nat} (h : v4 (e.i k0) (e.i k1) (e.i k2) (e.i k3) = n) : (FD.wm (.v k0) (.v k1) (.v k2) (.v k3)).ev e = unmont n := by
  show unmont (v4 (e.i k0) (e.i k1) (e.i k2) (e.i k3)).toNat = _
  rw [h]
  rfl
theorem unmont_zero : unmont 0 = 0 := by decide
theorem law_F (h : Ve d X e.i) : (tF d).goal e fun l => Ve d X (VL.vals l e) ∧ ((l.1 = .normal ∧ e.i 0 < 18 ∧ VL.vals l e 0 = (e.i 0 + 2) % 18446744073709551616) ∨ (l.1 = .exit 4)) := by
  refine ⟨fun g d0 d1 d2 d3 => ?_, fun g => ?_⟩
  · have g := (lt_den g).2 rfl
    have d3 : e.i (xe d + 4) = IntKind.u64.wrap (e.i 0 + 2) := d3
    rw [wrap_u64] at d3
    have d0 : e.f 0 = (FD.wm (.v 1) (.v 2) (.v 3) (.v 4)).ev e := d0
    have d2 : e.f 2 = e.f 0 * e.f 1 := d2
    have hz : X = 0 → e.f 2 = 0 := fun h0 => by
      have : e.f 0 = 0 := by rw [d0, wm_ev (n := 0) (h.hV h0), unmont_zero]
      rw [d2, this]
      grind
    refine ⟨?_, .inl ⟨rfl, g, d3⟩⟩
    have hv : X = 0 → v4 ((IE.em 2 0).den e) ((IE.em 2 1).den e) ((IE.em 2 2).den e) ((IE.em 2 3).den e) = 0 := fun h0 => by
      show v4 ((w4 (mont (e.f 2)) 0 : Nat) : Int) ((w4 (mont (e.f 2)) 1 : Nat) : Int) ((w4 (mont (e.f 2)) 2 : Nat) : Int) ((w4 (mont (e.f 2)) 3 : Nat) : Int) = 0
      rw [v4_w4 (mont_RR _), hz h0]
      rfl
    cases d with
    | true => exact ⟨h.hX, hv⟩
    | false => exact ⟨h.hX, hv⟩
  · refine ⟨?_, .inr rfl⟩
    cases d with
    | true => exact ⟨h.hX, h.hV⟩
    | false => exact ⟨h.hX, h.hV⟩
theorem law_End {a : Fq} (h : Ve d (mont a) e.i) : (tEnd d).goal e (Wrote e (pt 0) fun n => n = mont (finv a)) := by
  intro d0 d1 d2 d3 d4 d5
  have d0 : e.f 0 = (FD.wm (.v 1) (.v 2) (.v 3) (.v 4)).ev e := d0
  have d2 : e.f 2 = e.f 0 * e.f 1 := d2
  have d3 : e.f 3 = unmont (mont a) := (show e.f 3 = _ from d3).trans (wm_ev h.hX)
  rw [unmont_mont] at d3
  have d4 : e.f 4 = e.f 3 * e.f 2 := d4
  have d5 : e.f 5 = 1 := d5
  rw [d3] at d4
  refine ⟨fun g => ?_, fun g d6 => ⟨fun g2 => ?_, fun g2 d7 d8 => ?_⟩⟩
  · have g : e.f 4 = e.f 5 := of_decide_eq_true g
    rw [d4, d5] at g
    exact okEnd_spec (cur := 2) rfl (by rw [finv_of g])
  · have d6 : e.f 6 = unmont (mont a) := (show e.f 6 = _ from d6).trans (wm_ev h.hX)
    rw [unmont_mont] at d6
    have g2 : e.f 6 = 0 := of_decide_eq_true g2
    rw [d6] at g2
    subst g2
    have hm0 : mont 0 = 0 := by decide
    have h0 : e.f 0 = 0 := by rw [d0, wm_ev (n := 0) (h.hV hm0), unmont_zero]
    refine okEnd_spec (cur := 2) rfl ?_
    rw [finv_zero, d2, h0]
    congr 1
    grind
  · have d7 : e.f 7 = unmont (mont a) := (show e.f 7 = _ from d7).trans (wm_ev h.hX)
    rw [unmont_mont] at d7
    have d8 : e.f 8 = finv (e.f 7) := by
      have d8 : e.f 8 = ftab 0 [e.f 7] := d8
      exact d8
    exact okEnd_spec (cur := 8) rfl (by rw [d8, d7])
end
/-! ### The contract -/
structure IvEnd (P : Program) (qb pe : QSum) (ty : Nat) (d : Bool) (fn : Func) (body B F : Code) : Prop where
  fb : flat body = (flat body).take 9 ++ ([.block 0 (.loop B)] ++ (((flat body).drop 10).take 1 ++ ([.block 4 (.loop F)] ++ (flat body).drop 12)))
  cS : sxs P qb noF 300 ((flat body).take 9) (ieS d).st (kM fun _ => ivP ty d hdT []) = some (tS d)
  c54 : sxs P qb noF 300 (((flat body).drop 10).take 1) (ivP ty d hdT []).st (kM fun _ => ieE ty d) = some (t54 d)
  cF : sxs P qb pe 300 (flat F) (ieE ty d).st (kM fun _ => ieE ty d) = some (tF d)
  cE : sxs P qb pe 3000 ((flat body).drop 12) (ieE ty d).st (kR P fn) = some (tEnd d)
theorem self_E (ty : Nat) (d : Bool) : (ieS d).self ∧ (ieE ty d).self := by cases d <;> exact ⟨rfl, rfl⟩
theorem bd_S (d : Bool) : (tS d).bd (xs0 d + 4) 0 0 = true := by cases d <;> decide +kernel
theorem bd_54 (d : Bool) : (t54 d).bd (niO d 5) 0 0 = true := by cases d <;> decide +kernel
theorem bd_F (d : Bool) : (tF d).bd (xe d + 4) 0 0 = true := by cases d <;> decide +kernel
theorem bd_End (d : Bool) : (tEnd d).bd (xe d + 4) 0 0 = true := by cases d <;> decide +kernel
section
variable {P : Program} {qb ql pe : QSum} {ty : Nat} {d : Bool} {B X B2 T E F : Code} {c : Operand}
theorem inv_run (hm : P.follows .mixedOrders = true) (hnum : NumOk P) (hq : QOk P qb) (hl : QOk P ql) (hpe : POk P pe) (K : IvChk P qb ql ty d B X B2 T E c) {f : FuncId} {fn : Func} {body : Code} (hfn : P.funcs[f]? = some fn) (hb : fn.body = some body) (hnt : fn.ntmps = 239)
    (G : IvEnd P qb pe ty d fn body B F) {w : World} {addr : Nat → Addr} {vals : Nat → Int} {a : Fq} (hr : HRel w (envOf vals addr) (fun _ => 0) (hp0 (bif d then [ws 0, ws 4] else [ws 0]) (xs0 d + 4) 0) w)
    (hXv : v4 (vals (xs0 d)) (vals (xs0 d + 1)) (vals (xs0 d + 2)) (vals (xs0 d + 3)) = ((mont a : Nat) : Int)) (h0 : (addr 0).spot = none) (h1 : (addr (bif d then 1 else 0)).spot = none) :
    Does P f #[ptr (addr 0), ptr (addr (bif d then 1 else 0))] (ptr (addr 0)) w (w.setCells (addr 0).block (addr 0).off (emV (finv a))) := by
  have hp := noF_p P
  obtain ⟨sS, sE⟩ := self_E ty d
  obtain ⟨sH, _⟩ := self_iv ty d
  have hX : mont a < q := mont_lt a
  let Rf : Ending → World → Prop := fun en w' => en = .returned (ptr (addr 0)) ∧ Grow (w.setCells (addr 0).block (addr 0).off (emV (finv a))) w'
  refine ⟨run_enter hnum hfn hb _ w, calls_of_wp hfn hb (wp_flat ?_)⟩
  show nest P (flat body) (bodyPost P fn Rf .normal) (bodyPost P fn Rf) { tmps := #[ptr (addr 0), ptr (addr (bif d then 1 else 0))] ++ Array.replicate (fn.ntmps - #[ptr (addr 0), ptr (addr (bif d then 1 else 0))].size) undef, defers := [] } w
  have hargs : ([pt 0, pt (bif d then 1 else 0)].map (SV.den (fun _ => 0) (envOf vals addr))).toArray = #[ptr (addr 0), ptr (addr (bif d then 1 else 0))] := by
    simp only [List.map_cons, List.map_nil, pt, SV.den, SV1.den, Atom.den, SA.den, envOf]
    rw [ptr_of h0, ptr_of h1]
  have hfact : ∀ v : Nat → Int, v4 (v (xs0 d)) (v (xs0 d + 1)) (v (xs0 d + 2)) (v (xs0 d + 3)) = ((mont a : Nat) : Int) → Facts (envOf v addr) (ieS d).facts := fun v hv fct hfct => by
    simp only [ieS, List.mem_cons, List.not_mem_nil, or_false] at hfct
    subst hfct
    refine decide_eq_true ?_
    show v4 (v (xs0 d)) (v (xs0 d + 1)) (v (xs0 d + 2)) (v (xs0 d + 3)) < _
    rw [hv]
    unfold q at hX
    omega
  have hat := enter_at (p := ieS d) (l := (List.range (xs0 d + 4)).map .v) (fn := fn) (args := [pt 0, pt (bif d then 1 else 0)]) (h0 := hp0 (bif d then [ws 0, ws 4] else [ws 0]) (xs0 d + 4) 0) (by rw [hnt]; cases d <;> rfl) (w := w) (e := envOf vals addr) (β := fun _ => 0) hr
    (fun s hs => by
      simp only [List.mem_cons, List.not_mem_nil, or_false] at hs
      rcases hs with rfl | rfl <;> exact trivial)
    (hfact _ (by cases d <;> exact hXv))
  rw [hargs] at hat
  have hret : ∀ (en : Ending) (w' : World), Rf en w' → ∃ v, en = .returned v := fun en w' h => ⟨_, h.1⟩
  have hcalm := calm_body (P := P) (fn := fn) hret
  rw [G.fb]
  simp only [nest_append]
  refine piece hm hnum hq hp G.cS sS (bd_S d) hat (Φ := fun x' v => x' = .normal ∧ Iv d 5 0 (mont a) q (mont a) v ∧ v4 (v 17) (v 18) (v 19) (v 20) = ((0 : Nat) : Int)) (fun e' ha => ?_) hcalm (fun _ _ h => h.2.1.fact (l := hdT) hX) ?_
  · have hx : v4 (e'.i (xs0 d)) (e'.i (xs0 d + 1)) (e'.i (xs0 d + 2)) (e'.i (xs0 d + 3)) = ((mont a : Nat) : Int) := by
      rw [ha.i (xs0 d) (by show _ < xs0 d + 4; omega), ha.i (xs0 d + 1) (by show _ < xs0 d + 4; omega), ha.i (xs0 d + 2) (by show _ < xs0 d + 4; omega), ha.i (xs0 d + 3) (by show _ < xs0 d + 4; omega)]
      cases d <;> exact hXv
    refine ⟨rfl, ?_, ?_⟩
    · cases d with
      | true => exact ⟨rfl, hx, rfl, hx⟩
      | false => exact ⟨rfl, hx, rfl, hx⟩
    · cases d <;> rfl
  rintro _ v1 a1 w1 ⟨rfl, hI1, hV1⟩ hat1
  refine iv_outer hm hnum hq hl K hX hat1 hI1 hV1 (fun h => ⟨h, rfl, rfl⟩) hcalm fun v2 i2 A2 B2' V2 a2 w2 hat2 hI2 hV2 hz2 => ?_
  refine piece hm hnum hq hp G.c54 sH (bd_54 d) hat2 (Φ := fun x' v => x' = .normal ∧ Ve d (mont a) v) (fun e' ha => ?_) hcalm (fun _ _ h => h.2.fact (ty := ty) hX) ?_
  · have he : ∀ k, k < xo d 5 + 4 → e'.i k = v2 k := ha.i
    have hx4 := xo4 d 5
    have hI := hI2.agree he
    have hv : mont a = 0 → v4 (e'.i 17) (e'.i 18) (e'.i 19) (e'.i 20) = 0 := fun h => by
      rw [he 17 (by omega), he 18 (by omega), he 19 (by omega), he 20 (by omega), hV2, hz2 h]
      rfl
    refine ⟨rfl, ?_⟩
    cases d with
    | true => exact ⟨hI.hX, hv⟩
    | false => exact ⟨hI.hX, hv⟩
  rintro _ v3 a3 w3 ⟨rfl, hI3⟩ hat3
  refine block_loop (I := fun n a' w' => ∃ vals, At w addr (ieE ty d) vals a' w' ∧ Ve d (mont a) vals ∧ (18 - vals 0).toNat ≤ n) (fun n a' w' hi => ?_) (18 - v3 0).toNat a3 w3 ⟨v3, hat3, hI3, Nat.le_refl _⟩
  obtain ⟨vs, hA, hI, hn⟩ := hi
  have w0 : Wd (vs 0) := u64_wd (hA.tmpR (t := 14) (k := .u64) (j := 0) rfl)
  refine piece hm hnum hq hpe G.cF sE (bd_F d) hA (Φ := fun x' v => Ve d (mont a) v ∧ ((x' = .normal ∧ vs 0 < 18 ∧ v 0 = (vs 0 + 2) % 18446744073709551616) ∨ x' = .exit 4)) (fun e' ha => ?_) hcalm.then.inBlock (fun _ _ h => h.1.fact (ty := ty) hX) ?_
  · have he : ∀ k, k < xe d + 4 → e'.i k = vs k := ha.i
    have := law_F (hI.agree he)
    rw [he 0 (by omega)] at this
    exact this
  rintro x' v4' a4 w4' ⟨hI4, ⟨rfl, h18, hv0⟩ | rfl⟩ hat4
  · refine ⟨(18 - v4' 0).toNat, ?_, v4', hat4, hI4, Nat.le_refl _⟩
    unfold Wd at w0
    omega
  · obtain ⟨β, hrel⟩ := hat4.env sE
    refine last hm hnum hq hpe G.cE (bd_End d) hrel (Φ := fun e' l => Wrote e' (pt 0) (fun n => n = mont (finv a)) l) (fun e' ha => law_End (hI4.agree ha.i)) hret ?_
    rintro e' β' v log w'' ha hw hg
    have hv : v = pt 0 := hw.1
    have hz : e'.ext 0 = addr 0 := by rw [ha.ext]; rfl
    refine ⟨?_, wrote_end hz hw hg⟩
    rw [hv]
    simp only [pt, SV.den, SV1.den, Atom.den, SA.den, hz]
    rw [ptr_of h0]
/-- fp.Inverse. -/
theorem invU_of (hm : P.follows .mixedOrders = true) (hnum : NumOk P) (hq : QOk P qb) (hl : QOk P ql) (hpe : POk P pe) (K : ∀ d, IvChk P qb ql ty d B X B2 T E c) {f : FuncId} {fn : Func} {body : Code} (hfn : P.funcs[f]? = some fn) (hb : fn.body = some body) (hnt : fn.ntmps = 239)
    (G : ∀ d, IvEnd P qb pe ty d fn body B F) : UnC P f finv := by
  intro w z x a hz hx hxz
  obtain ⟨⟨o0, o1, o2, o3, w0, w1, w2, w3, hzc⟩, hzf⟩ := hz
  have hok : ∀ {v : Nat → Int} {k : Nat} {ad : Nat → Addr}, (∀ j, Wd (v j)) → ∀ a ∈ ws k, a.ok 0 (envOf v ad) := fun hv a ha => by
    simp only [ws, List.mem_cons, List.not_mem_nil, or_false] at ha
    rcases ha with rfl | rfl | rfl | rfl <;> exact wd_inR (hv _)
  by_cases e1 : x = z
  · subst e1
    have hv : ∀ j, Wd (valsL (numL (mont a)) j) := fun j => valsL_wd (fun x hx => numL_wd _ hx) j
    refine inv_run (d := false) (addr := fun _ => x) (vals := valsL (numL (mont a))) hm hnum hq hl hpe (K false) hfn hb hnt (G false) ?_ (v4_w4 (mont_RR a)) hx.1 hx.1
    refine hp0_rel (fun j c hj => ?_) (fun c hc => ?_) (fun j c c0 hj hc hc0 => ?_)
    · match j, hj with
      | 0, hj => cases hj; exact ⟨cells_block hx, hx, hok hv⟩
      | j + 1, hj => simp at hj
    · cases hc; exact hzf
    · match j, hj, hc with
      | 0, hj, _ => exact absurd rfl hj
      | j + 1, _, hc => simp at hc
  · have hxz' : Apart x 4 z 4 := by
      rcases hxz with h | h
      · exact absurd h e1
      · exact h
    have hv : ∀ j, Wd (valsL ([o0, o1, o2, o3] ++ numL (mont a)) j) := fun j => valsL_wd (fun x hx => by
      simp only [List.mem_append, List.mem_cons, List.not_mem_nil, or_false] at hx
      rcases hx with (rfl | rfl | rfl | rfl) | h
      · exact w0
      · exact w1
      · exact w2
      · exact w3
      · exact numL_wd _ h) j
    refine inv_run (d := true) (addr := fun j => if j = 0 then z else x) (vals := valsL ([o0, o1, o2, o3] ++ numL (mont a))) hm hnum hq hl hpe (K true) hfn hb hnt (G true) ?_ (v4_w4 (mont_RR a)) hzc.1 hx.1
    refine hp0_rel (fun j c hj => ?_) (fun c hc => ?_) (fun j c c0 hj hc hc0 => ?_)
    · match j, hj with
      | 0, hj => cases hj; exact ⟨cells_block hzc, hzc, hok hv⟩
      | 1, hj => cases hj; exact ⟨cells_block hx, hx, hok hv⟩
      | j + 2, hj => simp at hj
    · cases hc; exact hzf
    · match j, hj, hc with
      | 0, hj, _ => exact absurd rfl hj
      | 1, _, hc => cases hc; cases hc0; exact hxz'
      | j + 2, _, hc => simp at hc
end
end Go.Sx
