import Derived.Test.YtolmolkcjoibiaaDoorSm
import Derived.Test.YtolmolkcjoibiaaDoorBgc
/- Aids to the claim: what is shown here is said at each theorem. -/
namespace Go.Sx
open Go
set_option maxRecDepth 100000
/-! ### Bits of natural numbers -/
theorem ofInt_nat {x : Nat} (h : x < 18446744073709551616) : (BitVec.ofInt 64 (x : Int)).toNat = x := by
  rw [toNat_ofInt (by omega) (by omega)]
  omega
theorem and_nat {x y : Nat} (hx : x < 18446744073709551616) (hy : y < 18446744073709551616) : btI .and .u64 (x : Int) (y : Int) = ((x &&& y : Nat) : Int) := by
  show IntKind.u64.wrap (((BitVec.ofInt 64 (x : Int) &&& BitVec.ofInt 64 (y : Int) : BitVec 64).toNat : Nat) : Int) = _
  rw [BitVec.toNat_and, ofInt_nat hx, ofInt_nat hy]
  have := Nat.and_le_left (n := x) (m := y)
  exact wrap_id (n := ((x &&& y : Nat) : Int)) ⟨by omega, by omega⟩
theorem or_lt64 {x y : Nat} (hx : x < 18446744073709551616) (hy : y < 18446744073709551616) : x ||| y < 18446744073709551616 := Nat.or_lt_two_pow (n := 64) hx hy
theorem or_nat {x y : Nat} (hx : x < 18446744073709551616) (hy : y < 18446744073709551616) : btI .or .u64 (x : Int) (y : Int) = ((x ||| y : Nat) : Int) := by
  show IntKind.u64.wrap (((BitVec.ofInt 64 (x : Int) ||| BitVec.ofInt 64 (y : Int) : BitVec 64).toNat : Nat) : Int) = _
  rw [BitVec.toNat_or, ofInt_nat hx, ofInt_nat hy]
  have := or_lt64 hx hy
  exact wrap_id (n := ((x ||| y : Nat) : Int)) ⟨by omega, by omega⟩
theorem shl_nat {x k : Nat} (hk : k ≤ 64) : shI .shl .u64 (x : Int) k = ((x * 2 ^ k % 18446744073709551616 : Nat) : Int) := by
  simp only [shI, bits_u64, Nat.min_eq_left hk]
  rw [wrap_u64]
  simp only [Int.natCast_emod, Int.natCast_mul, Int.natCast_pow]
  rfl
theorem shr_natI {x k : Nat} (hk : k ≤ 64) : shI .shr .u64 (x : Int) k = ((x / 2 ^ k : Nat) : Int) := by
  rw [shrI k hk]
  simp only [Int.natCast_ediv, Int.natCast_pow]
  rfl
/-! ### The approximation -/
def apHw (n : Nat) : Nat := (n - 1) / 64
def apAv (n : Nat) : Nat := n - 64 * apHw n
def apUs (n : Nat) : Nat := min (apAv n) 33
def apM1 (n : Nat) : Nat := 18446744073709551616 - 2 ^ (apAv n - apUs n)
def apM2 (n : Nat) : Nat := 18446744073709551616 - 2 ^ (31 + apUs n)
def apLo (a : Nat) : Nat := 2147483647 &&& w4 a 0
def apHi (a n : Nat) : Nat := (w4 a (apHw n) &&& apM1 n) * 2 ^ (64 - apAv n) % 18446744073709551616
def apMid (a n : Nat) : Nat := (apM2 n &&& w4 a (apHw n - 1)) / 2 ^ apUs n
def apV (a n : Nat) : Nat := (apLo a ||| apMid a n) ||| apHi a n
section
variable {a n : Nat}
theorem ap_rng (h : 64 < n) : 1 ≤ apAv n ∧ apAv n ≤ 64 ∧ 1 ≤ apUs n ∧ apUs n ≤ 33 ∧ apUs n ≤ apAv n ∧ n = 64 * apHw n + apAv n ∧ 1 ≤ apHw n := by
  unfold apUs apAv apHw
  omega
theorem apLo_lt (a : Nat) : apLo a < 2147483648 := by
  have := Nat.and_le_left (n := 2147483647) (m := w4 a 0)
  unfold apLo
  omega
theorem apM2_lt (n : Nat) : apM2 n < 18446744073709551616 := by
  unfold apM2
  have := Nat.two_pow_pos (31 + apUs n)
  omega
theorem apM1_lt (n : Nat) : apM1 n < 18446744073709551616 := by
  unfold apM1
  have := Nat.two_pow_pos (apAv n - apUs n)
  omega
theorem apMid_lt (h : 64 < n) : apMid a n < 9223372036854775808 := by
  obtain ⟨_, _, h3, _⟩ := ap_rng h
  have h1 := Nat.and_le_left (n := apM2 n) (m := w4 a (apHw n - 1))
  have h2 := apM2_lt n
  have h4 : 2 ^ 1 ≤ 2 ^ apUs n := Nat.pow_le_pow_right (by decide) h3
  unfold apMid
  refine (Nat.div_lt_iff_lt_mul (Nat.two_pow_pos _)).2 ?_
  have : 9223372036854775808 * 2 ^ 1 ≤ 9223372036854775808 * 2 ^ apUs n := Nat.mul_le_mul_left _ h4
  omega
theorem apHi_lt : apHi a n < 18446744073709551616 := Nat.mod_lt _ (by omega)
theorem apV_lt (h : 64 < n) : apV a n < 18446744073709551616 := or_lt64 (or_lt64 (by have := apLo_lt a; omega) (by have := apMid_lt (a := a) h; omega)) apHi_lt
theorem top_bit {x : Nat} (h : x < 18446744073709551616) : 9223372036854775808 ≤ x ↔ x.testBit 63 = true := by
  rw [Nat.testBit_eq_decide_div_mod_eq, decide_eq_true_iff]
  omega
theorem apV_top (h : 64 < n) (ha : a < 2 ^ n) : 9223372036854775808 ≤ apV a n ↔ 2 ^ (n - 1) ≤ a := by
  obtain ⟨g1, g2, g3, g4, g5, g6, g7⟩ := ap_rng h
  rw [top_bit (apV_lt h)]
  have lo : (apLo a).testBit 63 = false := Nat.testBit_lt_two_pow (by have := apLo_lt a; omega)
  have mid : (apMid a n).testBit 63 = false := Nat.testBit_lt_two_pow (apMid_lt h)
  have hi : (apHi a n).testBit 63 = (w4 a (apHw n)).testBit (apAv n - 1) := by
    unfold apHi
    rw [show (18446744073709551616 : Nat) = 2 ^ 64 by decide, Nat.testBit_mod_two_pow, Nat.testBit_mul_two_pow, Nat.testBit_and]
    have e : 63 - (64 - apAv n) = apAv n - 1 := by omega
    rw [e]
    have hm : (apM1 n).testBit (apAv n - 1) = true := by
      unfold apM1
      have := Nat.two_pow_pos (apAv n - apUs n)
      rw [show 18446744073709551616 - 2 ^ (apAv n - apUs n) = 2 ^ 64 - ((2 ^ (apAv n - apUs n) - 1) + 1) by omega, Nat.testBit_two_pow_sub_succ (by
        have : 2 ^ (apAv n - apUs n) ≤ 2 ^ 63 := Nat.pow_le_pow_right (by decide) (by omega)
        omega), Nat.testBit_two_pow_sub_one]
      simp only [Bool.and_eq_true, decide_eq_true_eq, Bool.not_eq_true', decide_eq_false_iff_not]
      omega
    rw [hm]
    simp
    omega
  unfold apV
  rw [Nat.testBit_or, Nat.testBit_or, lo, mid, hi]
  simp only [Bool.false_or]
  have hw : a / 2 ^ (64 * apHw n) < 2 ^ apAv n := by
    refine (Nat.div_lt_iff_lt_mul (Nat.two_pow_pos _)).2 ?_
    rw [← Nat.pow_add, Nat.add_comm, ← g6]
    exact ha
  have hy : w4 a (apHw n) = a / 2 ^ (64 * apHw n) := by
    unfold w4
    refine Nat.mod_eq_of_lt (Nat.lt_of_lt_of_le hw ?_)
    exact Nat.pow_le_pow_right (n := 2) (by decide) g2
  rw [hy]
  have hb : (a / 2 ^ (64 * apHw n)).testBit (apAv n - 1) = true ↔ 2 ^ (apAv n - 1) ≤ a / 2 ^ (64 * apHw n) := by
    constructor
    · intro hb
      exact Nat.ge_two_pow_of_testBit hb
    · intro hb
      rw [Nat.testBit_eq_decide_div_mod_eq, decide_eq_true_iff]
      have h1 : a / 2 ^ (64 * apHw n) / 2 ^ (apAv n - 1) < 2 := by
        refine (Nat.div_lt_iff_lt_mul (Nat.two_pow_pos _)).2 ?_
        rw [show 2 * 2 ^ (apAv n - 1) = 2 ^ apAv n by rw [← Nat.pow_succ']; congr 1; omega]
        exact hw
      have h2 : 1 ≤ a / 2 ^ (64 * apHw n) / 2 ^ (apAv n - 1) := (Nat.le_div_iff_mul_le (Nat.two_pow_pos _)).2 (by rw [Nat.one_mul]; exact hb)
      omega
  rw [hb, Nat.le_div_iff_mul_le (Nat.two_pow_pos _), ← Nat.pow_add]
  rw [show apAv n - 1 + 64 * apHw n = n - 1 by omega]
theorem apV_zero (n : Nat) : apV 0 n = 0 := by
  have h : ∀ j, w4 0 j = 0 := fun j => by simp [w4]
  unfold apV apLo apMid apHi
  simp [h]
end
/-- Of both numbers: what is asked. -/
theorem apx_of {a b n : Nat} (hn : n = max (blen a) (blen b)) (h : 64 < n) : Apx a b (apV a n : Nat) (apV b n : Nat) := by
  have la := blen_lt a
  have lb := blen_lt b
  have ha : a < 2 ^ n := Nat.lt_of_lt_of_le la (Nat.pow_le_pow_right (by decide) (by omega))
  have hb : b < 2 ^ n := Nat.lt_of_lt_of_le lb (Nat.pow_le_pow_right (by decide) (by omega))
  have h1 := apV_lt (a := a) h
  have h2 := apV_lt (a := b) h
  have t1 := apV_top h ha
  have t2 := apV_top h hb
  have h2n : 2 ^ n = 2 * 2 ^ (n - 1) := by rw [← Nat.pow_succ']; congr 1; omega
  have hor : 2 ^ (n - 1) ≤ a ∨ 2 ^ (n - 1) ≤ b := by
    rcases Nat.le_total (blen a) (blen b) with hl | hl
    · have e : n = blen b := by omega
      have hb0 : b ≠ 0 := by
        rintro rfl
        rw [blen_zero] at e
        omega
      right
      rw [e]
      exact blen_le hb0
    · have e : n = blen a := by omega
      have ha0 : a ≠ 0 := by
        rintro rfl
        rw [blen_zero] at e
        omega
      left
      rw [e]
      exact blen_le ha0
  refine ⟨by omega, by omega, by omega, by omega, fun h0 => ?_, .inr ⟨((2 ^ (n - 1) : Nat) : Int), ?_, by omega, by omega, ?_, ?_⟩⟩
  · have : a = 0 := by omega
    subst this
    rw [apV_zero]
    rfl
  · rcases hor with h | h
    · left; omega
    · right; omega
  · rw [← Int.ofNat_le] at t1
    constructor
    · intro g; have := t1.1 (by omega); omega
    · intro g; have := t1.2 (by omega); omega
  · rw [← Int.ofNat_le] at t2
    constructor
    · intro g; have := t2.1 (by omega); omega
    · intro g; have := t2.2 (by omega); omega
theorem apx_low {a b : Nat} (ha : a < 18446744073709551616) (hb : b < 18446744073709551616) : Apx a b (a : Nat) (b : Nat) := ⟨by omega, by omega, by omega, by omega, fun h => h, .inl ⟨rfl, rfl⟩⟩
end Go.Sx
namespace Go.Sx
open Go
set_option maxRecDepth 100000
/-! ### A linear combination by words: trees that go on -/
section
variable {L : Type}
def negT (n nb : Nat) (z : W4) (h : IE) (k : Nat → Nat → W4 → IE → Tree L) : Tree L :=
  .dn (.sb n nb (.c 0) z.a (.c 0)) <| .dn (.sb (n + 1) (nb + 1) (.c 0) z.b (.b nb)) <| .dn (.sb (n + 2) (nb + 2) (.c 0) z.c (.b (nb + 1))) <| .dn (.sb (n + 3) (nb + 3) (.c 0) z.d (.b (nb + 2))) <| .dn (.sb (n + 4) (nb + 4) (.c 0) h (.b (nb + 3))) <|
    k (n + 5) (nb + 5) (vW n) (.v (n + 4))
def mulWT (n nb : Nat) (x : W4) (y : IE) (k : Nat → Nat → W4 → IE → Tree L) : Tree L :=
  .dn (.i n (.sh .shr .i64 y 63)) <| .dn (.i (n + 1) (.bt .xor .i64 y (.v n))) <| .dn (.i (n + 2) (.ar .sub .i64 (.v (n + 1)) (.v n))) <| .dn (.i (n + 3) (.cv .u64 (.v (n + 2)))) <|
  .dn (.mu (n + 4) (n + 5) x.a (.v (n + 3))) <| .dn (.mu (n + 6) (n + 7) x.b (.v (n + 3))) <| .dn (.ad (n + 8) nb (.v (n + 7)) (.v (n + 4)) (.c 0)) <| .dn (.ad (n + 9) (nb + 1) (.v (n + 6)) (.c 0) (.b nb)) <|
  .dn (.mu (n + 10) (n + 11) x.c (.v (n + 3))) <| .dn (.ad (n + 12) (nb + 2) (.v (n + 11)) (.v (n + 9)) (.c 0)) <| .dn (.ad (n + 13) (nb + 3) (.v (n + 10)) (.c 0) (.b (nb + 2))) <|
  .dn (.mu (n + 14) (n + 15) x.d (.v (n + 3))) <| .dn (.ad (n + 16) (nb + 4) (.v (n + 15)) (.v (n + 13)) (.c 0)) <| .dn (.ad (n + 17) (nb + 5) (.v (n + 14)) (.c 0) (.b (nb + 4))) <|
  .br (.lt y (.c 0)) (negT (n + 18) (nb + 6) ⟨.v (n + 5), .v (n + 8), .v (n + 12), .v (n + 16)⟩ (.v (n + 17)) k) (k (n + 18) (nb + 6) ⟨.v (n + 5), .v (n + 8), .v (n + 12), .v (n + 16)⟩ (.v (n + 17)))
def addT (n nb : Nat) (x : W4) (xh : IE) (y : W4) (yh : IE) (k : Nat → Nat → W4 → IE → Tree L) : Tree L :=
  .dn (.ad n nb x.a y.a (.c 0)) <| .dn (.ad (n + 1) (nb + 1) x.b y.b (.b nb)) <| .dn (.ad (n + 2) (nb + 2) x.c y.c (.b (nb + 1))) <| .dn (.ad (n + 3) (nb + 3) x.d y.d (.b (nb + 2))) <| .dn (.ad (n + 4) (nb + 4) xh yh (.b (nb + 3))) <|
    k (n + 5) (nb + 5) (vW n) (.v (n + 4))
end
/-- Four words and a fifth one. -/
def N5 (e : Env) (z : W4) (h : IE) : Int := z.val e + 115792089237316195423570985008687907853269984665640564039457584007913129639936 * h.den e
def T320 : Int := 2135987035920910082395021706169552114602704522356652769947041607822219725780640550022962086936576
section
variable {L : Type} {e : Env} {Φ : L → Prop}
theorem cz (e : Env) (k : Nat) : 0 ≤ (IE.b k).den e ∧ (IE.b k).den e ≤ 1 := by rw [den_b]; exact bi_bd _
theorem neg5 {z0 z1 z2 z3 h o0 o1 o2 o3 o4 c1 c2 c3 c4 c5 : Int} (e1 : o0 = 0 - z0 - 0 + 18446744073709551616 * c1) (e2 : o1 = 0 - z1 - c1 + 18446744073709551616 * c2) (e3 : o2 = 0 - z2 - c2 + 18446744073709551616 * c3) (e4 : o3 = 0 - z3 - c3 + 18446744073709551616 * c4) (e5 : o4 = 0 - h - c4 + 18446744073709551616 * c5) :
    v4 o0 o1 o2 o3 + 115792089237316195423570985008687907853269984665640564039457584007913129639936 * o4 = -(v4 z0 z1 z2 z3 + 115792089237316195423570985008687907853269984665640564039457584007913129639936 * h) + T320 * c5 := by
  unfold v4 T320; omega
theorem add5 {x0 x1 x2 x3 xh y0 y1 y2 y3 yh o0 o1 o2 o3 o4 c1 c2 c3 c4 c5 : Int} (e1 : o0 + 18446744073709551616 * c1 = x0 + y0 + 0) (e2 : o1 + 18446744073709551616 * c2 = x1 + y1 + c1) (e3 : o2 + 18446744073709551616 * c3 = x2 + y2 + c2) (e4 : o3 + 18446744073709551616 * c4 = x3 + y3 + c3) (e5 : o4 + 18446744073709551616 * c5 = xh + yh + c4) :
    v4 o0 o1 o2 o3 + 115792089237316195423570985008687907853269984665640564039457584007913129639936 * o4 = (v4 x0 x1 x2 x3 + 115792089237316195423570985008687907853269984665640564039457584007913129639936 * xh) + (v4 y0 y1 y2 y3 + 115792089237316195423570985008687907853269984665640564039457584007913129639936 * yh) + T320 * (-c5) := by
  unfold v4 T320; omega
theorem negT_goal {n nb : Nat} {z : W4} {h : IE} {k : Nat → Nat → W4 → IE → Tree L} (oz : z.ok e) (oh : Wd (h.den e)) (hk : ∀ n' nb' z' h', z'.ok e → Wd (h'.den e) → (∃ c, N5 e z' h' = -(N5 e z h) + T320 * c) → (k n' nb' z' h').goal e Φ) : (negT n nb z h k).goal e Φ := by
  intro h1 h2 h3 h4 h5
  obtain ⟨e1, w1⟩ := sb_lin h1 ⟨Int.le_refl 0, (by decide : (0 : Int) < 18446744073709551616)⟩ oz.1 ⟨Int.le_refl 0, (by decide : (0 : Int) ≤ 1)⟩
  obtain ⟨e2, w2⟩ := sb_lin h2 ⟨Int.le_refl 0, (by decide : (0 : Int) < 18446744073709551616)⟩ oz.2.1 (cz e _)
  obtain ⟨e3, w3⟩ := sb_lin h3 ⟨Int.le_refl 0, (by decide : (0 : Int) < 18446744073709551616)⟩ oz.2.2.1 (cz e _)
  obtain ⟨e4, w4'⟩ := sb_lin h4 ⟨Int.le_refl 0, (by decide : (0 : Int) < 18446744073709551616)⟩ oz.2.2.2 (cz e _)
  obtain ⟨e5, w5⟩ := sb_lin h5 ⟨Int.le_refl 0, (by decide : (0 : Int) < 18446744073709551616)⟩ oh (cz e _)
  rw [den_b] at e2 e3 e4 e5
  rw [den_c] at e1 e2 e3 e4 e5
  exact hk _ _ _ _ ⟨w1, w2, w3, w4'⟩ w5 ⟨_, neg5 e1 e2 e3 e4 e5⟩
theorem addT_goal {n nb : Nat} {x y : W4} {xh yh : IE} {k : Nat → Nat → W4 → IE → Tree L} (ox : x.ok e) (oxh : Wd (xh.den e)) (oy : y.ok e) (oyh : Wd (yh.den e))
    (hk : ∀ n' nb' z' h', z'.ok e → Wd (h'.den e) → (∃ c, N5 e z' h' = N5 e x xh + N5 e y yh + T320 * c) → (k n' nb' z' h').goal e Φ) : (addT n nb x xh y yh k).goal e Φ := by
  intro h1 h2 h3 h4 h5
  obtain ⟨e1, w1⟩ := ad_lin h1 ox.1 oy.1 ⟨Int.le_refl 0, (by decide : (0 : Int) ≤ 1)⟩
  obtain ⟨e2, w2⟩ := ad_lin h2 ox.2.1 oy.2.1 (cz e _)
  obtain ⟨e3, w3⟩ := ad_lin h3 ox.2.2.1 oy.2.2.1 (cz e _)
  obtain ⟨e4, w4'⟩ := ad_lin h4 ox.2.2.2 oy.2.2.2 (cz e _)
  obtain ⟨e5, w5⟩ := ad_lin h5 oxh oyh (cz e _)
  rw [den_b] at e2 e3 e4 e5
  rw [den_c] at e1
  exact hk _ _ _ _ ⟨w1, w2, w3, w4'⟩ w5 ⟨_, add5 e1 e2 e3 e4 e5⟩
theorem wrap64 (x : Int) : IntKind.i64.wrap x = (x + 9223372036854775808) % 18446744073709551616 - 9223372036854775808 := by
  simp only [IntKind.wrap, IntKind.bits, IntKind.signed]
  simp
  omega
/-- What is there of a whole number without its sign. -/
theorem abs_word {y s x d w : Int} (h0 : -9223372036854775808 < y) (h1 : y < 9223372036854775808) (hs : s = shI .shr .i64 y 63) (hx : x = btI .xor .i64 y s) (hd : d = arI .sub .i64 x s) (hw : w = IntKind.u64.wrap d) : w = (y.natAbs : Nat) ∧ Wd w := by
  have hs' : s = y / 9223372036854775808 := by
    rw [hs]
    show y.fdiv (2 ^ (min 63 64)) = _
    rw [Int.fdiv_eq_ediv_of_nonneg _ (by decide)]
    rfl
  rcases Int.lt_or_le y 0 with hy | hy
  · have hs1 : s = -1 := by omega
    subst hs1
    have hx' : x = -y - 1 := by
      rw [hx]
      show IntKind.i64.wrap (((BitVec.ofInt 64 y ^^^ BitVec.ofInt 64 (-1) : BitVec 64).toNat : Nat) : Int) = _
      rw [show BitVec.ofInt 64 (-1) = BitVec.allOnes 64 by decide, BitVec.xor_allOnes, BitVec.toNat_not, BitVec.toNat_ofInt]
      have : (y % ((2 ^ 64 : Nat) : Int)).toNat = (y + 18446744073709551616).toNat := by omega
      rw [this, wrap64]
      omega
    have hd' : d = -y := by
      rw [hd, hx']
      show IntKind.i64.wrap (-y - 1 - -1) = _
      rw [wrap64]
      omega
    rw [hw, hd', wrap_u64]
    unfold Wd
    omega
  · have hs0 : s = 0 := by omega
    subst hs0
    have hx' : x = y := by
      rw [hx]
      show IntKind.i64.wrap (((BitVec.ofInt 64 y ^^^ BitVec.ofInt 64 0 : BitVec 64).toNat : Nat) : Int) = _
      rw [show BitVec.ofInt 64 0 = 0#64 by decide, BitVec.xor_zero, BitVec.toNat_ofInt]
      have : (y % ((2 ^ 64 : Nat) : Int)).toNat = y.toNat := by omega
      rw [this, wrap64]
      omega
    have hd' : d = y := by
      rw [hd, hx']
      show IntKind.i64.wrap (y - 0) = _
      rw [wrap64]
      omega
    rw [hw, hd', wrap_u64]
    unfold Wd
    omega
theorem mu_part {x w h l : Int} (hx : Wd x) (hw : Wd w) (e1 : h = x * w / 18446744073709551616) (e2 : l = x * w % 18446744073709551616) : 18446744073709551616 * h + l = x * w ∧ Wd l ∧ 0 ≤ h ∧ h ≤ 18446744073709551614 := by
  have h0 : 0 ≤ x * w := Int.mul_nonneg hx.1 hw.1
  have h1 : x * w ≤ 18446744073709551615 * 18446744073709551615 := Int.mul_le_mul (by have := hx.2; omega) (by have := hw.2; omega) hw.1 (by decide)
  unfold Wd
  generalize x * w = p at *
  omega
theorem mul5 {l0 h0 l1 h1 l2 h2 l3 h3 p0 p1 p2 p3 z1 z2 z3 t1 t2 t3 c1 c1' c2 c2' c3 c3' : Int} (m0 : 18446744073709551616 * h0 + l0 = p0) (m1 : 18446744073709551616 * h1 + l1 = p1) (m2 : 18446744073709551616 * h2 + l2 = p2) (m3 : 18446744073709551616 * h3 + l3 = p3)
    (b1 : h1 ≤ 18446744073709551614) (b2 : h2 ≤ 18446744073709551614) (b3 : h3 ≤ 18446744073709551614) (g1 : 0 ≤ c1 ∧ c1 ≤ 1) (g2 : 0 ≤ c2 ∧ c2 ≤ 1) (g3 : 0 ≤ c3 ∧ c3 ≤ 1)
    (k1 : 0 ≤ c1' ∧ c1' ≤ 1) (k2 : 0 ≤ c2' ∧ c2' ≤ 1) (k3 : 0 ≤ c3' ∧ c3' ≤ 1) (r1 : Wd t1) (r2 : Wd t2) (r3 : Wd t3)
    (a1 : z1 + 18446744073709551616 * c1 = l1 + h0 + 0) (a1' : t1 + 18446744073709551616 * c1' = h1 + 0 + c1) (a2 : z2 + 18446744073709551616 * c2 = l2 + t1 + 0) (a2' : t2 + 18446744073709551616 * c2' = h2 + 0 + c2) (a3 : z3 + 18446744073709551616 * c3 = l3 + t2 + 0) (a3' : t3 + 18446744073709551616 * c3' = h3 + 0 + c3) :
    v4 l0 z1 z2 z3 + 115792089237316195423570985008687907853269984665640564039457584007913129639936 * t3 = v4 p0 p1 p2 p3 := by
  have q1 : c1' = 0 := by unfold Wd at r1; omega
  have q2 : c2' = 0 := by unfold Wd at r2; omega
  have q3 : c3' = 0 := by unfold Wd at r3; omega
  subst q1 q2 q3
  unfold v4
  omega
theorem v4_mul (a b c d w : Int) : v4 (a * w) (b * w) (c * w) (d * w) = v4 a b c d * w := by
  unfold v4
  grind
theorem wd0 : Wd 0 := ⟨Int.le_refl 0, by decide⟩
theorem mulWT_goal {n nb : Nat} {x : W4} {y : IE} {k : Nat → Nat → W4 → IE → Tree L} (ox : x.ok e) (hy0 : -9223372036854775808 < y.den e) (hy1 : y.den e < 9223372036854775808)
    (hk : ∀ n' nb' z h, z.ok e → Wd (h.den e) → (∃ c, N5 e z h = x.val e * y.den e + T320 * c) → (k n' nb' z h).goal e Φ) : (mulWT n nb x y k).goal e Φ := by
  intro d0 d1 d2 d3 m0 m1 a1 a1' m2 a2 a2' m3 a3 a3'
  obtain ⟨hw, ow⟩ := abs_word hy0 hy1 (s := e.i n) (x := e.i (n + 1)) (d := e.i (n + 2)) (w := e.i (n + 3)) d0 d1 d2 d3
  obtain ⟨e0, wl0, p0, q0⟩ := mu_part ox.1 ow m0.1 m0.2
  obtain ⟨e1, wl1, p1, q1⟩ := mu_part ox.2.1 ow m1.1 m1.2
  obtain ⟨e2, wl2, p2, q2⟩ := mu_part ox.2.2.1 ow m2.1 m2.2
  obtain ⟨e3, wl3, p3, q3⟩ := mu_part ox.2.2.2 ow m3.1 m3.2
  have ad : ∀ {a b c : Nat} {u : Nat}, (Dn.ad a b (.v c) (.v u) (.c 0)).holds e → Wd (e.i c) → Wd (e.i u) → e.i a + 18446744073709551616 * bi (e.b b) = e.i c + e.i u + 0 ∧ Wd (e.i a) := fun h h1 h2 => by
    obtain ⟨g, w⟩ := ad_lin h h1 h2 ⟨Int.le_refl 0, (by decide : (0 : Int) ≤ 1)⟩
    exact ⟨g, w⟩
  have ad' : ∀ {a b c u : Nat}, (Dn.ad a b (.v c) (.c 0) (.b u)).holds e → Wd (e.i c) → e.i a + 18446744073709551616 * bi (e.b b) = e.i c + 0 + bi (e.b u) ∧ Wd (e.i a) := fun h h1 => by
    obtain ⟨g, w⟩ := ad_lin h h1 wd0 (cz e _)
    rw [den_b] at g
    exact ⟨g, w⟩
  obtain ⟨f1, w1⟩ := ad a1 wl1 ⟨p0, by omega⟩
  obtain ⟨f1', w1'⟩ := ad' a1' ⟨p1, by omega⟩
  obtain ⟨f2, w2⟩ := ad a2 wl2 w1'
  obtain ⟨f2', w2'⟩ := ad' a2' ⟨p2, by omega⟩
  obtain ⟨f3, w3⟩ := ad a3 wl3 w2'
  obtain ⟨f3', w3'⟩ := ad' a3' ⟨p3, by omega⟩
  have tot := mul5 e0 e1 e2 e3 q1 q2 q3 (bi_bd _) (bi_bd _) (bi_bd _) (bi_bd _) (bi_bd _) (bi_bd _) w1' w2' w3' f1 f1' f2 f2' f3 f3'
  rw [v4_mul] at tot
  have ho : (⟨.v (n + 5), .v (n + 8), .v (n + 12), .v (n + 16)⟩ : W4).ok e := ⟨wl0, w1, w2, w3⟩
  have hN : N5 e ⟨.v (n + 5), .v (n + 8), .v (n + 12), .v (n + 16)⟩ (.v (n + 17)) = x.val e * (y.den e).natAbs := by
    rw [← hw]; exact tot
  refine ⟨fun hb => ?_, fun hb => ?_⟩
  · have hlt : y.den e < 0 := of_decide_eq_true hb
    refine negT_goal ho w3' fun n' nb' z' h' oz oh hc => hk n' nb' z' h' oz oh ?_
    obtain ⟨c, hc⟩ := hc
    refine ⟨c, ?_⟩
    rw [hc, hN]
    have : ((y.den e).natAbs : Int) = -(y.den e) := by omega
    rw [this, Int.mul_neg, Int.neg_neg]
  · have hge : ¬ y.den e < 0 := of_decide_eq_false hb
    refine hk _ _ _ _ ho w3' ⟨0, ?_⟩
    rw [hN]
    have : ((y.den e).natAbs : Int) = y.den e := by omega
    rw [this, Int.mul_zero, Int.add_zero]
end
end Go.Sx
namespace Go.Sx
open Go
set_option maxRecDepth 100000
/-! ### The sign, the shift -/
section
variable {L : Type} {e : Env} {Φ : L → Prop}
theorem and_top {x : Int} (hx : Wd x) : btI .and .u64 x 9223372036854775808 = 0 ↔ x < 9223372036854775808 := by
  obtain ⟨m, rfl⟩ := nat_of hx.1
  have h1 : m < 18446744073709551616 := by have := hx.2; omega
  rw [show (9223372036854775808 : Int) = ((9223372036854775808 : Nat) : Int) from rfl, and_nat h1 (by decide)]
  have h3 := top_bit h1
  have h4 : m &&& 9223372036854775808 = 0 ↔ m.testBit 63 = false := by
    constructor
    · intro h
      have h5 : (m &&& 9223372036854775808).testBit 63 = false := by rw [h]; decide
      rw [Nat.testBit_and, show Nat.testBit 9223372036854775808 63 = true by decide, Bool.and_true] at h5
      exact h5
    · intro h
      refine Nat.eq_of_testBit_eq fun i => ?_
      rw [Nat.testBit_and, Nat.zero_testBit, show (9223372036854775808 : Nat) = 2 ^ 63 by decide, Nat.testBit_two_pow]
      by_cases hi : 63 = i
      · subst hi
        rw [h]
        rfl
      · rw [decide_eq_false hi, Bool.and_false]
  cases hb : m.testBit 63 with
  | true =>
    have := h3.2 hb
    rw [hb] at h4
    have h6 : m &&& 9223372036854775808 ≠ 0 := fun h => absurd (h4.1 h) (by decide)
    omega
  | false =>
    have h5 : ¬ 9223372036854775808 ≤ m := fun h => by
      rw [h3, hb] at h
      cases h
    have h6 := h4.2 hb
    omega
theorem N5_bd {z : W4} {h : IE} (oz : z.ok e) (oh : Wd (h.den e)) : 0 ≤ N5 e z h ∧ N5 e z h < 115792089237316195423570985008687907853269984665640564039457584007913129639936 * (h.den e + 1) ∧ 115792089237316195423570985008687907853269984665640564039457584007913129639936 * h.den e ≤ N5 e z h := by
  have h1 := v4_lt oz.1 oz.2.1 oz.2.2.1 oz.2.2.2
  have h2 := W4.val_nonneg oz
  have h3 := oh.1
  unfold N5
  unfold W4.val at *
  omega
def signT (ni : Nat) (j : Nat) (k : W4 → IE → IE → IE → Tree L) : Tree L :=
  .dn (.i ni (.bt .and .u64 (.v 0) (.c 9223372036854775808))) (.br (.eq (.v ni) (.c 0)) (k (vW j) (.v 0) (.v 1) (.v 2))
    (.dn (.i (ni + 1) (.ar .sub .i64 (.c 0) (.v 1))) (.dn (.i (ni + 2) (.ar .sub .i64 (.c 0) (.v 2))) (negT (ni + 3) 0 (vW j) (.v 0) fun _ _ z h => k z h (.v (ni + 1)) (.v (ni + 2))))))
theorem signT_goal {ni j : Nat} {k : W4 → IE → IE → IE → Tree L} {V : Int} (oz : (vW j).ok e) (oh : Wd (e.i 0)) (hV : ∃ c, N5 e (vW j) (.v 0) = V + T320 * c) (h0 : -248661618204893321077691124073410420050228075398673858720231988446579748506266687766528 ≤ V) (h1 : V ≤ 248661618204893321077691124073410420050228075398673858720231988446579748506266687766528)
    (hk : ∀ z h f g, z.ok e → Wd (h.den e) → N5 e z h = (V.natAbs : Nat) → (k z h f g).goal e Φ) : (signT ni j k).goal e Φ := by
  intro hd
  have hd : e.i ni = btI .and .u64 (e.i 0) 9223372036854775808 := hd
  have key := and_top oh
  rw [← hd] at key
  obtain ⟨c, hc⟩ := hV
  have hb := N5_bd (h := .v 0) oz oh
  have hv0 : (IE.v 0).den e = e.i 0 := rfl
  rw [hv0] at hb
  have oh' := oh
  unfold Wd at oh'
  refine ⟨fun g => ?_, fun g => ?_⟩
  · have g := key.1 ((be_eq g).2 rfl)
    refine hk _ _ _ _ oz oh ?_
    unfold T320 at hc
    omega
  · have g : ¬ e.i 0 < 9223372036854775808 := fun h => absurd ((be_eq g).1 (key.2 h)) (by decide)
    intro _ _
    refine negT_goal oz oh fun n' nb' z' h' oz' oh' hc' => hk _ _ _ _ oz' oh' ?_
    obtain ⟨c', hc'⟩ := hc'
    have hb' := N5_bd oz' oh'
    unfold Wd at oh'
    unfold T320 at hc hc'
    omega
def shT (ni : Nat) (j : Nat) (k : W4 → Tree L) : Tree L :=
  .dn (.i ni (.sh .shr .u64 (.v j) 31)) <| .dn (.i (ni + 1) (.sh .shl .u64 (.v (j + 1)) 33)) <| .dn (.i (ni + 2) (.bt .or .u64 (.v ni) (.v (ni + 1)))) <|
  .dn (.i (ni + 3) (.sh .shr .u64 (.v (j + 1)) 31)) <| .dn (.i (ni + 4) (.sh .shl .u64 (.v (j + 2)) 33)) <| .dn (.i (ni + 5) (.bt .or .u64 (.v (ni + 3)) (.v (ni + 4)))) <|
  .dn (.i (ni + 6) (.sh .shr .u64 (.v (j + 2)) 31)) <| .dn (.i (ni + 7) (.sh .shl .u64 (.v (j + 3)) 33)) <| .dn (.i (ni + 8) (.bt .or .u64 (.v (ni + 6)) (.v (ni + 7)))) <|
  .dn (.i (ni + 9) (.sh .shr .u64 (.v (j + 3)) 31)) <| .dn (.i (ni + 10) (.sh .shl .u64 (.v 0) 33)) <| .dn (.i (ni + 11) (.bt .or .u64 (.v (ni + 9)) (.v (ni + 10)))) <|
  k ⟨.v (ni + 2), .v (ni + 5), .v (ni + 8), .v (ni + 11)⟩
theorem sh_one {x y s t o : Int} (hx : Wd x) (hy : Wd y) (hs : s = shI .shr .u64 x 31) (ht : t = shI .shl .u64 y 33) (ho : o = btI .or .u64 s t) : o = x / 2147483648 + 8589934592 * (y % 2147483648) ∧ Wd o := by
  have hs' : s = x / 2147483648 := by rw [hs, shrI 31 (by omega)]; rfl
  have ht' : t = 8589934592 * (y % 2147483648) := by
    rw [ht]
    show IntKind.u64.wrap (y * 2 ^ (min 33 64)) = _
    rw [wrap_u64]
    show y * 8589934592 % 18446744073709551616 = _
    unfold Wd at hy
    omega
  unfold Wd at hx hy
  have hw : Wd (s + t) := by unfold Wd; omega
  have := or_add (a := s) (b := t) 33 (y % 2147483648).toNat (by omega) (by omega) (by rw [ht']; omega) hw
  rw [ho, this]
  exact ⟨by rw [hs', ht'], hw⟩
theorem sh5 {a b c d h o0 o1 o2 o3 N : Int} (hN : v4 a b c d + 115792089237316195423570985008687907853269984665640564039457584007913129639936 * h = N) (ha : Wd a) (hb : Wd b) (hc : Wd c) (hd : Wd d) (hh : 0 ≤ h ∧ h < 2147483648)
    (e0 : o0 = a / 2147483648 + 8589934592 * (b % 2147483648)) (e1 : o1 = b / 2147483648 + 8589934592 * (c % 2147483648)) (e2 : o2 = c / 2147483648 + 8589934592 * (d % 2147483648)) (e3 : o3 = d / 2147483648 + 8589934592 * (h % 2147483648)) : v4 o0 o1 o2 o3 = N / 2147483648 := by
  unfold v4 Wd at *
  omega
theorem shT_goal {ni j : Nat} {k : W4 → Tree L} {N : Nat} (oz : (vW j).ok e) (oh : Wd (e.i 0)) (hN : N5 e (vW j) (.v 0) = N) (hl : N < 248661618204893321077691124073410420050228075398673858720231988446579748506266687766528)
    (hk : ∀ z, z.ok e → z.val e = ((N / 2147483648 : Nat) : Int) → (k z).goal e Φ) : (shT ni j k).goal e Φ := by
  intro d0 d1 d2 d3 d4 d5 d6 d7 d8 d9 d10 d11
  obtain ⟨e0, w0⟩ := sh_one oz.1 oz.2.1 (s := e.i ni) (t := e.i (ni + 1)) (o := e.i (ni + 2)) d0 d1 d2
  obtain ⟨e1, w1⟩ := sh_one oz.2.1 oz.2.2.1 (s := e.i (ni + 3)) (t := e.i (ni + 4)) (o := e.i (ni + 5)) d3 d4 d5
  obtain ⟨e2, w2⟩ := sh_one oz.2.2.1 oz.2.2.2 (s := e.i (ni + 6)) (t := e.i (ni + 7)) (o := e.i (ni + 8)) d6 d7 d8
  obtain ⟨e3, w3⟩ := sh_one oz.2.2.2 oh (s := e.i (ni + 9)) (t := e.i (ni + 10)) (o := e.i (ni + 11)) d9 d10 d11
  refine hk _ ⟨w0, w1, w2, w3⟩ ?_
  have hb := N5_bd (h := .v 0) oz oh
  have hv0 : (IE.v 0).den e = e.i 0 := rfl
  rw [hv0] at hb
  have := sh5 hN oz.1 oz.2.1 oz.2.2.1 oz.2.2.2 (by have := oh.1; omega) e0 e1 e2 e3
  exact this
/-! ### The factors -/
theorem and_i64 {x : Int} : btI .and .i64 x 4294967295 = x % 4294967296 := by
  show IntKind.i64.wrap (((BitVec.ofInt 64 x &&& BitVec.ofInt 64 4294967295 : BitVec 64).toNat : Nat) : Int) = _
  rw [BitVec.toNat_and, show (BitVec.ofInt 64 4294967295).toNat = 2 ^ 32 - 1 by decide, Nat.and_two_pow_sub_one_eq_mod, BitVec.toNat_ofInt, wrap64]
  omega
def decT (ni j : Nat) (k : IE → IE → Tree L) : Tree L :=
  .dn (.i ni (.ar .add .i64 (.v j) (.c 9223372034707292159))) <| .dn (.i (ni + 1) (.bt .and .i64 (.v ni) (.c 4294967295))) <| .dn (.i (ni + 2) (.ar .sub .i64 (.v (ni + 1)) (.c 2147483647))) <|
  .dn (.i (ni + 3) (.sh .shr .i64 (.v ni) 32)) <| .dn (.i (ni + 4) (.bt .and .i64 (.v (ni + 3)) (.c 4294967295))) <| .dn (.i (ni + 5) (.ar .sub .i64 (.v (ni + 4)) (.c 2147483647))) <| k (.v (ni + 2)) (.v (ni + 5))
theorem decT_goal {ni j : Nat} {k : IE → IE → Tree L} {f g c : Int} (hc : e.i j = f + 4294967296 * g + 18446744073709551616 * c) (hf : -2147483648 < f ∧ f ≤ 2147483648) (hg : -2147483648 < g ∧ g ≤ 2147483648)
    (hk : ∀ x y, x.den e = f → y.den e = g → (k x y).goal e Φ) : (decT ni j k).goal e Φ := by
  intro d0 d1 d2 d3 d4 d5
  have d0 : e.i ni = IntKind.i64.wrap (e.i j + 9223372034707292159) := d0
  have d1 : e.i (ni + 1) = btI .and .i64 (e.i ni) 4294967295 := d1
  have d2 : e.i (ni + 2) = IntKind.i64.wrap (e.i (ni + 1) - 2147483647) := d2
  have d3 : e.i (ni + 3) = shI .shr .i64 (e.i ni) 32 := d3
  have d4 : e.i (ni + 4) = btI .and .i64 (e.i (ni + 3)) 4294967295 := d4
  have d5 : e.i (ni + 5) = IntKind.i64.wrap (e.i (ni + 4) - 2147483647) := d5
  have d3' : e.i (ni + 3) = e.i ni / 4294967296 := by
    rw [d3]
    show (e.i ni).fdiv (2 ^ (min 32 64)) = _
    rw [Int.fdiv_eq_ediv_of_nonneg _ (by decide)]
    rfl
  rw [and_i64] at d1 d4
  rw [wrap64] at d0 d2 d5
  refine hk _ _ ?_ ?_
  · rw [den_v]; omega
  · rw [den_v]; omega
/-! ### The inner rounds -/
/-- What one inner round does. -/
def StepR (A B c0 c1 A' B' c0' c1' : Int) : Prop :=
  (A % 2 = 0 ∧ A' = A / 2 ∧ B' = B ∧ c0' = c0 ∧ ∃ k, c1' = 2 * c1 + 18446744073709551616 * k) ∨
  (A % 2 ≠ 0 ∧ A < B ∧ A' = (B - A) / 2 ∧ B' = A ∧ (∃ k, c0' = c1 - c0 + 18446744073709551616 * k) ∧ ∃ k, c1' = 2 * c0 + 18446744073709551616 * k) ∨
  (A % 2 ≠ 0 ∧ B ≤ A ∧ A' = (A - B) / 2 ∧ B' = B ∧ (∃ k, c0' = c0 - c1 + 18446744073709551616 * k) ∧ ∃ k, c1' = 2 * c1 + 18446744073709551616 * k)
def inT (ni : Nat) (k : IE → IE → IE → IE → Tree L) : Tree L :=
  .dn (.i ni (.bt .and .u64 (.v 0) (.c 1))) (.br (.eq (.v ni) (.c 0))
    (.dn (.i (ni + 1) (.dv .quo .u64 (.v 0) 2)) (.dn (.i (ni + 2) (.ar .mul .i64 (.v 3) (.c 2))) (k (.v (ni + 1)) (.v 1) (.v 2) (.v (ni + 2)))))
    (.dn (.sb (ni + 1) 0 (.v 0) (.v 1) (.c 0)) (.br (.eq (.b 0) (.c 1))
      (.dn (.i (ni + 2) (.ar .sub .u64 (.v 1) (.v 0))) (.dn (.i (ni + 3) (.dv .quo .u64 (.v (ni + 2)) 2)) (.dn (.i (ni + 4) (.ar .sub .i64 (.v 3) (.v 2))) (.dn (.i (ni + 5) (.ar .mul .i64 (.v 2) (.c 2))) (k (.v (ni + 3)) (.v 0) (.v (ni + 4)) (.v (ni + 5)))))))
      (.dn (.i (ni + 2) (.dv .quo .u64 (.v (ni + 1)) 2)) (.dn (.i (ni + 3) (.ar .sub .i64 (.v 2) (.v 3))) (.dn (.i (ni + 4) (.ar .mul .i64 (.v 3) (.c 2))) (k (.v (ni + 2)) (.v 1) (.v (ni + 3)) (.v (ni + 4)))))))))
theorem quo2_ev {x : Int} (h : Wd x) : dvI .quo .u64 x 2 = x / 2 := by
  show IntKind.u64.wrap (x.tdiv 2) = _
  rw [Int.tdiv_eq_ediv_of_nonneg h.1, wrap_u64]
  unfold Wd at h
  omega
theorem and1 {x : Int} (h : Wd x) : btI .and .u64 x 1 = x % 2 := and_mask h 1 (by omega)
theorem wrapk (x : Int) : ∃ k, IntKind.i64.wrap x = x + 18446744073709551616 * k := by
  rw [wrap64]
  exact ⟨-((x + 9223372036854775808) / 18446744073709551616), by omega⟩
theorem inT_goal {ni : Nat} {k : IE → IE → IE → IE → Tree L} (hA : Wd (e.i 0)) (hB : Wd (e.i 1)) (hk : ∀ x y z t, StepR (e.i 0) (e.i 1) (e.i 2) (e.i 3) (x.den e) (y.den e) (z.den e) (t.den e) → (k x y z t).goal e Φ) : (inT ni k).goal e Φ := by
  intro d0
  have d0 : e.i ni = btI .and .u64 (e.i 0) 1 := d0
  rw [and1 hA] at d0
  refine ⟨fun g d1 d2 => ?_, fun g d1 => ⟨fun hb d2 d3 d4 d5 => ?_, fun hb d2 d3 d4 => ?_⟩⟩
  · have g := (be_eq g).2 rfl
    have d1 : e.i (ni + 1) = dvI .quo .u64 (e.i 0) 2 := d1
    rw [quo2_ev hA] at d1
    have d2 : e.i (ni + 2) = IntKind.i64.wrap (e.i 3 * 2) := d2
    obtain ⟨q, hq⟩ := wrapk (e.i 3 * 2)
    refine hk _ _ _ _ (.inl ⟨by omega, d1, rfl, rfl, q, ?_⟩)
    rw [den_v, d2, hq]
    omega
  · have g : ¬ e.i ni = 0 := fun h => absurd ((be_eq g).1 h) (by decide)
    obtain ⟨s1, s2⟩ := sb_lin d1 hA hB ⟨Int.le_refl 0, (by decide : (0 : Int) ≤ 1)⟩
    have hb : bi (e.b 0) = 1 := by
      have : decide ((IE.b 0).den e = (IE.c 1).den e) = true := by rw [← hb]; exact Bool.eq_iff_iff.2 (by simp [BE.den])
      have := of_decide_eq_true this
      rw [den_b, den_c] at this
      exact this
    rw [hb, den_v, den_v, den_c] at s1
    have d2 : e.i (ni + 2) = IntKind.u64.wrap (e.i 1 - e.i 0) := d2
    rw [wrap_u64] at d2
    have hlt : e.i 0 < e.i 1 := by unfold Wd at *; omega
    have d2' : e.i (ni + 2) = e.i 1 - e.i 0 := by unfold Wd at *; omega
    have d3 : e.i (ni + 3) = dvI .quo .u64 (e.i (ni + 2)) 2 := d3
    rw [quo2_ev (by unfold Wd at *; omega), d2'] at d3
    have d4 : e.i (ni + 4) = IntKind.i64.wrap (e.i 3 - e.i 2) := d4
    have d5 : e.i (ni + 5) = IntKind.i64.wrap (e.i 2 * 2) := d5
    obtain ⟨q, hq⟩ := wrapk (e.i 3 - e.i 2)
    obtain ⟨q', hq'⟩ := wrapk (e.i 2 * 2)
    refine hk _ _ _ _ (.inr (.inl ⟨by omega, hlt, d3, rfl, ⟨q, ?_⟩, q', ?_⟩))
    · rw [den_v, d4, hq]
    · rw [den_v, d5, hq']; omega
  · have g : ¬ e.i ni = 0 := fun h => absurd ((be_eq g).1 h) (by decide)
    obtain ⟨s1, s2⟩ := sb_lin d1 hA hB ⟨Int.le_refl 0, (by decide : (0 : Int) ≤ 1)⟩
    have hb : ¬ bi (e.b 0) = 1 := by
      have : decide ((IE.b 0).den e = (IE.c 1).den e) = false := by rw [← hb]; exact Bool.eq_iff_iff.2 (by simp [BE.den])
      have := of_decide_eq_false this
      rw [den_b, den_c] at this
      exact this
    have hb0 : bi (e.b 0) = 0 := by have := bi_bd (e.b 0); omega
    rw [hb0, den_v, den_v, den_c] at s1
    have d2 : e.i (ni + 2) = dvI .quo .u64 (e.i (ni + 1)) 2 := d2
    rw [quo2_ev s2] at d2
    have d3 : e.i (ni + 3) = IntKind.i64.wrap (e.i 2 - e.i 3) := d3
    have d4 : e.i (ni + 4) = IntKind.i64.wrap (e.i 3 * 2) := d4
    obtain ⟨q, hq⟩ := wrapk (e.i 2 - e.i 3)
    obtain ⟨q', hq'⟩ := wrapk (e.i 3 * 2)
    refine hk _ _ _ _ (.inr (.inr ⟨by omega, by unfold Wd at *; omega, ?_, rfl, ⟨q, ?_⟩, q', ?_⟩))
    · rw [den_v, d2]; omega
    · rw [den_v, d3, hq]
    · rw [den_v, d4, hq']; omega
end
/-- The inner rounds' invariant. -/
def InI (a b m K A0 B0 F A B c0 c1 : Int) : Prop := GIn a b m K F A B c0 c1 ∧ (F = 1 → A = A0 ∧ B = B0)
theorem InI.step {a b m K A0 B0 F A B c0 c1 A' B' c0' c1' : Int} (hx : Apx a b A0 B0) (ha : 0 ≤ a) (hb : 0 ≤ b) (hm : 0 ≤ m) (hmx : (m = a ∧ b ≤ a) ∨ (m = b ∧ a ≤ b)) (hK : (K = 2147483648 * a ∧ a ≤ b) ∨ (K = 2147483648 * b ∧ b ≤ a))
    (h : InI a b m K A0 B0 F A B c0 c1) (hs : StepR A B c0 c1 A' B' c0' c1') : InI a b m K A0 B0 (2 * F) A' B' c0' c1' := by
  obtain ⟨h, hap⟩ := h
  refine ⟨?_, fun hF => by have := h.F1; omega⟩
  rcases hs with ⟨g1, g2, g3, g4, g5⟩ | ⟨g1, g2, g3, g4, g5, g6⟩ | ⟨g1, g2, g3, g4, g5, g6⟩
  · subst g3 g4
    exact h.even hap hx ha hb hm hmx hK g1 g2 g5
  · subst g4
    exact h.less hap hx ha hb hm hmx hK g1 g2 g3 g5 g6
  · subst g4
    exact h.more hap hx ha hb hm hmx hK g1 g2 g3 g5 g6
end Go.Sx
