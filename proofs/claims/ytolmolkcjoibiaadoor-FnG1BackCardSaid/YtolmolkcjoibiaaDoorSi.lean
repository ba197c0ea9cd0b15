import Derived.Test.YtolmolkcjoibiaaDoorSh
/- Aids to the claim: what is shown here is said at each theorem. -/
namespace Go.Sx
open Go
set_option maxRecDepth 100000
def tMade : Tree Lf :=
.dn (.i 4 (.sh .shr .u64 (.v 3) 56)) <|
.dn (.i 5 (.cv .u8 (.v 4))) <|
.dn (.i 6 (.sh .shr .u64 (.v 3) 48)) <|
.dn (.i 7 (.cv .u8 (.v 6))) <|
.dn (.i 8 (.sh .shr .u64 (.v 3) 40)) <|
.dn (.i 9 (.cv .u8 (.v 8))) <|
.dn (.i 10 (.sh .shr .u64 (.v 3) 32)) <|
.dn (.i 11 (.cv .u8 (.v 10))) <|
.dn (.i 12 (.sh .shr .u64 (.v 3) 24)) <|
.dn (.i 13 (.cv .u8 (.v 12))) <|
.dn (.i 14 (.sh .shr .u64 (.v 3) 16)) <|
.dn (.i 15 (.cv .u8 (.v 14))) <|
.dn (.i 16 (.sh .shr .u64 (.v 3) 8)) <|
.dn (.i 17 (.cv .u8 (.v 16))) <|
.dn (.i 18 (.sh .shr .u64 (.v 3) 0)) <|
.dn (.i 19 (.cv .u8 (.v 18))) <|
.dn (.i 20 (.sh .shr .u64 (.v 2) 56)) <|
.dn (.i 21 (.cv .u8 (.v 20))) <|
.dn (.i 22 (.sh .shr .u64 (.v 2) 48)) <|
.dn (.i 23 (.cv .u8 (.v 22))) <|
.dn (.i 24 (.sh .shr .u64 (.v 2) 40)) <|
.dn (.i 25 (.cv .u8 (.v 24))) <|
.dn (.i 26 (.sh .shr .u64 (.v 2) 32)) <|
.dn (.i 27 (.cv .u8 (.v 26))) <|
.dn (.i 28 (.sh .shr .u64 (.v 2) 24)) <|
.dn (.i 29 (.cv .u8 (.v 28))) <|
.dn (.i 30 (.sh .shr .u64 (.v 2) 16)) <|
.dn (.i 31 (.cv .u8 (.v 30))) <|
.dn (.i 32 (.sh .shr .u64 (.v 2) 8)) <|
.dn (.i 33 (.cv .u8 (.v 32))) <|
.dn (.i 34 (.sh .shr .u64 (.v 2) 0)) <|
.dn (.i 35 (.cv .u8 (.v 34))) <|
.dn (.i 36 (.sh .shr .u64 (.v 1) 56)) <|
.dn (.i 37 (.cv .u8 (.v 36))) <|
.dn (.i 38 (.sh .shr .u64 (.v 1) 48)) <|
.dn (.i 39 (.cv .u8 (.v 38))) <|
.dn (.i 40 (.sh .shr .u64 (.v 1) 40)) <|
.dn (.i 41 (.cv .u8 (.v 40))) <|
.dn (.i 42 (.sh .shr .u64 (.v 1) 32)) <|
.dn (.i 43 (.cv .u8 (.v 42))) <|
.dn (.i 44 (.sh .shr .u64 (.v 1) 24)) <|
.dn (.i 45 (.cv .u8 (.v 44))) <|
.dn (.i 46 (.sh .shr .u64 (.v 1) 16)) <|
.dn (.i 47 (.cv .u8 (.v 46))) <|
.dn (.i 48 (.sh .shr .u64 (.v 1) 8)) <|
.dn (.i 49 (.cv .u8 (.v 48))) <|
.dn (.i 50 (.sh .shr .u64 (.v 1) 0)) <|
.dn (.i 51 (.cv .u8 (.v 50))) <|
.dn (.i 52 (.sh .shr .u64 (.v 0) 56)) <|
.dn (.i 53 (.cv .u8 (.v 52))) <|
.dn (.i 54 (.sh .shr .u64 (.v 0) 48)) <|
.dn (.i 55 (.cv .u8 (.v 54))) <|
.dn (.i 56 (.sh .shr .u64 (.v 0) 40)) <|
.dn (.i 57 (.cv .u8 (.v 56))) <|
.dn (.i 58 (.sh .shr .u64 (.v 0) 32)) <|
.dn (.i 59 (.cv .u8 (.v 58))) <|
.dn (.i 60 (.sh .shr .u64 (.v 0) 24)) <|
.dn (.i 61 (.cv .u8 (.v 60))) <|
.dn (.i 62 (.sh .shr .u64 (.v 0) 16)) <|
.dn (.i 63 (.cv .u8 (.v 62))) <|
.dn (.i 64 (.sh .shr .u64 (.v 0) 8)) <|
.dn (.i 65 (.cv .u8 (.v 64))) <|
.dn (.i 66 (.sh .shr .u64 (.v 0) 0)) <|
.dn (.i 67 (.cv .u8 (.v 66))) <|
.dn (.i 68 (.sh .shl .u64 (.v 65) 8)) <|
.dn (.i 69 (.bt .or .u64 (.v 67) (.v 68))) <|
.dn (.i 70 (.sh .shl .u64 (.v 63) 16)) <|
.dn (.i 71 (.bt .or .u64 (.v 69) (.v 70))) <|
.dn (.i 72 (.sh .shl .u64 (.v 61) 24)) <|
.dn (.i 73 (.bt .or .u64 (.v 71) (.v 72))) <|
.dn (.i 74 (.sh .shl .u64 (.v 59) 32)) <|
.dn (.i 75 (.bt .or .u64 (.v 73) (.v 74))) <|
.dn (.i 76 (.sh .shl .u64 (.v 57) 40)) <|
.dn (.i 77 (.bt .or .u64 (.v 75) (.v 76))) <|
.dn (.i 78 (.sh .shl .u64 (.v 55) 48)) <|
.dn (.i 79 (.bt .or .u64 (.v 77) (.v 78))) <|
.dn (.i 80 (.sh .shl .u64 (.v 53) 56)) <|
.dn (.i 81 (.bt .or .u64 (.v 79) (.v 80))) <|
.dn (.i 82 (.sh .shl .u64 (.v 49) 8)) <|
.dn (.i 83 (.bt .or .u64 (.v 51) (.v 82))) <|
.dn (.i 84 (.sh .shl .u64 (.v 47) 16)) <|
.dn (.i 85 (.bt .or .u64 (.v 83) (.v 84))) <|
.dn (.i 86 (.sh .shl .u64 (.v 45) 24)) <|
.dn (.i 87 (.bt .or .u64 (.v 85) (.v 86))) <|
.dn (.i 88 (.sh .shl .u64 (.v 43) 32)) <|
.dn (.i 89 (.bt .or .u64 (.v 87) (.v 88))) <|
.dn (.i 90 (.sh .shl .u64 (.v 41) 40)) <|
.dn (.i 91 (.bt .or .u64 (.v 89) (.v 90))) <|
.dn (.i 92 (.sh .shl .u64 (.v 39) 48)) <|
.dn (.i 93 (.bt .or .u64 (.v 91) (.v 92))) <|
.dn (.i 94 (.sh .shl .u64 (.v 37) 56)) <|
.dn (.i 95 (.bt .or .u64 (.v 93) (.v 94))) <|
.dn (.i 96 (.sh .shl .u64 (.v 33) 8)) <|
.dn (.i 97 (.bt .or .u64 (.v 35) (.v 96))) <|
.dn (.i 98 (.sh .shl .u64 (.v 31) 16)) <|
.dn (.i 99 (.bt .or .u64 (.v 97) (.v 98))) <|
.dn (.i 100 (.sh .shl .u64 (.v 29) 24)) <|
.dn (.i 101 (.bt .or .u64 (.v 99) (.v 100))) <|
.dn (.i 102 (.sh .shl .u64 (.v 27) 32)) <|
.dn (.i 103 (.bt .or .u64 (.v 101) (.v 102))) <|
.dn (.i 104 (.sh .shl .u64 (.v 25) 40)) <|
.dn (.i 105 (.bt .or .u64 (.v 103) (.v 104))) <|
.dn (.i 106 (.sh .shl .u64 (.v 23) 48)) <|
.dn (.i 107 (.bt .or .u64 (.v 105) (.v 106))) <|
.dn (.i 108 (.sh .shl .u64 (.v 21) 56)) <|
.dn (.i 109 (.bt .or .u64 (.v 107) (.v 108))) <|
.dn (.i 110 (.sh .shl .u64 (.v 17) 8)) <|
.dn (.i 111 (.bt .or .u64 (.v 19) (.v 110))) <|
.dn (.i 112 (.sh .shl .u64 (.v 15) 16)) <|
.dn (.i 113 (.bt .or .u64 (.v 111) (.v 112))) <|
.dn (.i 114 (.sh .shl .u64 (.v 13) 24)) <|
.dn (.i 115 (.bt .or .u64 (.v 113) (.v 114))) <|
.dn (.i 116 (.sh .shl .u64 (.v 11) 32)) <|
.dn (.i 117 (.bt .or .u64 (.v 115) (.v 116))) <|
.dn (.i 118 (.sh .shl .u64 (.v 9) 40)) <|
.dn (.i 119 (.bt .or .u64 (.v 117) (.v 118))) <|
.dn (.i 120 (.sh .shl .u64 (.v 7) 48)) <|
.dn (.i 121 (.bt .or .u64 (.v 119) (.v 120))) <|
.dn (.i 122 (.sh .shl .u64 (.v 5) 56)) <|
.dn (.i 123 (.bt .or .u64 (.v 121) (.v 122))) <|
.br (.low (.v 81) (.v 95) (.v 109) (.v 123)) (
.dn (.f 0 (.wm (.v 81) (.v 95) (.v 109) (.v 123))) <|
.dn (.f 1 (.k 6350874878119819312338956282401532409788428879151445726012394534686998597021)) <|
.dn (.f 2 (.mul 0 1)) <|
.leaf ((.tup [(.agg [(.int .u64 (.em 2 0)), (.int .u64 (.em 2 1)), (.int .u64 (.em 2 2)), (.int .u64 (.em 2 3))]), (.at (.bool (.c true)))]), [])
) (
.no
)
def tLess : Tree Lf :=
.br (.eq (.v 3) (.v 7)) (
.br (.eq (.v 2) (.v 6)) (
.br (.eq (.v 1) (.v 5)) (
.br (.eq (.v 0) (.v 4)) (
.leaf ((.one (.at (.bool (.c false)))), [])
) (
.leaf ((.one (.at (.bool (.lt (.v 0) (.v 4))))), [])
)
) (
.leaf ((.one (.at (.bool (.lt (.v 1) (.v 5))))), [])
)
) (
.leaf ((.one (.at (.bool (.lt (.v 2) (.v 6))))), [])
)
) (
.leaf ((.one (.at (.bool (.lt (.v 3) (.v 7))))), [])
)
theorem or_add {a b : Int} (k t : Nat) (ha : 0 ≤ a) (ha2 : a < (2 ^ k : Nat)) (hb : b = (2 ^ k * t : Nat)) (hw : Wd (a + b)) : btI .or .u64 a b = a + b := by
  obtain ⟨m, rfl⟩ := nat_of ha
  subst hb
  have hm : m < 2 ^ k := by omega
  have h1 := hw.2
  show IntKind.u64.wrap (((BitVec.ofInt 64 (m : Int) ||| BitVec.ofInt 64 ((2 ^ k * t : Nat) : Int) : BitVec 64).toNat : Nat) : Int) = _
  rw [BitVec.toNat_or, toNat_ofInt (by omega) (by omega), toNat_ofInt (by omega) (by omega)]
  simp only [Int.toNat_natCast]
  rw [Nat.or_comm, ← Nat.two_pow_add_eq_or_of_lt hm]
  rw [show (((2 ^ k * t + m : Nat)) : Int) = (m : Int) + ((2 ^ k * t : Nat) : Int) by omega]
  exact wrap_id hw
theorem wrap_u8 (n : Int) : IntKind.u8.wrap n = n % 256 := by
  simp [IntKind.wrap, IntKind.bits, IntKind.signed]
theorem shlI {x : Int} (n : Nat) (hn : n ≤ 64) (h : Wd (x * 2 ^ n)) : shI .shl .u64 x n = x * 2 ^ n := by
  simp only [shI, bits_u64]
  rw [Nat.min_eq_left hn]
  exact wrap_id h
/-- One more byte. -/
theorem or_byte {a b l o : Int} (k : Nat) (hk : k ≤ 56) (ha : 0 ≤ a) (ha2 : a < 2 ^ k) (hb : 0 ≤ b) (hb2 : b < 256) (hl : l = shI .shl .u64 b k) (ho : o = btI .or .u64 a l) : o = a + b * 2 ^ k ∧ 0 ≤ o ∧ o < 2 ^ (k + 8) := by
  obtain ⟨t, rfl⟩ := nat_of hb
  have hp : (0 : Int) < 2 ^ k := Int.pow_pos (by omega)
  have h8 : (2 : Int) ^ (k + 8) = 2 ^ k * 256 := by rw [Int.pow_add]; rfl
  have hp2 : (2 : Int) ^ k ≤ 2 ^ 56 := by exact_mod_cast Nat.pow_le_pow_right (show 0 < 2 by omega) hk
  have hbd : (t : Int) * 2 ^ k ≤ 255 * 2 ^ k := Int.mul_le_mul_of_nonneg_right (by omega) (Int.le_of_lt hp)
  have hb0 : 0 ≤ (t : Int) * 2 ^ k := Int.mul_nonneg hb (Int.le_of_lt hp)
  have hwl : Wd ((t : Int) * 2 ^ k) := ⟨hb0, by omega⟩
  rw [shlI k (by omega) hwl] at hl
  have hcast : ((2 ^ k : Nat) : Int) = 2 ^ k := by push_cast; rfl
  have := or_add (a := a) (b := l) k t ha (by rw [hcast]; exact ha2) (by rw [hl]; push_cast; rw [Int.mul_comm]) (by rw [hl]; exact ⟨by omega, by omega⟩)
  rw [ho, this, hl, h8]
  refine ⟨rfl, by omega, by omega⟩
theorem bytes_word {x s0 s1 s2 s3 s4 s5 s6 s7 b0 b1 b2 b3 b4 b5 b6 b7 l1 l2 l3 l4 l5 l6 l7 o1 o2 o3 o4 o5 o6 o7 : Int} (hx : Wd x)
    (hs0 : s0 = shI .shr .u64 x 0) (hb0 : b0 = IntKind.u8.wrap s0)
    (hs1 : s1 = shI .shr .u64 x 8) (hb1 : b1 = IntKind.u8.wrap s1)
    (hs2 : s2 = shI .shr .u64 x 16) (hb2 : b2 = IntKind.u8.wrap s2)
    (hs3 : s3 = shI .shr .u64 x 24) (hb3 : b3 = IntKind.u8.wrap s3)
    (hs4 : s4 = shI .shr .u64 x 32) (hb4 : b4 = IntKind.u8.wrap s4)
    (hs5 : s5 = shI .shr .u64 x 40) (hb5 : b5 = IntKind.u8.wrap s5)
    (hs6 : s6 = shI .shr .u64 x 48) (hb6 : b6 = IntKind.u8.wrap s6)
    (hs7 : s7 = shI .shr .u64 x 56) (hb7 : b7 = IntKind.u8.wrap s7)
    (hl1 : l1 = shI .shl .u64 b1 8) (ho1 : o1 = btI .or .u64 b0 l1)
    (hl2 : l2 = shI .shl .u64 b2 16) (ho2 : o2 = btI .or .u64 o1 l2)
    (hl3 : l3 = shI .shl .u64 b3 24) (ho3 : o3 = btI .or .u64 o2 l3)
    (hl4 : l4 = shI .shl .u64 b4 32) (ho4 : o4 = btI .or .u64 o3 l4)
    (hl5 : l5 = shI .shl .u64 b5 40) (ho5 : o5 = btI .or .u64 o4 l5)
    (hl6 : l6 = shI .shl .u64 b6 48) (ho6 : o6 = btI .or .u64 o5 l6)
    (hl7 : l7 = shI .shl .u64 b7 56) (ho7 : o7 = btI .or .u64 o6 l7) : o7 = x := by
  have e0 : b0 = x / 1 % 256 := by rw [hb0, wrap_u8, hs0, shrI 0 (by omega)]; rfl
  have e1 : b1 = x / 256 % 256 := by rw [hb1, wrap_u8, hs1, shrI 8 (by omega)]; rfl
  have e2 : b2 = x / 65536 % 256 := by rw [hb2, wrap_u8, hs2, shrI 16 (by omega)]; rfl
  have e3 : b3 = x / 16777216 % 256 := by rw [hb3, wrap_u8, hs3, shrI 24 (by omega)]; rfl
  have e4 : b4 = x / 4294967296 % 256 := by rw [hb4, wrap_u8, hs4, shrI 32 (by omega)]; rfl
  have e5 : b5 = x / 1099511627776 % 256 := by rw [hb5, wrap_u8, hs5, shrI 40 (by omega)]; rfl
  have e6 : b6 = x / 281474976710656 % 256 := by rw [hb6, wrap_u8, hs6, shrI 48 (by omega)]; rfl
  have e7 : b7 = x / 72057594037927936 % 256 := by rw [hb7, wrap_u8, hs7, shrI 56 (by omega)]; rfl
  obtain ⟨x0, x1⟩ := hx
  have g0 : 0 ≤ b0 ∧ b0 < 256 := by rw [e0]; omega
  have g1 : 0 ≤ b1 ∧ b1 < 256 := by rw [e1]; omega
  have g2 : 0 ≤ b2 ∧ b2 < 256 := by rw [e2]; omega
  have g3 : 0 ≤ b3 ∧ b3 < 256 := by rw [e3]; omega
  have g4 : 0 ≤ b4 ∧ b4 < 256 := by rw [e4]; omega
  have g5 : 0 ≤ b5 ∧ b5 < 256 := by rw [e5]; omega
  have g6 : 0 ≤ b6 ∧ b6 < 256 := by rw [e6]; omega
  have g7 : 0 ≤ b7 ∧ b7 < 256 := by rw [e7]; omega
  have r1 := or_byte 8 (by omega) g0.1 g0.2 g1.1 g1.2 hl1 ho1
  have r2 := or_byte 16 (by omega) r1.2.1 r1.2.2 g2.1 g2.2 hl2 ho2
  have r3 := or_byte 24 (by omega) r2.2.1 r2.2.2 g3.1 g3.2 hl3 ho3
  have r4 := or_byte 32 (by omega) r3.2.1 r3.2.2 g4.1 g4.2 hl4 ho4
  have r5 := or_byte 40 (by omega) r4.2.1 r4.2.2 g5.1 g5.2 hl5 ho5
  have r6 := or_byte 48 (by omega) r5.2.1 r5.2.2 g6.1 g6.2 hl6 ho6
  have r7 := or_byte 56 (by omega) r6.2.1 r6.2.2 g7.1 g7.2 hl7 ho7
  have f7 := r7.1
  rw [r6.1, r5.1, r4.1, r3.1, r2.1, r1.1] at f7
  clear r1 r2 r3 r4 r5 r6 r7 g0 g1 g2 g3 g4 g5 g6 g7 hs0 hb0 hs1 hb1 hs2 hb2 hs3 hb3 hs4 hb4 hs5 hb5 hs6 hb6 hs7 hb7 hl1 ho1 hl2 ho2 hl3 ho3 hl4 ho4 hl5 ho5 hl6 ho6 hl7 ho7
  rw [f7, e0, e1, e2, e3, e4, e5, e6, e7]
  clear f7 e0 e1 e2 e3 e4 e5 e6 e7
  omega
theorem made_law {e : Env} {x : Fq} (hW : Words e 4) (h0' : e.i 0 = w4 x.val 0) (h1' : e.i 1 = w4 x.val 1) (h2' : e.i 2 = w4 x.val 2) (h3' : e.i 3 = w4 x.val 3) : tMade.lin e fun l => (∀ β, l.1.den β e = .tuple #[.agg (emV x).toArray, .bool true]) ∧ l.2 = [] := by
  intro h0 h1 h2 h3 h4 h5 h6 h7 h8 h9 h10 h11 h12 h13 h14 h15 h16 h17 h18 h19 h20 h21 h22 h23 h24 h25 h26 h27 h28 h29 h30 h31 h32 h33 h34 h35 h36 h37 h38 h39 h40 h41 h42 h43 h44 h45 h46 h47 h48 h49 h50 h51 h52 h53 h54 h55 h56 h57 h58 h59 h60 h61 h62 h63 h64 h65 h66 h67 h68 h69 h70 h71 h72 h73 h74 h75 h76 h77 h78 h79 h80 h81 h82 h83 h84 h85 h86 h87 h88 h89 h90 h91 h92 h93 h94 h95 h96 h97 h98 h99 h100 h101 h102 h103 h104 h105 h106 h107 h108 h109 h110 h111 h112 h113 h114 h115 h116 h117 h118 h119
  have k0 : e.i 81 = e.i 0 := bytes_word (hW 0 (by omega)) h62.1 h63.1 h60.1 h61.1 h58.1 h59.1 h56.1 h57.1 h54.1 h55.1 h52.1 h53.1 h50.1 h51.1 h48.1 h49.1 h64.1 h65.1 h66.1 h67.1 h68.1 h69.1 h70.1 h71.1 h72.1 h73.1 h74.1 h75.1 h76.1 h77.1
  have k1 : e.i 95 = e.i 1 := bytes_word (hW 1 (by omega)) h46.1 h47.1 h44.1 h45.1 h42.1 h43.1 h40.1 h41.1 h38.1 h39.1 h36.1 h37.1 h34.1 h35.1 h32.1 h33.1 h78.1 h79.1 h80.1 h81.1 h82.1 h83.1 h84.1 h85.1 h86.1 h87.1 h88.1 h89.1 h90.1 h91.1
  have k2 : e.i 109 = e.i 2 := bytes_word (hW 2 (by omega)) h30.1 h31.1 h28.1 h29.1 h26.1 h27.1 h24.1 h25.1 h22.1 h23.1 h20.1 h21.1 h18.1 h19.1 h16.1 h17.1 h92.1 h93.1 h94.1 h95.1 h96.1 h97.1 h98.1 h99.1 h100.1 h101.1 h102.1 h103.1 h104.1 h105.1
  have k3 : e.i 123 = e.i 3 := bytes_word (hW 3 (by omega)) h14.1 h15.1 h12.1 h13.1 h10.1 h11.1 h8.1 h9.1 h6.1 h7.1 h4.1 h5.1 h2.1 h3.1 h0.1 h1.1 h106.1 h107.1 h108.1 h109.1 h110.1 h111.1 h112.1 h113.1 h114.1 h115.1 h116.1 h117.1 h118.1 h119.1
  clear h0 h1 h2 h3 h4 h5 h6 h7 h8 h9 h10 h11 h12 h13 h14 h15 h16 h17 h18 h19 h20 h21 h22 h23 h24 h25 h26 h27 h28 h29 h30 h31 h32 h33 h34 h35 h36 h37 h38 h39 h40 h41 h42 h43 h44 h45 h46 h47 h48 h49 h50 h51 h52 h53 h54 h55 h56 h57 h58 h59 h60 h61 h62 h63 h64 h65 h66 h67 h68 h69 h70 h71 h72 h73 h74 h75 h76 h77 h78 h79 h80 h81 h82 h83 h84 h85 h86 h87 h88 h89 h90 h91 h92 h93 h94 h95 h96 h97 h98 h99 h100 h101 h102 h103 h104 h105 h106 h107 h108 h109 h110 h111 h112 h113 h114 h115 h116 h117 h118 h119
  have hv : v4 (e.i 81) (e.i 95) (e.i 109) (e.i 123) = ((x.val : Nat) : Int) := by
    rw [k0, k1, k2, k3, h0', h1', h2', h3']
    exact v4_w4 (val_RR x)
  refine ⟨fun _ => ?_, fun hb => ?_⟩
  · intro f0 f1 f2
    have f0 : e.f 0 = unmont (v4 (e.i 81) (e.i 95) (e.i 109) (e.i 123)).toNat := f0
    have f1 : e.f 1 = F 6350874878119819312338956282401532409788428879151445726012394534686998597021 := f1
    have f2 : e.f 2 = e.f 0 * e.f 1 := f2
    have hx : e.f 2 = x := by
      rw [f2, f0, f1, hv, Int.toNat_natCast]
      show F x.val * F RI * F 6350874878119819312338956282401532409788428879151445726012394534686998597021 = x
      rw [F_val, show F 6350874878119819312338956282401532409788428879151445726012394534686998597021 = F RR from F_eq (by unfold RR q; decide)]
      have := RRI
      grind
    refine ⟨fun β => ?_, rfl⟩
    rw [← hx]
    rfl
  · have hb := of_decide_eq_false hb
    exact hb (by simp only [den_v]; rw [hv]; exact Int.ofNat_lt.2 x.isLt)
theorem less_law {e : Env} (hW : Words e 8) : tLess.lin e fun l => (∀ β, l.1.den β e = .bool (decide (v4 (e.i 0) (e.i 1) (e.i 2) (e.i 3) < v4 (e.i 4) (e.i 5) (e.i 6) (e.i 7)))) ∧ l.2 = [] := by
  have eq : ∀ {x y : IE}, (BE.eq x y).den e = true → x.den e = y.den e := fun h => by
    have h' : (IE.den e _ == IE.den e _) = true := h
    simpa using h'
  have neq : ∀ {x y : IE}, (BE.eq x y).den e = false → x.den e ≠ y.den e := fun h => by
    have h' : (IE.den e _ == IE.den e _) = false := h
    simpa using h'
  have w0 := hW 0 (by omega); have w1 := hW 1 (by omega); have w2 := hW 2 (by omega); have w3 := hW 3 (by omega)
  have w4 := hW 4 (by omega); have w5 := hW 5 (by omega); have w6 := hW 6 (by omega); have w7 := hW 7 (by omega)
  unfold Wd at w0 w1 w2 w3 w4 w5 w6 w7
  refine ⟨fun a => ⟨fun b => ⟨fun c => ⟨fun d => ?_, fun d => ?_⟩, fun c => ?_⟩, fun b => ?_⟩, fun a => ?_⟩
  · have a := eq a; have b := eq b; have c := eq c; have d := eq d
    simp only [den_v] at a b c d
    refine ⟨fun β => ?_, rfl⟩
    show Value.bool false = _
    rw [decide_eq_false]
    unfold v4
    omega
  · have a := eq a; have b := eq b; have c := eq c; have d := neq d
    simp only [den_v] at a b c d
    refine ⟨fun β => ?_, rfl⟩
    show Value.bool (decide (e.i 0 < e.i 4)) = _
    congr 1
    rw [decide_eq_decide]
    unfold v4
    omega
  · have a := eq a; have b := eq b; have c := neq c
    simp only [den_v] at a b c
    refine ⟨fun β => ?_, rfl⟩
    show Value.bool (decide (e.i 1 < e.i 5)) = _
    congr 1
    rw [decide_eq_decide]
    unfold v4
    omega
  · have a := eq a; have b := neq b
    simp only [den_v] at a b
    refine ⟨fun β => ?_, rfl⟩
    show Value.bool (decide (e.i 2 < e.i 6)) = _
    congr 1
    rw [decide_eq_decide]
    unfold v4
    omega
  · have a := neq a
    simp only [den_v] at a
    refine ⟨fun β => ?_, rfl⟩
    show Value.bool (decide (e.i 3 < e.i 7)) = _
    congr 1
    rw [decide_eq_decide]
    unfold v4
    omega
end Go.Sx
namespace Go.Sx
open Go
set_option maxRecDepth 100000

/-! ### The reference's sum and difference of words -/
def addD (n : Nat) (a b : IE) (c : Int) (k : Int → Tree Lf) : Tree Lf :=
  .dn (.i n (.ar .add .u64 a b)) (.br (.lt (.v n) a)
    (.dn (.i (n + 1) (.ar .add .u64 (.v n) (.c c))) (.br (.lt (.v (n + 1)) (.v n)) (k 1) (k 1)))
    (.dn (.i (n + 1) (.ar .add .u64 (.v n) (.c c))) (.br (.lt (.v (n + 1)) (.v n)) (k 1) (k 0))))
def subD (n : Nat) (a b : IE) (c : Int) (k : Int → Tree Lf) : Tree Lf :=
  .dn (.i n (.ar .sub .u64 a b)) (.br (.lt a b)
    (.dn (.i (n + 1) (.ar .sub .u64 (.v n) (.c c))) (.br (.lt (.v n) (.c c)) (k 1) (k 1)))
    (.dn (.i (n + 1) (.ar .sub .u64 (.v n) (.c c))) (.br (.lt (.v n) (.c c)) (k 1) (k 0))))
def outs : List Atom := [.int .u64 (.v 9), .int .u64 (.v 11), .int .u64 (.v 13), .int .u64 (.v 15)]
def tSum : Tree Lf := addD 8 (.v 0) (.v 4) 0 fun c => addD 10 (.v 1) (.v 5) c fun c => addD 12 (.v 2) (.v 6) c fun c => addD 14 (.v 3) (.v 7) c fun c => .leaf (.tup [.agg outs, .at (.bool (.c (decide (c = 1))))], [])
def tLes : Tree Lf := subD 8 (.v 0) (.v 4) 0 fun c => subD 10 (.v 1) (.v 5) c fun c => subD 12 (.v 2) (.v 6) c fun c => subD 14 (.v 3) (.v 7) c fun _ => .leaf (.one (.agg outs), [])

theorem den_lt {e : Env} {x y : IE} (h : (BE.lt x y).den e = true) : x.den e < y.den e := of_decide_eq_true h
theorem den_nlt {e : Env} {x y : IE} (h : (BE.lt x y).den e = false) : y.den e ≤ x.den e := Int.not_lt.1 (of_decide_eq_false h)
theorem addD_arith {a b x o c k1 k2 : Int} (ha : Wd a) (hb : Wd b) (hc : c = 0 ∨ c = 1) (h1 : x = a + b - 18446744073709551616 * k1) (hx : Wd x) (h2 : o = x + c - 18446744073709551616 * k2) (ho : Wd o) :
    (x < a → o + 18446744073709551616 * 1 = a + b + c) ∧ (a ≤ x → o < x → o + 18446744073709551616 * 1 = a + b + c) ∧ (a ≤ x → x ≤ o → o + 18446744073709551616 * 0 = a + b + c) := by
  unfold Wd at *
  refine ⟨fun h => ?_, fun h g => ?_, fun h g => ?_⟩ <;> omega
theorem subD_arith {a b x o c k1 k2 : Int} (ha : Wd a) (hb : Wd b) (hc : c = 0 ∨ c = 1) (h1 : x = a - b - 18446744073709551616 * k1) (hx : Wd x) (h2 : o = x - c - 18446744073709551616 * k2) (ho : Wd o) :
    (a < b → o = a - b - c + 18446744073709551616 * 1) ∧ (b ≤ a → x < c → o = a - b - c + 18446744073709551616 * 1) ∧ (b ≤ a → c ≤ x → o = a - b - c + 18446744073709551616 * 0) := by
  unfold Wd at *
  refine ⟨fun h => ?_, fun h g => ?_, fun h g => ?_⟩ <;> omega
theorem addD_lin {e : Env} {Φ : Lf → Prop} {n : Nat} {a b : IE} {c : Int} {k : Int → Tree Lf} (ha : Wd (a.den e)) (hb : Wd (b.den e)) (hc : c = 0 ∨ c = 1)
    (hk : ∀ c', (c' = 0 ∨ c' = 1) → e.i (n + 1) + 18446744073709551616 * c' = a.den e + b.den e + c → Wd (e.i (n + 1)) → (k c').lin e Φ) : (addD n a b c k).lin e Φ := by
  rintro ⟨⟨k1, h1⟩, hx⟩
  refine ⟨fun hl => ?_, fun hl => ?_⟩
  · rintro ⟨⟨k2, h2⟩, ho⟩
    obtain ⟨g1, _, _⟩ := addD_arith ha hb hc h1 hx h2 ho
    have := hk 1 (.inr rfl) (g1 (den_lt hl)) ho
    exact ⟨fun _ => this, fun _ => this⟩
  · rintro ⟨⟨k2, h2⟩, ho⟩
    obtain ⟨_, g2, g3⟩ := addD_arith ha hb hc h1 hx h2 ho
    exact ⟨fun hm => hk 1 (.inr rfl) (g2 (den_nlt hl) (den_lt hm)) ho, fun hm => hk 0 (.inl rfl) (g3 (den_nlt hl) (den_nlt hm)) ho⟩
theorem subD_lin {e : Env} {Φ : Lf → Prop} {n : Nat} {a b : IE} {c : Int} {k : Int → Tree Lf} (ha : Wd (a.den e)) (hb : Wd (b.den e)) (hc : c = 0 ∨ c = 1)
    (hk : ∀ c', (c' = 0 ∨ c' = 1) → e.i (n + 1) = a.den e - b.den e - c + 18446744073709551616 * c' → Wd (e.i (n + 1)) → (k c').lin e Φ) : (subD n a b c k).lin e Φ := by
  rintro ⟨⟨k1, h1⟩, hx⟩
  refine ⟨fun hl => ?_, fun hl => ?_⟩
  · rintro ⟨⟨k2, h2⟩, ho⟩
    obtain ⟨g1, _, _⟩ := subD_arith ha hb hc h1 hx h2 ho
    have := hk 1 (.inr rfl) (g1 (den_lt hl)) ho
    exact ⟨fun _ => this, fun _ => this⟩
  · rintro ⟨⟨k2, h2⟩, ho⟩
    obtain ⟨_, g2, g3⟩ := subD_arith ha hb hc h1 hx h2 ho
    exact ⟨fun hm => hk 1 (.inr rfl) (g2 (den_nlt hl) (den_lt hm)) ho, fun hm => hk 0 (.inl rfl) (g3 (den_nlt hl) (den_nlt hm)) ho⟩

/-- The words of a number beyond the words. -/
theorem w4_mod {a b c d k : Int} {n : Nat} (ha : Wd a) (hb : Wd b) (hc : Wd c) (hd : Wd d) (h : v4 a b c d + 115792089237316195423570985008687907853269984665640564039457584007913129639936 * k = n) : a = w4 n 0 ∧ b = w4 n 1 ∧ c = w4 n 2 ∧ d = w4 n 3 := by
  rw [w4_0, w4_1, w4_2, w4_3]
  unfold v4 at h
  unfold Wd at *
  refine ⟨?_, ?_, ?_, ?_⟩ <;> omega
theorem carry_end {a0 a1 a2 a3 b0 b1 b2 b3 o0 o1 o2 o3 c1 c2 c3 c4 : Int}
    (e1 : o0 + 18446744073709551616 * c1 = a0 + b0 + 0) (e2 : o1 + 18446744073709551616 * c2 = a1 + b1 + c1) (e3 : o2 + 18446744073709551616 * c3 = a2 + b2 + c2) (e4 : o3 + 18446744073709551616 * c4 = a3 + b3 + c3) :
    v4 o0 o1 o2 o3 + 115792089237316195423570985008687907853269984665640564039457584007913129639936 * c4 = v4 a0 a1 a2 a3 + v4 b0 b1 b2 b3 := by unfold v4; omega
theorem borrow_end {a0 a1 a2 a3 b0 b1 b2 b3 o0 o1 o2 o3 c1 c2 c3 c4 : Int}
    (e1 : o0 = a0 - b0 - 0 + 18446744073709551616 * c1) (e2 : o1 = a1 - b1 - c1 + 18446744073709551616 * c2) (e3 : o2 = a2 - b2 - c2 + 18446744073709551616 * c3) (e4 : o3 = a3 - b3 - c3 + 18446744073709551616 * c4) :
    v4 o0 o1 o2 o3 + 115792089237316195423570985008687907853269984665640564039457584007913129639936 * (1 - c4) = v4 a0 a1 a2 a3 - v4 b0 b1 b2 b3 + 115792089237316195423570985008687907853269984665640564039457584007913129639936 := by unfold v4; omega
theorem v4_lt {a b c d : Int} (ha : Wd a) (hb : Wd b) (hc : Wd c) (hd : Wd d) : v4 a b c d < 115792089237316195423570985008687907853269984665640564039457584007913129639936 := by
  unfold v4 Wd at *; omega
theorem carry_dec {v T c : Int} (h : v + 115792089237316195423570985008687907853269984665640564039457584007913129639936 * c = T) (hc : c = 0 ∨ c = 1) (h0 : 0 ≤ v) (h1 : v < 115792089237316195423570985008687907853269984665640564039457584007913129639936) :
    decide (c = 1) = decide (115792089237316195423570985008687907853269984665640564039457584007913129639936 ≤ T) := by
  rw [decide_eq_decide]; omega
theorem sum_law {e : Env} {X Y : Nat} (hW : Words e 8) (hX : v4 (e.i 0) (e.i 1) (e.i 2) (e.i 3) = X) (hY : v4 (e.i 4) (e.i 5) (e.i 6) (e.i 7) = Y) :
    tSum.lin e fun l => (∀ β, l.1.den β e = .tuple #[.agg (numV (X + Y)).toArray, .bool (decide (RR ≤ X + Y))]) ∧ l.2 = [] := by
  refine addD_lin (hW 0 (by omega)) (hW 4 (by omega)) (.inl rfl) fun c1 g1 e1 w1 => ?_
  refine addD_lin (hW 1 (by omega)) (hW 5 (by omega)) g1 fun c2 g2 e2 w2 => ?_
  refine addD_lin (hW 2 (by omega)) (hW 6 (by omega)) g2 fun c3 g3 e3 w3 => ?_
  refine addD_lin (hW 3 (by omega)) (hW 7 (by omega)) g3 fun c4 g4 e4 w4 => ?_
  simp only [den_v] at e1 e2 e3 e4
  have key := carry_end e1 e2 e3 e4
  clear e1 e2 e3 e4
  rw [hX, hY] at key
  have hn : v4 (e.i 9) (e.i 11) (e.i 13) (e.i 15) + 115792089237316195423570985008687907853269984665640564039457584007913129639936 * c4 = ((X + Y : Nat) : Int) := by rw [key]; rfl
  obtain ⟨k0, k1, k2, k3⟩ := w4_mod w1 w2 w3 w4 hn
  have hd := carry_dec hn g4 (v4_nonneg w1.1 w2.1 w3.1 w4.1) (v4_lt w1 w2 w3 w4)
  refine ⟨fun β => ?_, rfl⟩
  show Value.tuple #[.agg #[.int .u64 (e.i 9), .int .u64 (e.i 11), .int .u64 (e.i 13), .int .u64 (e.i 15)], .bool (decide (c4 = 1))] = _
  rw [k0, k1, k2, k3, hd]
  have : decide ((115792089237316195423570985008687907853269984665640564039457584007913129639936 : Int) ≤ ((X + Y : Nat) : Int)) = decide (RR ≤ X + Y) := by
    rw [decide_eq_decide]
    unfold RR
    omega
  rw [this]
  rfl
theorem les_law {e : Env} {X Y : Nat} (hW : Words e 8) (hX : v4 (e.i 0) (e.i 1) (e.i 2) (e.i 3) = X) (hY : v4 (e.i 4) (e.i 5) (e.i 6) (e.i 7) = Y) :
    tLes.lin e fun l => (∀ β, l.1.den β e = .agg (numV (X + RR - Y)).toArray) ∧ l.2 = [] := by
  refine subD_lin (hW 0 (by omega)) (hW 4 (by omega)) (.inl rfl) fun c1 g1 e1 w1 => ?_
  refine subD_lin (hW 1 (by omega)) (hW 5 (by omega)) g1 fun c2 g2 e2 w2 => ?_
  refine subD_lin (hW 2 (by omega)) (hW 6 (by omega)) g2 fun c3 g3 e3 w3 => ?_
  refine subD_lin (hW 3 (by omega)) (hW 7 (by omega)) g3 fun c4 g4 e4 w4 => ?_
  simp only [den_v] at e1 e2 e3 e4
  have key := borrow_end e1 e2 e3 e4
  clear e1 e2 e3 e4
  have hy2 := v4_lt (hW 4 (by omega)) (hW 5 (by omega)) (hW 6 (by omega)) (hW 7 (by omega))
  rw [hY] at hy2
  rw [hX, hY] at key
  have hn : v4 (e.i 9) (e.i 11) (e.i 13) (e.i 15) + 115792089237316195423570985008687907853269984665640564039457584007913129639936 * (1 - c4) = ((X + RR - Y : Nat) : Int) := by
    rw [key]; unfold RR; omega
  obtain ⟨k0, k1, k2, k3⟩ := w4_mod w1 w2 w3 w4 hn
  refine ⟨fun β => ?_, rfl⟩
  show Value.agg #[.int .u64 (e.i 9), .int .u64 (e.i 11), .int .u64 (e.i 13), .int .u64 (e.i 15)] = _
  rw [k0, k1, k2, k3]
  rfl

/-! ### Contracts of functions of values -/
abbrev agN (n : Nat) : Value := .agg (numV n).toArray
def MadeC (P : Program) (f : FuncId) : Prop := ∀ (x : Fq) (w : World), QuietRun P (callFunc f #[agN x.val]) (.tuple #[.agg (emV x).toArray, .bool true]) w
def LeC (P : Program) (f : FuncId) : Prop := ∀ (x y : Nat), x < RR → y < RR → ∀ w, QuietRun P (callFunc f #[agN x, agN y]) (.bool (decide (x < y))) w
def SumC (P : Program) (f : FuncId) : Prop := ∀ (x y : Nat), x < RR → y < RR → ∀ w, QuietRun P (callFunc f #[agN x, agN y]) (.tuple #[agN (x + y), .bool (decide (RR ≤ x + y))]) w
def LesC (P : Program) (f : FuncId) : Prop := ∀ (x y : Nat), x < RR → y < RR → ∀ w, QuietRun P (callFunc f #[agN x, agN y]) (agN (x + RR - y)) w
def PrC (P : Program) (f : FuncId) : Prop := ∀ w, QuietRun P (callFunc f #[]) (agN q) w
def ag (k : Nat) : SV := .one (.agg (ws k))
end Go.Sx
namespace Go.Sx
open Go
section
variable {P : Program} {qf pf : QSum}
/-- A quiet function of values of four words. -/
theorem quiet_words (hm : P.follows .mixedOrders = true) (hnum : NumOk P) (hq : QOk P qf) (hp : POk P pf) {n : Nat} {f : FuncId} {bs : List Nat} {ni : Nat} {t : Tree Lf}
    (h : sxCall P qf pf n f (bs.map ag) (hp0 [] ni 0) leafE = some t) (hbd : t.bd ni 0 0 = true) (hchk : t.chk ni = true) (vals : Nat → Int) (hvals : ∀ k, k < ni → Wd (vals k)) (hbs : ∀ b, b ∈ bs → b + 3 < ni)
    {u : Value} (law : ∀ e, Words e ni → (∀ k, k < ni → e.i k = vals k) → t.lin e fun l => (∀ β, l.1.den β e = u) ∧ l.2 = []) (w : World) :
    QuietRun P (callFunc f (bs.map fun b => Value.agg (wordsV (vals b) (vals (b + 1)) (vals (b + 2)) (vals (b + 3))).toArray).toArray) u w := by
  let e : Env := { i := vals, b := fun _ => false, f := fun _ => 0, ext := fun _ => ⟨0, 0, none⟩ }
  have hag : ∀ e', AgreeE ni 0 0 e e' → Words e' ni ∧ ∀ k, k < ni → e'.i k = vals k := fun e' ha =>
    ⟨fun k hk => by rw [ha.i k hk]; exact hvals k hk, fun k hk => ha.i k hk⟩
  have hargs : ∀ e', AgreeE ni 0 0 e e' → (bs.map ag).map (SV.den (fun _ => 0) e') = bs.map fun b => Value.agg (wordsV (vals b) (vals (b + 1)) (vals (b + 2)) (vals (b + 3))).toArray := fun e' ha => by
    rw [List.map_map]
    refine List.map_congr_left fun b hb => ?_
    have hb' := hbs b hb
    obtain ⟨_, g2⟩ := hag e' ha
    simp only [Function.comp, ag, SV.den, SV1.den, ws_den]
    rw [g2 b (by omega), g2 (b + 1) (by omega), g2 (b + 2) (by omega), g2 (b + 3) (by omega)]
  have := quiet_of_tree (e := e) (β := fun _ => 0) hm hnum hq hp h hbd rfl
    (fun w e' ha => hp0_rel (fun j c hj => by simp at hj) (fun c hc => by simp at hc) (fun j c c0 _ hj => by simp at hj))
    (fun e' ha s hs => by
      obtain ⟨b, hb, rfl⟩ := List.mem_map.1 hs
      have hb' := hbs b hb
      obtain ⟨g1, _⟩ := hag e' ha
      intro a ha
      simp only [ws, List.mem_cons, List.not_mem_nil, or_false] at ha
      rcases ha with rfl | rfl | rfl | rfl
      · exact wd_inR (g1 b (by omega))
      · exact wd_inR (g1 (b + 1) (by omega))
      · exact wd_inR (g1 (b + 2) (by omega))
      · exact wd_inR (g1 (b + 3) (by omega)))
    (fun e' ha => by rw [hargs e' ha, hargs e (AgreeE.refl _ _ _ _)])
    (fun e' ha => by
      obtain ⟨g1, g2⟩ := hag e' ha
      exact t.goal_of_lin hchk g1 (law e' g1 g2)) w
  rw [hargs e (AgreeE.refl _ _ _ _)] at this
  exact this

theorem madeC_of (hm : P.follows .mixedOrders = true) (hnum : NumOk P) (hq : QOk P qf) (hp : POk P pf) {f : FuncId}
    (h : sxCall P qf pf 5000 f ([0].map ag) (hp0 [] 4 0) leafE = some tMade) (hbd : tMade.bd 4 0 0 = true) (hchk : tMade.chk 4 = true) : MadeC P f := fun x w =>
  quiet_words hm hnum hq hp h hbd hchk (valsL (numL x.val)) (fun k _ => valsL_wd numL_wd k) (by decide)
    (fun e hW hv => made_law hW (hv 0 (by omega)) (hv 1 (by omega)) (hv 2 (by omega)) (hv 3 (by omega))) w
theorem two_wd (x y : Nat) (k : Nat) : Wd (valsL (numL x ++ numL y) k) := valsL_wd (fun z hz => by
  rcases List.mem_append.1 hz with h | h
  · exact numL_wd _ h
  · exact numL_wd _ h) k
theorem leC_of (hm : P.follows .mixedOrders = true) (hnum : NumOk P) (hq : QOk P qf) (hp : POk P pf) {f : FuncId}
    (h : sxCall P qf pf 5000 f ([0, 4].map ag) (hp0 [] 8 0) leafE = some tLess) (hbd : tLess.bd 8 0 0 = true) (hchk : tLess.chk 8 = true) : LeC P f := fun x y hx hy w =>
  quiet_words hm hnum hq hp h hbd hchk (valsL (numL x ++ numL y)) (fun k _ => two_wd x y k) (by decide)
    (fun e hW hv => by
      have := less_law hW
      rw [hv 0 (by omega), hv 1 (by omega), hv 2 (by omega), hv 3 (by omega), hv 4 (by omega), hv 5 (by omega), hv 6 (by omega), hv 7 (by omega)] at this
      rw [show v4 (valsL (numL x ++ numL y) 0) (valsL (numL x ++ numL y) 1) (valsL (numL x ++ numL y) 2) (valsL (numL x ++ numL y) 3) = x from v4_w4 hx,
        show v4 (valsL (numL x ++ numL y) 4) (valsL (numL x ++ numL y) 5) (valsL (numL x ++ numL y) 6) (valsL (numL x ++ numL y) 7) = y from v4_w4 hy] at this
      have hd : decide ((x : Int) < y) = decide (x < y) := by rw [decide_eq_decide]; omega
      rw [hd] at this
      exact this) w
theorem sumC_of (hm : P.follows .mixedOrders = true) (hnum : NumOk P) (hq : QOk P qf) (hp : POk P pf) {f : FuncId}
    (h : sxCall P qf pf 5000 f ([0, 4].map ag) (hp0 [] 8 0) leafE = some tSum) (hbd : tSum.bd 8 0 0 = true) (hchk : tSum.chk 8 = true) : SumC P f := fun x y hx hy w =>
  quiet_words hm hnum hq hp h hbd hchk (valsL (numL x ++ numL y)) (fun k _ => two_wd x y k) (by decide)
    (fun e hW hv => sum_law hW (by rw [hv 0 (by omega), hv 1 (by omega), hv 2 (by omega), hv 3 (by omega)]; exact v4_w4 hx) (by rw [hv 4 (by omega), hv 5 (by omega), hv 6 (by omega), hv 7 (by omega)]; exact v4_w4 hy)) w
theorem lesC_of (hm : P.follows .mixedOrders = true) (hnum : NumOk P) (hq : QOk P qf) (hp : POk P pf) {f : FuncId}
    (h : sxCall P qf pf 5000 f ([0, 4].map ag) (hp0 [] 8 0) leafE = some tLes) (hbd : tLes.bd 8 0 0 = true) (hchk : tLes.chk 8 = true) : LesC P f := fun x y hx hy w =>
  quiet_words hm hnum hq hp h hbd hchk (valsL (numL x ++ numL y)) (fun k _ => two_wd x y k) (by decide)
    (fun e hW hv => les_law hW (by rw [hv 0 (by omega), hv 1 (by omega), hv 2 (by omega), hv 3 (by omega)]; exact v4_w4 hx) (by rw [hv 4 (by omega), hv 5 (by omega), hv 6 (by omega), hv 7 (by omega)]; exact v4_w4 hy)) w
def tPr : Tree Lf := .leaf (.one (.agg [.int .u64 (.c 4332616871279656263), .int .u64 (.c 10917124144477883021), .int .u64 (.c 13281191951274694749), .int .u64 (.c 3486998266802970665)]), [])
theorem prC_of (hm : P.follows .mixedOrders = true) (hnum : NumOk P) (hq : QOk P qf) (hp : POk P pf) {f : FuncId}
    (h : sxCall P qf pf 5000 f ([].map ag) (hp0 [] 0 0) leafE = some tPr) : PrC P f := fun w =>
  quiet_words hm hnum hq hp h rfl rfl (fun _ => 0) (fun k hk => absurd hk (Nat.not_lt_zero k)) (by simp) (fun e _ _ => ⟨fun β => rfl, rfl⟩) w
end
end Go.Sx
namespace Go.Sx
open Go

/-! ### Tables of functions of values -/
theorem ad_lin {e : Env} {n m : Nat} {x y z : IE} (h : (Dn.ad n m x y z).holds e) (hx : Wd (x.den e)) (hy : Wd (y.den e)) (hz : 0 ≤ z.den e ∧ z.den e ≤ 1) :
    e.i n + 18446744073709551616 * bi (e.b m) = x.den e + y.den e + z.den e ∧ Wd (e.i n) := by
  obtain ⟨g1, g2⟩ := h
  obtain ⟨hx1, hx2⟩ := hx
  obtain ⟨hy1, hy2⟩ := hy
  rw [g2, g1]
  unfold Wd
  by_cases hc : 18446744073709551616 ≤ x.den e + y.den e + z.den e
  · simp only [hc, decide_true, bi, if_true]; omega
  · simp only [hc, decide_false, bi, Bool.false_eq_true, if_false]; omega
theorem sb_lin {e : Env} {n m : Nat} {x y z : IE} (h : (Dn.sb n m x y z).holds e) (hx : Wd (x.den e)) (hy : Wd (y.den e)) (hz : 0 ≤ z.den e ∧ z.den e ≤ 1) :
    e.i n = x.den e - y.den e - z.den e + 18446744073709551616 * bi (e.b m) ∧ Wd (e.i n) := by
  obtain ⟨g1, g2⟩ := h
  obtain ⟨hx1, hx2⟩ := hx
  obtain ⟨hy1, hy2⟩ := hy
  rw [g2, g1]
  unfold Wd
  by_cases hc : x.den e < y.den e + z.den e
  · simp only [hc, decide_true, bi, if_true]; omega
  · simp only [hc, decide_false, bi, Bool.false_eq_true, if_false]; omega
theorem toW4_spec {l : List Atom} {a : W4} (h : toW4 l = some a) : l = [.int .u64 a.a, .int .u64 a.b, .int .u64 a.c, .int .u64 a.d] := by
  unfold toW4 at h
  split at h
  · cases h; rfl
  · cases h
theorem W4.ok_of {l : List Atom} {a : W4} {e : Env} {n : Nat} (h : toW4 l = some a) (hl : ∀ x ∈ l, x.ok n e) : a.ok e := by
  rw [toW4_spec h] at hl
  exact ⟨inR_wd (hl (.int .u64 a.a) (by simp)), inR_wd (hl (.int .u64 a.b) (by simp)), inR_wd (hl (.int .u64 a.c) (by simp)), inR_wd (hl (.int .u64 a.d) (by simp))⟩
theorem W4.agg_den {l : List Atom} {a : W4} {e : Env} {β : Nat → Nat} (h : toW4 l = some a) : (SV.one (.agg l)).den β e = .agg (wordsV (a.a.den e) (a.b.den e) (a.c.den e) (a.d.den e)).toArray := by
  rw [toW4_spec h]
  rfl
theorem W4.num {a : W4} {e : Env} (h : a.ok e) : ∃ n : Nat, n < RR ∧ a.val e = n ∧ wordsV (a.a.den e) (a.b.den e) (a.c.den e) (a.d.den e) = numV n := by
  obtain ⟨n, hn⟩ := nat_of (W4.val_nonneg h)
  refine ⟨n, ?_, hn, is_words (W4.is_of h hn)⟩
  have := v4_lt h.1 h.2.1 h.2.2.1 h.2.2.2
  unfold W4.val at hn
  rw [hn] at this
  exact Int.ofNat_lt.1 this

/-- Less(a, P). -/
def leF (fn : FuncId) : QSum := fun f args h =>
  bif Nat.beq f fn then match args with
    | [.one (.agg la), .one (.agg lb)] => match toW4 la, toW4 lb with
      | some a, some b => match b.c? with
        | some n => bif decide (n = 21888242871839275222246405745257275088696311157297823662689037894645226208583) then some ([], .one (.at (.bool a.lowB)), h) else none
        | none => none
      | _, _ => none
    | _ => none
  else none
def vs4 (n : Nat) : List Atom := [.int .u64 (.v n), .int .u64 (.v (n + 1)), .int .u64 (.v (n + 2)), .int .u64 (.v (n + 3))]
def lesF (fn : FuncId) : QSum := fun f args h =>
  bif Nat.beq f fn then match args with
    | [.one (.agg la), .one (.agg lb)] => match toW4 la, toW4 lb with
      | some a, some b => some ([.sb h.ni h.nb a.a b.a (.c 0), .sb (h.ni + 1) (h.nb + 1) a.b b.b (.b h.nb), .sb (h.ni + 2) (h.nb + 2) a.c b.c (.b (h.nb + 1)), .sb (h.ni + 3) (h.nb + 3) a.d b.d (.b (h.nb + 2))],
          .one (.agg (vs4 h.ni)), { h with ni := h.ni + 4, nb := h.nb + 4 })
      | _, _ => none
    | _ => none
  else none
def sumF (fn : FuncId) : QSum := fun f args h =>
  bif Nat.beq f fn then match args with
    | [.one (.agg la), .one (.agg lb)] => match toW4 la, toW4 lb with
      | some a, some b => some ([.ad h.ni h.nb a.a b.a (.c 0), .ad (h.ni + 1) (h.nb + 1) a.b b.b (.b h.nb), .ad (h.ni + 2) (h.nb + 2) a.c b.c (.b (h.nb + 1)), .ad (h.ni + 3) (h.nb + 3) a.d b.d (.b (h.nb + 2))],
          .tup [.agg (vs4 h.ni), .at (.bool (.v (h.nb + 3)))], { h with ni := h.ni + 4, nb := h.nb + 4 })
      | _, _ => none
    | _ => none
  else none
/-- P(). -/
def prF (fn : FuncId) : QSum := fun f args h =>
  bif Nat.beq f fn then match args with
    | [] => some ([], .one (.agg [.int .u64 (.c 4332616871279656263), .int .u64 (.c 10917124144477883021), .int .u64 (.c 13281191951274694749), .int .u64 (.c 3486998266802970665)]), h)
    | _ => none
  else none
def maF (fn : FuncId) : QSum := fun f args h =>
  bif Nat.beq f fn then match args with
    | [.one (.agg la)] => match toW4 la with
      | some a => match elP h a with
        | some (ds, i, h') => some (ds, .tup [.agg (ems i), .at (.bool (.c true))], h')
        | none => none
      | none => none
    | _ => none
  else none

section
variable {P : Program}
theorem lowB_den {e : Env} (a : W4) : a.lowB.den e = decide (a.val e < 21888242871839275222246405745257275088696311157297823662689037894645226208583) := by
  unfold W4.lowB
  split
  · rename_i k hk
    have hv : a.val e = mont (e.f k) := by
      obtain ⟨q1, q2, q3, q4⟩ := W4.em?_spec hk e
      unfold W4.val
      rw [q1, q2, q3, q4]
      exact v4_w4 (mont_RR _)
    rw [hv]
    exact (decide_eq_true (Int.ofNat_lt.2 (mont_lt _))).symm
  · rename_i k _ hk
    have hv : a.val e = ((e.f k).val : Nat) := by
      obtain ⟨q1, q2, q3, q4⟩ := W4.ep?_spec hk e
      unfold W4.val
      rw [q1, q2, q3, q4]
      exact v4_w4 (val_RR _)
    rw [hv]
    exact (decide_eq_true (Int.ofNat_lt.2 (e.f k).isLt)).symm
  · rename_i n hn
    rw [W4.c?_spec hn e]
    rfl
  · rfl
theorem leF_q {fn : FuncId} (hc : LeC P fn) : QOk P (leF fn) := by
  intro f args h ds v h' hh
  unfold leF at hh
  cases hb : Nat.beq f fn with
  | false => rw [hb] at hh; cases hh
  | true =>
    rw [hb] at hh
    have hf := Nat.eq_of_beq_eq_true hb
    subst hf
    simp only [cond_true] at hh
    split at hh
    · rename_i la lb
      split at hh
      · rename_i a b ha hb'
        split at hh
        · rename_i n hn
          cases hq : decide (n = 21888242871839275222246405745257275088696311157297823662689037894645226208583) with
          | false => rw [hq] at hh; cases hh
          | true =>
            rw [hq] at hh
            cases hh
            have hq := of_decide_eq_true hq
            refine ⟨SameMem.refl _, fun e β _ hok _ => ⟨trivial, fun w0 w _ => ?_⟩⟩
            have oa : a.ok e := W4.ok_of ha (hok (.one (.agg la)) (by simp))
            have ob : b.ok e := W4.ok_of hb' (hok (.one (.agg lb)) (by simp))
            obtain ⟨x, hx, hxv, hxw⟩ := W4.num oa
            obtain ⟨y, hy, hyv, hyw⟩ := W4.num ob
            have := hc x y hx hy w
            simp only [List.map_cons, List.map_nil]
            rw [W4.agg_den ha, W4.agg_den hb', hxw, hyw]
            have hd : (SV.one (.at (.bool a.lowB))).den β e = .bool (decide (x < y)) := by
              simp only [SV.den, SV1.den, Atom.den, lowB_den]
              have hyq : (y : Int) = 21888242871839275222246405745257275088696311157297823662689037894645226208583 := by rw [← hyv, W4.c?_spec hn e, hq]
              congr 1
              rw [decide_eq_decide, hxv]
              omega
            rw [hd]
            exact this
        · cases hh
      · cases hh
    · cases hh
theorem cons_numV {e : Env} {β : Nat → Nat} {n N : Nat} (h : e.i n = w4 N 0 ∧ e.i (n + 1) = w4 N 1 ∧ e.i (n + 2) = w4 N 2 ∧ e.i (n + 3) = w4 N 3) : (SV1.agg (vs4 n)).den β e = agN N := by
  obtain ⟨h1, h2, h3, h4⟩ := h
  show Value.agg #[.int .u64 (e.i n), .int .u64 (e.i (n + 1)), .int .u64 (e.i (n + 2)), .int .u64 (e.i (n + 3))] = _
  rw [h1, h2, h3, h4]
  rfl
theorem vs4_ok {e : Env} {n m : Nat} (h : Wd (e.i n) ∧ Wd (e.i (n + 1)) ∧ Wd (e.i (n + 2)) ∧ Wd (e.i (n + 3))) : ∀ a ∈ vs4 n, a.ok m e := fun a ha => by
  simp only [vs4, List.mem_cons, List.not_mem_nil, or_false] at ha
  rcases ha with rfl | rfl | rfl | rfl
  · exact wd_inR h.1
  · exact wd_inR h.2.1
  · exact wd_inR h.2.2.1
  · exact wd_inR h.2.2.2
theorem lesF_q {fn : FuncId} (hc : LesC P fn) : QOk P (lesF fn) := by
  intro f args h ds v h' hh
  unfold lesF at hh
  cases hb : Nat.beq f fn with
  | false => rw [hb] at hh; cases hh
  | true =>
    rw [hb] at hh
    have hf := Nat.eq_of_beq_eq_true hb
    subst hf
    simp only [cond_true] at hh
    split at hh
    · rename_i la lb
      split at hh
      · rename_i a b ha hb'
        cases hh
        refine ⟨⟨rfl, rfl, rfl, rfl, rfl⟩, fun e β _ hok hds => ?_⟩
        have oa : a.ok e := W4.ok_of ha (hok (.one (.agg la)) (by simp))
        have ob : b.ok e := W4.ok_of hb' (hok (.one (.agg lb)) (by simp))
        obtain ⟨x, hx, hxv, hxw⟩ := W4.num oa
        obtain ⟨y, hy, hyv, hyw⟩ := W4.num ob
        have cz : ∀ k, 0 ≤ (IE.b k).den e ∧ (IE.b k).den e ≤ 1 := fun k => by rw [den_b]; exact bi_bd _
        obtain ⟨e1, w1⟩ := sb_lin (hds (.sb h.ni h.nb a.a b.a (.c 0)) (by simp)) oa.1 ob.1 ⟨Int.le_refl 0, (by decide : (0 : Int) ≤ 1)⟩
        obtain ⟨e2, w2⟩ := sb_lin (hds (.sb (h.ni + 1) (h.nb + 1) a.b b.b (.b h.nb)) (by simp)) oa.2.1 ob.2.1 (cz _)
        obtain ⟨e3, w3⟩ := sb_lin (hds (.sb (h.ni + 2) (h.nb + 2) a.c b.c (.b (h.nb + 1))) (by simp)) oa.2.2.1 ob.2.2.1 (cz _)
        obtain ⟨e4, w4'⟩ := sb_lin (hds (.sb (h.ni + 3) (h.nb + 3) a.d b.d (.b (h.nb + 2))) (by simp)) oa.2.2.2 ob.2.2.2 (cz _)
        rw [den_b] at e2 e3 e4
        rw [den_c] at e1
        have key := borrow_end e1 e2 e3 e4
        have hk := hxv
        have hk2 := hyv
        unfold W4.val at hk hk2
        rw [hk, hk2] at key
        have hn : v4 (e.i h.ni) (e.i (h.ni + 1)) (e.i (h.ni + 2)) (e.i (h.ni + 3)) + 115792089237316195423570985008687907853269984665640564039457584007913129639936 * (1 - bi (e.b (h.nb + 3))) = ((x + RR - y : Nat) : Int) := by
          rw [key]; unfold RR at *; clear key e1 e2 e3 e4; omega
        have hw := w4_mod w1 w2 w3 w4' hn
        refine ⟨vs4_ok ⟨w1, w2, w3, w4'⟩, fun w0 w _ => ?_⟩
        simp only [List.map_cons, List.map_nil]
        rw [W4.agg_den ha, W4.agg_den hb', hxw, hyw]
        have hd : (SV.one (.agg (vs4 h.ni))).den β e = agN (x + RR - y) := cons_numV hw
        rw [hd]
        exact hc x y hx hy w
      · cases hh
    · cases hh
theorem sumF_q {fn : FuncId} (hc : SumC P fn) : QOk P (sumF fn) := by
  intro f args h ds v h' hh
  unfold sumF at hh
  cases hb : Nat.beq f fn with
  | false => rw [hb] at hh; cases hh
  | true =>
    rw [hb] at hh
    have hf := Nat.eq_of_beq_eq_true hb
    subst hf
    simp only [cond_true] at hh
    split at hh
    · rename_i la lb
      split at hh
      · rename_i a b ha hb'
        cases hh
        refine ⟨⟨rfl, rfl, rfl, rfl, rfl⟩, fun e β _ hok hds => ?_⟩
        have oa : a.ok e := W4.ok_of ha (hok (.one (.agg la)) (by simp))
        have ob : b.ok e := W4.ok_of hb' (hok (.one (.agg lb)) (by simp))
        obtain ⟨x, hx, hxv, hxw⟩ := W4.num oa
        obtain ⟨y, hy, hyv, hyw⟩ := W4.num ob
        have cz : ∀ k, 0 ≤ (IE.b k).den e ∧ (IE.b k).den e ≤ 1 := fun k => by rw [den_b]; exact bi_bd _
        obtain ⟨e1, w1⟩ := ad_lin (hds (.ad h.ni h.nb a.a b.a (.c 0)) (by simp)) oa.1 ob.1 ⟨Int.le_refl 0, (by decide : (0 : Int) ≤ 1)⟩
        obtain ⟨e2, w2⟩ := ad_lin (hds (.ad (h.ni + 1) (h.nb + 1) a.b b.b (.b h.nb)) (by simp)) oa.2.1 ob.2.1 (cz _)
        obtain ⟨e3, w3⟩ := ad_lin (hds (.ad (h.ni + 2) (h.nb + 2) a.c b.c (.b (h.nb + 1))) (by simp)) oa.2.2.1 ob.2.2.1 (cz _)
        obtain ⟨e4, w4'⟩ := ad_lin (hds (.ad (h.ni + 3) (h.nb + 3) a.d b.d (.b (h.nb + 2))) (by simp)) oa.2.2.2 ob.2.2.2 (cz _)
        rw [den_b] at e2 e3 e4
        rw [den_c] at e1
        have key := carry_end e1 e2 e3 e4
        have hk := hxv
        have hk2 := hyv
        unfold W4.val at hk hk2
        rw [hk, hk2] at key
        have hn : v4 (e.i h.ni) (e.i (h.ni + 1)) (e.i (h.ni + 2)) (e.i (h.ni + 3)) + 115792089237316195423570985008687907853269984665640564039457584007913129639936 * bi (e.b (h.nb + 3)) = ((x + y : Nat) : Int) := by
          rw [key]; rfl
        have hw := w4_mod w1 w2 w3 w4' hn
        have hcar : e.b (h.nb + 3) = decide (RR ≤ x + y) := by
          have h0 := v4_nonneg w1.1 w2.1 w3.1 w4'.1
          have h1 := v4_lt w1 w2 w3 w4'
          clear key e1 e2 e3 e4
          cases hbb : e.b (h.nb + 3) with
          | true =>
            rw [hbb] at hn
            simp only [bi, if_true] at hn
            exact (decide_eq_true (by unfold RR; omega)).symm
          | false =>
            rw [hbb] at hn
            simp only [bi, Bool.false_eq_true, if_false] at hn
            exact (decide_eq_false (by unfold RR; omega)).symm
        refine ⟨fun s hs => ?_, fun w0 w _ => ?_⟩
        · simp only [List.mem_cons, List.not_mem_nil, or_false] at hs
          rcases hs with rfl | rfl
          · exact vs4_ok ⟨w1, w2, w3, w4'⟩
          · exact trivial
        simp only [List.map_cons, List.map_nil]
        rw [W4.agg_den ha, W4.agg_den hb', hxw, hyw]
        have hd : (SV.tup [.agg (vs4 h.ni), .at (.bool (.v (h.nb + 3)))]).den β e = .tuple #[agN (x + y), .bool (decide (RR ≤ x + y))] := by
          simp only [SV.den, List.map_cons, List.map_nil]
          rw [cons_numV hw, ← hcar]
          rfl
        rw [hd]
        exact hc x y hx hy w
      · cases hh
    · cases hh
theorem prF_q {fn : FuncId} (hc : PrC P fn) : QOk P (prF fn) := by
  intro f args h ds v h' hh
  unfold prF at hh
  cases hb : Nat.beq f fn with
  | false => rw [hb] at hh; cases hh
  | true =>
    rw [hb] at hh
    have hf := Nat.eq_of_beq_eq_true hb
    subst hf
    simp only [cond_true] at hh
    split at hh
    · cases hh
      refine ⟨SameMem.refl _, fun e β _ _ _ => ⟨fun a ha => ?_, fun w0 w _ => hc w⟩⟩
      simp only [List.mem_cons, List.not_mem_nil, or_false] at ha
      rcases ha with rfl | rfl | rfl | rfl
      · exact wd_inR ⟨(by decide : (0 : Int) ≤ 4332616871279656263), (by decide : (4332616871279656263 : Int) < 18446744073709551616)⟩
      · exact wd_inR ⟨(by decide : (0 : Int) ≤ 10917124144477883021), (by decide : (10917124144477883021 : Int) < 18446744073709551616)⟩
      · exact wd_inR ⟨(by decide : (0 : Int) ≤ 13281191951274694749), (by decide : (13281191951274694749 : Int) < 18446744073709551616)⟩
      · exact wd_inR ⟨(by decide : (0 : Int) ≤ 3486998266802970665), (by decide : (3486998266802970665 : Int) < 18446744073709551616)⟩
    · cases hh
theorem maF_q {fn : FuncId} (hc : MadeC P fn) : QOk P (maF fn) := by
  intro f args h ds v h' hh
  unfold maF at hh
  cases hb : Nat.beq f fn with
  | false => rw [hb] at hh; cases hh
  | true =>
    rw [hb] at hh
    have hf := Nat.eq_of_beq_eq_true hb
    subst hf
    simp only [cond_true] at hh
    split at hh
    · rename_i la
      split at hh
      · rename_i a ha
        split at hh
        · rename_i d1 i h1 he
          cases hh
          obtain ⟨m1, s1⟩ := elP_sound he
          refine ⟨m1, fun e β hf hok hds => ?_⟩
          have oa : a.ok e := W4.ok_of ha (hok (.one (.agg la)) (by simp))
          have ia := s1 e hf oa hds
          refine ⟨fun s hs => ?_, fun w0 w _ => ?_⟩
          · simp only [List.mem_cons, List.not_mem_nil, or_false] at hs
            rcases hs with rfl | rfl
            · exact ems_ok _ _
            · exact trivial
          simp only [List.map_cons, List.map_nil]
          rw [W4.agg_den ha, is_words ia]
          exact hc (e.f i) w
        · cases hh
      · cases hh
    · cases hh
end
end Go.Sx
