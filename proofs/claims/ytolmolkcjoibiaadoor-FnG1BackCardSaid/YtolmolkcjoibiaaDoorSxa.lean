import Derived.Test.YtolmolkcjoibiaaDoorSqt
import Derived.Test.YtolmolkcjoibiaaDoorSi
/- Aids to the claim: what is shown here is said at each theorem. -/
namespace Go.Sx
open Go
set_option maxRecDepth 100000
/-! ### Points read out of bytes: what the walks compute -/
def wv : List Int → Int
  | [] => 0
  | b :: l => b + 256 * wv l
def lastOr : Nat → Nat → Nat → Nat
  | acc, _, 0 => acc
  | _, n, m + 1 => lastOr (n + 1) (n + 2) m
/-- Bytes put together by 'or'. -/
def tOr : List Nat → Nat → Nat → Nat → Tree Lf → Tree Lf
  | [], _, _, _, t => t
  | b :: bs, acc, n, s, t => .dn (.i n (.sh .shl .u64 (.v b) s)) (.dn (.i (n + 1) (.bt .or .u64 (.v acc) (.v n))) (tOr bs (n + 1) (n + 2) (s + 8) t))
theorem tOr_goal {e : Env} {Φ : Lf → Prop} {t : Tree Lf} : ∀ (bs : List Nat) (acc n s : Nat), s + 8 * bs.length ≤ 64 → 0 ≤ e.i acc ∧ e.i acc < 2 ^ s → (∀ b ∈ bs, 0 ≤ e.i b ∧ e.i b < 256) →
    (e.i (lastOr acc n bs.length) = e.i acc + 2 ^ s * wv (bs.map e.i) → t.goal e Φ) → (tOr bs acc n s t).goal e Φ
  | [], acc, n, s, _, _, _, k => k (by show e.i acc = e.i acc + 2 ^ s * 0; omega)
  | b :: bs, acc, n, s, hs, ha, hb, k => fun d1 d2 => by
    have d1 : e.i n = shI .shl .u64 (e.i b) s := d1
    have d2 : e.i (n + 1) = btI .or .u64 (e.i acc) (e.i n) := d2
    have hl : (b :: bs).length = bs.length + 1 := rfl
    rw [hl] at hs
    obtain ⟨b0, b1⟩ := hb b (by simp)
    obtain ⟨h1, h2, h3⟩ := or_byte s (by omega) ha.1 ha.2 b0 b1 d1 d2
    refine tOr_goal bs (n + 1) (n + 2) (s + 8) (by omega) ⟨h2, h3⟩ (fun x hx => hb x (by simp [hx])) fun hk => k ?_
    show e.i (lastOr (n + 1) (n + 2) bs.length) = _
    rw [hk, h1, List.map_cons, wv, Int.pow_add]
    have : (2 : Int) ^ 8 = 256 := rfl
    rw [this]
    grind
/-- Bytes put together by sums. -/
def lastSm : IE → Nat → Nat → IE
  | acc, _, 0 => acc
  | _, n, m + 1 => lastSm (.v (n + 1)) (n + 2) m
def tSu : List Nat → IE → Nat → Nat → Tree Lf → Tree Lf
  | [], _, _, _, t => t
  | b :: bs, acc, n, s, t => .dn (.i n (.sh .shl .u64 (.v b) s)) (.dn (.i (n + 1) (.ar .add .u64 acc (.v n))) (tSu bs (.v (n + 1)) (n + 2) (s + 8) t))
theorem tSu_goal {e : Env} {Φ : Lf → Prop} {t : Tree Lf} : ∀ (bs : List Nat) (acc : IE) (n s : Nat), s + 8 * bs.length ≤ 64 → 0 ≤ acc.den e ∧ acc.den e < 2 ^ s → (∀ b ∈ bs, 0 ≤ e.i b ∧ e.i b < 256) →
    ((lastSm acc n bs.length).den e = acc.den e + 2 ^ s * wv (bs.map e.i) → t.goal e Φ) → (tSu bs acc n s t).goal e Φ
  | [], acc, n, s, _, _, _, k => k (by show acc.den e = acc.den e + 2 ^ s * 0; omega)
  | b :: bs, acc, n, s, hs, ha, hb, k => fun d1 d2 => by
    have d1 : e.i n = shI .shl .u64 (e.i b) s := d1
    have d2 : e.i (n + 1) = IntKind.u64.wrap (acc.den e + e.i n) := d2
    have hl : (b :: bs).length = bs.length + 1 := rfl
    rw [hl] at hs
    obtain ⟨b0, b1⟩ := hb b (by simp)
    have hp : (0 : Int) < 2 ^ s := Int.pow_pos (by omega)
    have h8 : (2 : Int) ^ (s + 8) = 2 ^ s * 256 := by rw [Int.pow_add]; rfl
    have hp2 : (2 : Int) ^ s ≤ 2 ^ 56 := by exact_mod_cast Nat.pow_le_pow_right (show 0 < 2 by omega) (show s ≤ 56 by omega)
    have hbd : e.i b * 2 ^ s ≤ 255 * 2 ^ s := Int.mul_le_mul_of_nonneg_right (by omega) (Int.le_of_lt hp)
    have hb0 : 0 ≤ e.i b * 2 ^ s := Int.mul_nonneg b0 (Int.le_of_lt hp)
    rw [shlI s (by omega) ⟨hb0, by omega⟩] at d1
    have h1 : e.i (n + 1) = acc.den e + e.i b * 2 ^ s := by
      rw [d2, d1]
      exact wrap_id ⟨by omega, by omega⟩
    refine tSu_goal bs (.v (n + 1)) (n + 2) (s + 8) (by omega) ⟨by rw [den_v]; omega, by rw [den_v]; omega⟩ (fun x hx => hb x (by simp [hx])) fun hk => k ?_
    show (lastSm (.v (n + 1)) (n + 2) bs.length).den e = _
    rw [hk, den_v, h1, List.map_cons, wv, Int.pow_add]
    have : (2 : Int) ^ 8 = 256 := rfl
    rw [this]
    grind
/-! ### The trees -/
def zz : List Atom := (List.replicate 8 (.int .u64 (.c 0)))
def lfBad : Tree Lf := .leaf (.tup [.agg zz, .at (.int .i64 (.c 0)), .at (.bool (.c false))], [])
def lfPt (x y : Nat) : Tree Lf := .leaf (.tup [.agg (eps x ++ eps y), .at (.int .i64 (.c 32)), .at (.bool (.c true))], [])
def tZer : Nat → Nat → Tree Lf
  | 0, _ => .dn (.f 0 (.k 0)) (.dn (.f 1 (.k 0)) (lfPt 0 1))
  | n + 1, k => .br (.eq (.v k) (.c 0)) (tZer n (k + 1)) lfBad
def k3 : Nat := 19189087081672452771515617982829712558466570042205295677383279139847420703767
def kR1 : Nat := 6350874878119819312338956282401532409788428879151445726012394534686998597021
def tOnc (y n : Nat) : Tree Lf := .dn (.f n (.mul y y)) <| .dn (.f (n + 1) (.mul 2 2)) <| .dn (.f (n + 2) (.mul (n + 1) 2)) <| .dn (.f (n + 3) (.k k3)) <| .dn (.f (n + 4) (.k kR1)) <| .dn (.f (n + 5) (.mul (n + 3) (n + 4))) <|
  .dn (.f (n + 6) (.add (n + 2) (n + 5))) <| .br (.fe n (n + 6)) (lfPt 2 y) lfBad
def tChk (y n : Nat) : Tree Lf := .br (.fz 2) (.br (.fz y) (lfPt 2 y) (tOnc y n)) (tOnc y n)
def tEl : Tree Lf := .dn (.f 0 (.wm (.v 47) (.v 61) (.v 75) (.v 89))) <| .dn (.f 1 (.k kR1)) <| .dn (.f 2 (.mul 0 1)) <| .dn (.f 3 (.mul 2 2)) <| .dn (.f 4 (.mul 3 2)) <| .dn (.f 5 (.k k3)) <| .dn (.f 6 (.k kR1)) <| .dn (.f 7 (.mul 5 6)) <|
  .dn (.f 8 (.add 4 7)) <| .dn (.f 9 (.fn 7 [8])) <| .dn (.f 10 (.mul 9 9)) <|
  .br (.fe 10 8) (.br (.fn 0 [9]) (.br (.eq (.v 32) (.c 128)) (.dn (.f 11 (.neg 9)) (tChk 11 12)) (tChk 9 11)) (.br (.eq (.v 32) (.c 192)) (.dn (.f 11 (.neg 9)) (tChk 11 12)) (tChk 9 11))) lfBad
def tGp : Tree Lf := .dn (.i 32 (.bt .and .u8 (.v 0) (.c 192))) <| .br (.eq (.v 32) (.c 0)) lfBad <| .br (.eq (.v 32) (.c 64)) (.dn (.i 33 (.bt .and .u8 (.v 0) (.c 63))) (.br (.eq (.v 33) (.c 0)) (tZer 31 1) lfBad)) <|
  .dn (.i 33 (.bt .and .u8 (.v 0) (.c 63))) <| tOr [30, 29, 28, 27, 26, 25, 24] 31 34 8 <| tOr [22, 21, 20, 19, 18, 17, 16] 23 48 8 <| tOr [14, 13, 12, 11, 10, 9, 8] 15 62 8 <| tOr [6, 5, 4, 3, 2, 1, 33] 7 76 8 <|
  .br (.low (.v 47) (.v 61) (.v 75) (.v 89)) tEl lfBad
def lfBad2 : Tree Lf := .leaf (.tup [.agg zz, .at (.bool (.c false))], [])
def vsN : List Atom := [.int .u64 (.v 48), .int .u64 (.v 64), .int .u64 (.v 80), .int .u64 (.v 96)]
def lfP2 (y : Nat) : Tree Lf := .leaf (.tup [.agg (vsN ++ eps y), .at (.bool (.c true))], [])
def tSp : Tree Lf := .dn (.i 32 (.dv .rem .u8 (.v 0) 64)) <| tSu [31, 30, 29, 28, 27, 26, 25, 24] (.c 0) 33 0 <| tSu [23, 22, 21, 20, 19, 18, 17, 16] (.c 0) 49 0 <| tSu [15, 14, 13, 12, 11, 10, 9, 8] (.c 0) 65 0 <| tSu [7, 6, 5, 4, 3, 2, 1, 32] (.c 0) 81 0 <|
  .br (.low (.v 48) (.v 64) (.v 80) (.v 96)) (.dn (.f 0 (.w (.v 48) (.v 64) (.v 80) (.v 96))) <| .dn (.f 1 (.w (.v 48) (.v 64) (.v 80) (.v 96))) <| .dn (.f 2 (.mul 0 1)) <| .dn (.f 3 (.w (.v 48) (.v 64) (.v 80) (.v 96))) <| .dn (.f 4 (.mul 3 2)) <|
    .dn (.f 5 (.k 3)) <| .dn (.f 6 (.add 4 5)) <| .dn (.f 7 (.fn 7 [6])) <| .dn (.f 8 (.mul 7 7)) <| .br (.fe 8 6)
      (.br (.fn 0 [7]) (.br (.lt (.v 0) (.c 192)) (.dn (.f 9 (.k 0)) <| .dn (.f 10 (.sub 9 7)) <| lfP2 10) (lfP2 7)) (.br (.lt (.v 0) (.c 192)) (lfP2 7) (.dn (.f 9 (.k 0)) <| .dn (.f 10 (.sub 9 7)) <| lfP2 10))) lfBad2) lfBad2
def by32 : List Atom := (List.range 32).map fun i => .int .u8 (.v i)
def gl8 (l : List Atom) (t : TypeId) : List (List Atom) := [[], l, [], [], [], [], [], [.iface t (.ptr ⟨.ext 6, 0⟩)]]
def sl32 : SV := .one (.at (.slice ⟨.ext 1, 0⟩ 32 32))
end Go.Sx
namespace Go.Sx
open Go
set_option maxRecDepth 100000
/-! ### Points read out of bytes: what they are -/
def bL (g : Nat → Fq) : List Fq := (List.range 32).map g
def bT (g : Nat → Fq) : List Fq := (List.range' 1 31).map g
theorem bL_eq (g : Nat → Fq) : bL g = g 0 :: bT g := rfl
/-- The bytes of a call. -/
def Bys (e : Env) (g : Nat → Fq) : Prop := ∀ j, j < 32 → e.i j = ((g j).val : Nat) ∧ (g j).val < 256
def gV (o : Option P1) : Value := .tuple #[elsV [(o.getD (0, 0)).1, (o.getD (0, 0)).2], .int .i64 (if o.isSome then 32 else 0), .bool o.isSome]
def sV (o : Option P1) : Value := .tuple #[elsV [(o.getD (0, 0)).1, (o.getD (0, 0)).2], .bool o.isSome]
abbrev Gv (v : Value) (l : Lf) : Prop := (∀ β, ∀ e : Env, True → l.1.den β e = v) ∧ l.2 = []
section
variable {e : Env} {g : Nat → Fq}
theorem bad_goal {o : Option P1} (h : o = none) : lfBad.goal e fun l => (∀ β, l.1.den β e = gV o) ∧ l.2 = [] := ⟨fun β => by subst h; rfl, rfl⟩
theorem pt_goal {o : Option P1} {x y : Nat} (h : o = some (e.f x, e.f y)) : (lfPt x y).goal e fun l => (∀ β, l.1.den β e = gV o) ∧ l.2 = [] := ⟨fun β => by subst h; rfl, rfl⟩
theorem bad2_goal {o : Option P1} (h : o = none) : lfBad2.goal e fun l => (∀ β, l.1.den β e = sV o) ∧ l.2 = [] := ⟨fun β => by subst h; rfl, rfl⟩
theorem bnum_zero : ∀ {l : List Fq} {n : Nat}, bnum l n = 0 ↔ n = 0 ∧ ∀ x ∈ l, x.val = 0
  | [], n => by simp [bnum]
  | x :: l, n => by
    rw [bnum, bnum_zero]
    simp only [List.mem_cons, forall_eq_or_imp]
    constructor
    · rintro ⟨h1, h2⟩
      exact ⟨by omega, by omega, h2⟩
    · rintro ⟨h1, h2, h3⟩
      exact ⟨by omega, h3⟩
theorem eq_den {x y : IE} {t : Bool} (h : (BE.eq x y).den e = t) : (x.den e = y.den e) ↔ t = true := by
  have h : (x.den e == y.den e) = t := h
  rw [← h, beq_iff_eq]
theorem and192 : ∀ b : Nat, b < 256 → btI .and .u8 (b : Int) 192 = ((b / 64 * 64 : Nat) : Int) := by
  have : ∀ b : Fin 256, btI .and .u8 ((b.val : Nat) : Int) 192 = ((b.val / 64 * 64 : Nat) : Int) := by decide +kernel
  exact fun b hb => this ⟨b, hb⟩
theorem and63 : ∀ b : Nat, b < 256 → btI .and .u8 (b : Int) 63 = ((b % 64 : Nat) : Int) := by
  have : ∀ b : Fin 256, btI .and .u8 ((b.val : Nat) : Int) 63 = ((b.val % 64 : Nat) : Int) := by decide +kernel
  exact fun b hb => this ⟨b, hb⟩
theorem rem64 : ∀ b : Nat, b < 256 → dvI .rem .u8 (b : Int) 64 = ((b % 64 : Nat) : Int) := by
  have : ∀ b : Fin 256, dvI .rem .u8 ((b.val : Nat) : Int) 64 = ((b.val % 64 : Nat) : Int) := by decide +kernel
  exact fun b hb => this ⟨b, hb⟩
theorem zer_goal (hb : Bys e g) (h0 : ¬ (g 0).val < 64) (h1 : (g 0).val < 128) (h2 : (g 0).val = 64) : ∀ (n k : Nat), n + k = 32 → 1 ≤ k → (∀ j, 1 ≤ j → j < k → (g j).val = 0) → (tZer n k).goal e fun l => (∀ β, l.1.den β e = gV (gP (bL g))) ∧ l.2 = []
  | 0, k, hk, _, hz => fun d0 d1 => by
    have d0 : e.f 0 = 0 := d0
    have d1 : e.f 1 = 0 := d1
    refine pt_goal ?_
    have ha : ∀ x ∈ bT g, x.val = 0 := fun x hx => by
      obtain ⟨j, hj, rfl⟩ := List.mem_map.1 hx
      rw [List.mem_range'_1] at hj
      exact hz j hj.1 (by omega)
    rw [bL_eq, gP, if_neg h0, if_pos h1, if_pos ⟨h2, bnum_zero.2 ⟨rfl, ha⟩⟩, d0, d1]
  | n + 1, k, hk, h1k, hz => ⟨fun c => by
      have c := (eq_den c).2 rfl
      have c : e.i k = 0 := c
      have hk0 := hb k (by omega)
      refine zer_goal hb h0 h1 h2 n (k + 1) (by omega) (by omega) fun j hj hjk => ?_
      rcases Nat.lt_or_ge j k with h | h
      · exact hz j hj h
      · have : j = k := by omega
        subst this
        omega, fun c => by
      have c : ¬ e.i k = 0 := fun h => by cases (eq_den c).1 h
      have hk0 := hb k (by omega)
      refine bad_goal ?_
      rw [bL_eq, gP, if_neg h0, if_pos h1, if_neg]
      rintro ⟨_, h⟩
      have := (bnum_zero.1 h).2 (g k) (List.mem_map.2 ⟨k, by rw [List.mem_range'_1]; omega, rfl⟩)
      rw [this] at hk0
      exact c hk0.1⟩
theorem k3_v {a b : Fq} (ha : a = (FD.k k3).ev e) (hb : b = (FD.k kR1).ev e) : a * b = 3 := by
  subst ha hb
  show Fin.ofNat q k3 * Fin.ofNat q kR1 = 3
  decide +kernel
theorem onc_goal {x y r : Fq} {o : Option P1} {yi n : Nat} (hx : e.f 2 = x) (hy : e.f yi = y) (hr : r = x * (x * x) + 3) (hyy : y * y = r) (ho : o = some (x, y)) : (tOnc yi n).goal e fun l => (∀ β, l.1.den β e = gV o) ∧ l.2 = [] := fun d0 d1 d2 d3 d4 d5 d6 => by
  have d0 : e.f n = e.f yi * e.f yi := d0
  have d1 : e.f (n + 1) = e.f 2 * e.f 2 := d1
  have d2 : e.f (n + 2) = e.f (n + 1) * e.f 2 := d2
  have d5 : e.f (n + 5) = e.f (n + 3) * e.f (n + 4) := d5
  have d6 : e.f (n + 6) = e.f (n + 2) + e.f (n + 5) := d6
  rw [k3_v d3 d4] at d5
  rw [d2, d1, d5, hx] at d6
  rw [hy, hyy] at d0
  refine ⟨fun _ => pt_goal (by rw [ho, hx, hy]), fun c => ?_⟩
  have c := fe_f c
  exact absurd (by rw [d0, d6, hr]; grind) c
theorem chk_goal {x y r : Fq} {o : Option P1} {yi n : Nat} (hx : e.f 2 = x) (hy : e.f yi = y) (hr : r = x * (x * x) + 3) (hyy : y * y = r) (ho : o = some (x, y)) : (tChk yi n).goal e fun l => (∀ β, l.1.den β e = gV o) ∧ l.2 = [] :=
  ⟨fun _ => ⟨fun _ => pt_goal (by rw [ho, hx, hy]), fun _ => onc_goal hx hy hr hyy ho⟩, fun _ => onc_goal hx hy hr hyy ho⟩
theorem kR1_v {a b : Fq} {N : Nat} (ha : a = unmont N) (hb : b = (FD.k kR1).ev e) : a * b = Fin.ofNat q N := by
  subst ha hb
  have h : Fin.ofNat q 20988524275117001072002809824448087578619730785600314334253784976379291040311 * Fin.ofNat q kR1 = (1 : Fq) := by decide +kernel
  show Fin.ofNat q N * Fin.ofNat q 20988524275117001072002809824448087578619730785600314334253784976379291040311 * Fin.ofNat q kR1 = _
  rw [show ∀ a b c : Fq, a * b * c = a * (b * c) by intro a b c; grind, h]
  grind
theorem rP_eq {N : Nat} {x r y : Fq} (hN : N < q) (hx : Fin.ofNat q N = x) (hr : r = x * (x * x) + 3) (hy : y = fpow r EX) (b : Bool) : rP b N = if y * y = r then some (x, if decide (q < 2 * y.val) = b then y else -y) else none := by
  unfold EX at hy
  unfold rP
  rw [if_pos hN]
  dsimp only
  rw [hx, ← hr, ← hy]
theorem el_goal {N : Nat} (hN : N < q) (hb : Bys e g) (hv : v4 (e.i 47) (e.i 61) (e.i 75) (e.i 89) = (N : Nat)) (h32 : e.i 32 = (((g 0).val / 64 * 64 : Nat) : Int)) (h128 : 128 ≤ (g 0).val) :
    tEl.goal e fun l => (∀ β, l.1.den β e = gV (rP (decide (192 ≤ (g 0).val)) N)) ∧ l.2 = [] := fun d0 d1 d2 d3 d4 d5 d6 d7 d8 d9 d10 => by
  have d0 : e.f 0 = unmont (v4 (e.i 47) (e.i 61) (e.i 75) (e.i 89)).toNat := d0
  have d2 : e.f 2 = e.f 0 * e.f 1 := d2
  have d3 : e.f 3 = e.f 2 * e.f 2 := d3
  have d4 : e.f 4 = e.f 3 * e.f 2 := d4
  have d7 : e.f 7 = e.f 5 * e.f 6 := d7
  have d8 : e.f 8 = e.f 4 + e.f 7 := d8
  have d9 : e.f 9 = fpow (e.f 8) EX := d9
  have d10 : e.f 10 = e.f 9 * e.f 9 := d10
  rw [hv, Int.toNat_natCast] at d0
  rw [kR1_v d0 d1] at d2
  rw [k3_v d5 d6] at d7
  have hb0 := hb 0 (by omega)
  generalize hx : Fin.ofNat q N = x at d2
  have hr : e.f 8 = x * (x * x) + 3 := by rw [d8, d4, d3, d7, d2]; grind
  generalize hrr : e.f 8 = r at d9 hr
  generalize hy : e.f 9 = y at d9 d10
  have hrP : ∀ b, rP b N = if y * y = r then some (x, if decide (q < 2 * y.val) = b then y else -y) else none := rP_eq hN hx hr d9
  refine ⟨fun c => ?_, fun c => ?_⟩
  · have c := fe_t c
    rw [d10, hrr] at c
    refine ⟨fun c0 => ?_, fun c0 => ?_⟩
    · have c0 : decide (q < 2 * (e.f 9).val) = true := c0
      rw [hy] at c0
      refine ⟨fun c1 => fun d11 => ?_, fun c1 => ?_⟩
      · have c1 : e.i 32 = 128 := (eq_den c1).2 rfl
        have d11 : e.f 11 = - e.f 9 := d11
        rw [hy] at d11
        exact chk_goal (y := -y) d2 d11 hr (by rw [← c]; grind) (by rw [hrP, if_pos c, c0, decide_eq_false (by omega)]; rfl)
      · have c1 : ¬ e.i 32 = 128 := fun h => by cases (eq_den c1).1 h
        exact chk_goal d2 hy hr c (by rw [hrP, if_pos c, c0, decide_eq_true (by omega)]; rfl)
    · have c0 : decide (q < 2 * (e.f 9).val) = false := c0
      rw [hy] at c0
      refine ⟨fun c1 => fun d11 => ?_, fun c1 => ?_⟩
      · have c1 : e.i 32 = 192 := (eq_den c1).2 rfl
        have d11 : e.f 11 = - e.f 9 := d11
        rw [hy] at d11
        exact chk_goal (y := -y) d2 d11 hr (by rw [← c]; grind) (by rw [hrP, if_pos c, c0, decide_eq_true (by omega)]; rfl)
      · have c1 : ¬ e.i 32 = 192 := fun h => by cases (eq_den c1).1 h
        exact chk_goal d2 hy hr c (by rw [hrP, if_pos c, c0, decide_eq_false (by omega)]; rfl)
  · have c := fe_f c
    rw [d10, hrr] at c
    exact bad_goal (by rw [hrP, if_neg c])
theorem bT_num (hb : Bys e g) {h : Int} {m : Nat} (hm : h = (m : Nat)) {a b c d : Int} (ha : a = wv ([31, 30, 29, 28, 27, 26, 25, 24].map e.i)) (hb' : b = wv ([23, 22, 21, 20, 19, 18, 17, 16].map e.i)) (hc : c = wv ([15, 14, 13, 12, 11, 10, 9, 8].map e.i)) (hd : d = wv ([7, 6, 5, 4, 3, 2, 1].map e.i ++ [h])) :
    v4 a b c d = (bnum (bT g) m : Nat) := by
  have hs : ∀ j, j < 32 → e.i j = ((g j).val : Nat) := fun j hj => (hb j hj).1
  subst ha hb' hc hd hm
  simp only [List.map_cons, List.map_nil, List.cons_append, List.nil_append, wv, hs 1 (by omega), hs 2 (by omega), hs 3 (by omega), hs 4 (by omega), hs 5 (by omega), hs 6 (by omega), hs 7 (by omega), hs 8 (by omega), hs 9 (by omega), hs 10 (by omega), hs 11 (by omega), hs 12 (by omega), hs 13 (by omega), hs 14 (by omega), hs 15 (by omega), hs 16 (by omega), hs 17 (by omega), hs 18 (by omega), hs 19 (by omega), hs 20 (by omega), hs 21 (by omega), hs 22 (by omega), hs 23 (by omega), hs 24 (by omega), hs 25 (by omega), hs 26 (by omega), hs 27 (by omega), hs 28 (by omega), hs 29 (by omega), hs 30 (by omega), hs 31 (by omega)]
  show _ = ((bnum [g 1, g 2, g 3, g 4, g 5, g 6, g 7, g 8, g 9, g 10, g 11, g 12, g 13, g 14, g 15, g 16, g 17, g 18, g 19, g 20, g 21, g 22, g 23, g 24, g 25, g 26, g 27, g 28, g 29, g 30, g 31] m : Nat) : Int)
  simp only [bnum]
  unfold v4
  push_cast
  generalize (g 1).val = a1, (g 2).val = a2, (g 3).val = a3, (g 4).val = a4, (g 5).val = a5, (g 6).val = a6, (g 7).val = a7, (g 8).val = a8, (g 9).val = a9, (g 10).val = a10, (g 11).val = a11, (g 12).val = a12, (g 13).val = a13, (g 14).val = a14, (g 15).val = a15, (g 16).val = a16
  generalize (g 17).val = a17, (g 18).val = a18, (g 19).val = a19, (g 20).val = a20, (g 21).val = a21, (g 22).val = a22, (g 23).val = a23, (g 24).val = a24, (g 25).val = a25, (g 26).val = a26, (g 27).val = a27, (g 28).val = a28, (g 29).val = a29, (g 30).val = a30, (g 31).val = a31
  omega
theorem gp_goal (hb : Bys e g) : tGp.goal e fun l => (∀ β, l.1.den β e = gV (gP (bL g))) ∧ l.2 = [] := fun d32 => by
  have hb0 := hb 0 (by omega)
  have d32 : e.i 32 = btI .and .u8 (e.i 0) 192 := d32
  rw [hb0.1, and192 _ hb0.2] at d32
  refine ⟨fun c => ?_, fun c => ?_⟩
  · have c : e.i 32 = 0 := (eq_den c).2 rfl
    exact bad_goal (by rw [bL_eq, gP, if_pos (by omega)])
  have c : ¬ e.i 32 = 0 := fun h => by cases (eq_den c).1 h
  have h64 : ¬ (g 0).val < 64 := by omega
  refine ⟨fun c1 => fun d33 => ?_, fun c1 => fun d33 => ?_⟩
  · have c1 : e.i 32 = 64 := (eq_den c1).2 rfl
    have d33 : e.i 33 = btI .and .u8 (e.i 0) 63 := d33
    rw [hb0.1, and63 _ hb0.2] at d33
    refine ⟨fun c2 => ?_, fun c2 => ?_⟩
    · have c2 : e.i 33 = 0 := (eq_den c2).2 rfl
      exact zer_goal hb h64 (by omega) (by omega) 31 1 rfl (by omega) fun j h1 h2 => by omega
    · have c2 : ¬ e.i 33 = 0 := fun h => by cases (eq_den c2).1 h
      exact bad_goal (by rw [bL_eq, gP, if_neg h64, if_pos (by omega), if_neg (by rintro ⟨h, _⟩; omega)])
  have c1 : ¬ e.i 32 = 64 := fun h => by cases (eq_den c1).1 h
  have d33 : e.i 33 = btI .and .u8 (e.i 0) 63 := d33
  rw [hb0.1, and63 _ hb0.2] at d33
  have h128 : 128 ≤ (g 0).val := by omega
  have hbs : ∀ j, j < 32 → 0 ≤ e.i j ∧ e.i j < 256 := fun j hj => by have := hb j hj; omega
  refine tOr_goal _ 31 34 8 (by decide) (hbs 31 (by omega)) (fun b h => hbs b (by simp at h; omega)) fun w0 => ?_
  refine tOr_goal _ 23 48 8 (by decide) (hbs 23 (by omega)) (fun b h => hbs b (by simp at h; omega)) fun w1 => ?_
  refine tOr_goal _ 15 62 8 (by decide) (hbs 15 (by omega)) (fun b h => hbs b (by simp at h; omega)) fun w2 => ?_
  refine tOr_goal _ 7 76 8 (by decide) (hbs 7 (by omega)) (fun b h => by
    simp only [List.mem_cons, List.not_mem_nil, or_false] at h
    rcases h with rfl | rfl | rfl | rfl | rfl | rfl | rfl
    · exact hbs 6 (by omega)
    · exact hbs 5 (by omega)
    · exact hbs 4 (by omega)
    · exact hbs 3 (by omega)
    · exact hbs 2 (by omega)
    · exact hbs 1 (by omega)
    · omega) fun w3 => ?_
  have hv := bT_num hb (h := e.i 33) (m := (g 0).val % 64) d33 (a := e.i 47) (b := e.i 61) (c := e.i 75) (d := e.i 89) w0 w1 w2 w3
  have hgp : gP (bL g) = rP (decide (192 ≤ (g 0).val)) (bnum (bT g) ((g 0).val % 64)) := by
    rw [bL_eq, gP, if_neg h64, if_neg (by omega), sP]
  rw [hgp]
  refine ⟨fun c2 => ?_, fun c2 => ?_⟩
  · have c2 : v4 (e.i 47) (e.i 61) (e.i 75) (e.i 89) < _ := of_decide_eq_true c2
    rw [hv] at c2
    exact el_goal (by unfold q; omega) hb hv d32 h128
  · have c2 : ¬ v4 (e.i 47) (e.i 61) (e.i 75) (e.i 89) < _ := of_decide_eq_false c2
    rw [hv] at c2
    exact bad_goal (by rw [rP, if_neg (by unfold q; omega)])
end
end Go.Sx
namespace Go.Sx
open Go
set_option maxRecDepth 100000
section
variable {e : Env} {g : Nat → Fq}
theorem wv_bd : ∀ (l : List Int), (∀ b ∈ l, 0 ≤ b ∧ b < 256) → 0 ≤ wv l ∧ wv l < 256 ^ l.length
  | [], _ => ⟨by decide, by decide⟩
  | b :: l, h => by
    obtain ⟨h1, h2⟩ := h b (by simp)
    obtain ⟨h3, h4⟩ := wv_bd l fun x hx => h x (by simp [hx])
    rw [wv, List.length_cons, Int.pow_succ]
    constructor <;> omega
theorem word_sm {e : Env} {l : List Nat} {a : Int} (ha : a = 0 + 2 ^ 0 * wv (l.map e.i)) (hl : l.length = 8) (hb : ∀ b ∈ l, 0 ≤ e.i b ∧ e.i b < 256) : a = wv (l.map e.i) ∧ Wd a := by
  have h := wv_bd (l.map e.i) (fun b hb' => by
    obtain ⟨j, hj, rfl⟩ := List.mem_map.1 hb'
    exact hb j hj)
  rw [List.length_map, hl] at h
  have h1 : (2 : Int) ^ 0 = 1 := rfl
  rw [h1] at ha
  have : (256 : Int) ^ 8 = 18446744073709551616 := rfl
  exact ⟨by omega, by omega, by omega⟩
theorem p2_goal {o : Option P1} {N y : Nat} (hN : N < q) (hw : e.i 48 = w4 N 0 ∧ e.i 64 = w4 N 1 ∧ e.i 80 = w4 N 2 ∧ e.i 96 = w4 N 3) (h : o = some (Fin.ofNat q N, e.f y)) : (lfP2 y).goal e fun l => (∀ β, l.1.den β e = sV o) ∧ l.2 = [] := ⟨fun β => by
  subst h
  show Value.tuple #[.agg #[.int .u64 (e.i 48), .int .u64 (e.i 64), .int .u64 (e.i 80), .int .u64 (e.i 96), .int .u64 (w4 (e.f y).val 0 : Nat), .int .u64 (w4 (e.f y).val 1 : Nat), .int .u64 (w4 (e.f y).val 2 : Nat), .int .u64 (w4 (e.f y).val 3 : Nat)], .bool true] = _
  have hv : (Fin.ofNat q N).val = N := Nat.mod_eq_of_lt hN
  rw [hw.1, hw.2.1, hw.2.2.1, hw.2.2.2]
  have : sV (some (Fin.ofNat q N, e.f y)) = Value.tuple #[.agg (epV (Fin.ofNat q N) ++ epV (e.f y)).toArray, .bool true] := rfl
  rw [this]
  unfold epV
  rw [hv]
  rfl, rfl⟩
theorem sp_goal (hb : Bys e g) : tSp.goal e fun l => (∀ β, l.1.den β e = sV (sP (bL g))) ∧ l.2 = [] := fun d32 => by
  have hb0 := hb 0 (by omega)
  have d32 : e.i 32 = dvI .rem .u8 (e.i 0) 64 := d32
  rw [hb0.1, rem64 _ hb0.2] at d32
  have hbs : ∀ j, j < 32 → 0 ≤ e.i j ∧ e.i j < 256 := fun j hj => by have := hb j hj; omega
  have hz : 0 ≤ (IE.c 0).den e ∧ (IE.c 0).den e < 2 ^ 0 := ⟨Int.le_refl 0, by show (0 : Int) < 2 ^ 0; decide⟩
  have b0 : ∀ b ∈ [31, 30, 29, 28, 27, 26, 25, 24], 0 ≤ e.i b ∧ e.i b < 256 := fun b h => hbs b (by simp at h; omega)
  have b1 : ∀ b ∈ [23, 22, 21, 20, 19, 18, 17, 16], 0 ≤ e.i b ∧ e.i b < 256 := fun b h => hbs b (by simp at h; omega)
  have b2 : ∀ b ∈ [15, 14, 13, 12, 11, 10, 9, 8], 0 ≤ e.i b ∧ e.i b < 256 := fun b h => hbs b (by simp at h; omega)
  have b3 : ∀ b ∈ [7, 6, 5, 4, 3, 2, 1, 32], 0 ≤ e.i b ∧ e.i b < 256 := fun b h => by
    simp only [List.mem_cons, List.not_mem_nil, or_false] at h
    rcases h with rfl | rfl | rfl | rfl | rfl | rfl | rfl | rfl
    · exact hbs 7 (by omega)
    · exact hbs 6 (by omega)
    · exact hbs 5 (by omega)
    · exact hbs 4 (by omega)
    · exact hbs 3 (by omega)
    · exact hbs 2 (by omega)
    · exact hbs 1 (by omega)
    · omega
  refine tSu_goal _ (.c 0) 33 0 (by decide) hz b0 fun w0 => ?_
  refine tSu_goal _ (.c 0) 49 0 (by decide) hz b1 fun w1 => ?_
  refine tSu_goal _ (.c 0) 65 0 (by decide) hz b2 fun w2 => ?_
  refine tSu_goal _ (.c 0) 81 0 (by decide) hz b3 fun w3 => ?_
  obtain ⟨w0, k0⟩ := word_sm (a := e.i 48) w0 rfl b0
  obtain ⟨w1, k1⟩ := word_sm (a := e.i 64) w1 rfl b1
  obtain ⟨w2, k2⟩ := word_sm (a := e.i 80) w2 rfl b2
  obtain ⟨w3, k3'⟩ := word_sm (a := e.i 96) w3 rfl b3
  have hv := bT_num hb (h := e.i 32) (m := (g 0).val % 64) d32 (a := e.i 48) (b := e.i 64) (c := e.i 80) (d := e.i 96) w0 w1 w2 w3
  have hws := w4_of k0 k1 k2 k3' hv
  have hsp : sP (bL g) = rP (decide (192 ≤ (g 0).val)) (bnum (bT g) ((g 0).val % 64)) := by rw [bL_eq, sP]
  rw [hsp]
  generalize bnum (bT g) ((g 0).val % 64) = N at hv hws
  refine ⟨fun c => ?_, fun c => ?_⟩
  · have c : v4 (e.i 48) (e.i 64) (e.i 80) (e.i 96) < _ := of_decide_eq_true c
    rw [hv] at c
    have hN : N < q := by unfold q; omega
    intro d0 d1 d2 d3 d4 d5 d6 d7 d8
    have d0 : e.f 0 = Fin.ofNat q (v4 (e.i 48) (e.i 64) (e.i 80) (e.i 96)).toNat := d0
    have d1 : e.f 1 = Fin.ofNat q (v4 (e.i 48) (e.i 64) (e.i 80) (e.i 96)).toNat := d1
    have d3 : e.f 3 = Fin.ofNat q (v4 (e.i 48) (e.i 64) (e.i 80) (e.i 96)).toNat := d3
    have d2 : e.f 2 = e.f 0 * e.f 1 := d2
    have d4 : e.f 4 = e.f 3 * e.f 2 := d4
    have d5 : e.f 5 = 3 := d5
    have d6 : e.f 6 = e.f 4 + e.f 5 := d6
    have d7 : e.f 7 = fpow (e.f 6) EX := d7
    have d8 : e.f 8 = e.f 7 * e.f 7 := d8
    rw [hv, Int.toNat_natCast] at d0 d1 d3
    rw [d0, d1] at d2
    rw [d3, d2] at d4
    rw [d4, d5] at d6
    generalize hx : Fin.ofNat q N = x at d6
    generalize hrr : e.f 6 = r at d7 d6
    generalize hy : e.f 7 = y at d7 d8
    have hrP : ∀ b, rP b N = if y * y = r then some (x, if decide (q < 2 * y.val) = b then y else -y) else none := rP_eq hN hx d6 d7
    refine ⟨fun c => ?_, fun c => ?_⟩
    · have c := fe_t c
      rw [d8, hrr] at c
      have hneg : e.f 9 = 0 → e.f 10 = e.f 9 - e.f 7 → e.f 10 = -y := fun h1 h2 => by rw [h2, h1, hy]; grind
      have key : ∀ {b : Bool} {k : Nat}, (BE.lt (.v 0) (.c 192)).den e = b → (if decide (q < 2 * y.val) = !b then y else -y) = e.f k → (lfP2 k).goal e fun l => (∀ β, l.1.den β e = sV (rP (decide (192 ≤ (g 0).val)) N)) ∧ l.2 = [] := fun {b k} hb' hk => by
        refine p2_goal hN hws ?_
        have : decide (192 ≤ (g 0).val) = !b := by
          have h : decide (e.i 0 < 192) = b := hb'
          rw [← h, hb0.1]
          by_cases h9 : 192 ≤ (g 0).val
          · rw [decide_eq_true h9, decide_eq_false (by omega)]; rfl
          · rw [decide_eq_false h9, decide_eq_true (by omega)]; rfl
        rw [hrP, if_pos c, this, hk, hx]
      refine ⟨fun c0 => ?_, fun c0 => ?_⟩
      · have c0 : decide (q < 2 * (e.f 7).val) = true := c0
        rw [hy] at c0
        exact ⟨fun c1 d9 d10 => key c1 (by rw [c0, hneg d9 d10]; rfl), fun c1 => key c1 (by rw [c0, hy]; rfl)⟩
      · have c0 : decide (q < 2 * (e.f 7).val) = false := c0
        rw [hy] at c0
        exact ⟨fun c1 => key c1 (by rw [c0, hy]; rfl), fun c1 d9 d10 => key c1 (by rw [c0, hneg d9 d10]; rfl)⟩
    · have c := fe_f c
      rw [d8, hrr] at c
      exact bad2_goal (by rw [hrP, if_neg c])
  · have c : ¬ v4 (e.i 48) (e.i 64) (e.i 80) (e.i 96) < _ := of_decide_eq_false c
    rw [hv] at c
    exact bad2_goal (by rw [rP, if_neg (by unfold q; omega)])
end
end Go.Sx
