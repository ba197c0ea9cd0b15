import Derived.Test.YtolmolkcjoibiaaDoorSxb
import Derived.Test.YtolmolkcjoibiaaDoorSxc
/- Aids to the claim: what is shown here is said at each theorem. -/
namespace Go.Sx
open Go
set_option maxRecDepth 100000
/-! ### Points read out of 64 bytes -/
def tInf (B : Nat) : Tree Lf := .dn (.i (B + 1) (.bt .and .u8 (.v 0) (.c 63))) (.br (.eq (.v (B + 1)) (.c 0)) (tZer 31 1) lfBad)
def tElB (B : Nat) : Tree Lf := .dn (.f 0 (.wm (.v (B + 15)) (.v (B + 29)) (.v (B + 43)) (.v (B + 57)))) <| .dn (.f 1 (.k kR1)) <| .dn (.f 2 (.mul 0 1)) <| .dn (.f 3 (.mul 2 2)) <| .dn (.f 4 (.mul 3 2)) <| .dn (.f 5 (.k k3)) <| .dn (.f 6 (.k kR1)) <| .dn (.f 7 (.mul 5 6)) <|
  .dn (.f 8 (.add 4 7)) <| .dn (.f 9 (.fn 7 [8])) <| .dn (.f 10 (.mul 9 9)) <|
  .br (.fe 10 8) (.br (.fn 0 [9]) (.br (.eq (.v B) (.c 128)) (.dn (.f 11 (.neg 9)) (tChk 11 12)) (tChk 9 11)) (.br (.eq (.v B) (.c 192)) (.dn (.f 11 (.neg 9)) (tChk 11 12)) (tChk 9 11))) lfBad
def tCmp (B : Nat) : Tree Lf := .dn (.i (B + 1) (.bt .and .u8 (.v 0) (.c 63))) <| tOr [30, 29, 28, 27, 26, 25, 24] 31 (B + 2) 8 <| tOr [22, 21, 20, 19, 18, 17, 16] 23 (B + 16) 8 <| tOr [14, 13, 12, 11, 10, 9, 8] 15 (B + 30) 8 <| tOr [6, 5, 4, 3, 2, 1, B + 1] 7 (B + 44) 8 <|
  .br (.low (.v (B + 15)) (.v (B + 29)) (.v (B + 43)) (.v (B + 57))) (tElB B) lfBad
def lfP6 : Tree Lf := .leaf (.tup [.agg (eps 2 ++ eps 5), .at (.int .i64 (.c 64)), .at (.bool (.c true))], [])
def tOn6 : Tree Lf := .dn (.f 6 (.mul 5 5)) <| .dn (.f 7 (.mul 2 2)) <| .dn (.f 8 (.mul 7 2)) <| .dn (.f 9 (.k k3)) <| .dn (.f 10 (.k kR1)) <| .dn (.f 11 (.mul 9 10)) <| .dn (.f 12 (.add 8 11)) <| .br (.fe 6 12) lfP6 lfBad
def tRaw : Tree Lf := .br (.eq (.v 64) (.c 64)) (tInf 64) <| tOr [30, 29, 28, 27, 26, 25, 24] 31 65 8 <| tOr [22, 21, 20, 19, 18, 17, 16] 23 79 8 <| tOr [14, 13, 12, 11, 10, 9, 8] 15 93 8 <| tOr [6, 5, 4, 3, 2, 1, 0] 7 107 8 <| .br (.low (.v 78) (.v 92) (.v 106) (.v 120))
  (.dn (.f 0 (.wm (.v 78) (.v 92) (.v 106) (.v 120))) <| .dn (.f 1 (.k kR1)) <| .dn (.f 2 (.mul 0 1)) <| tOr [62, 61, 60, 59, 58, 57, 56] 63 121 8 <| tOr [54, 53, 52, 51, 50, 49, 48] 55 135 8 <| tOr [46, 45, 44, 43, 42, 41, 40] 47 149 8 <| tOr [38, 37, 36, 35, 34, 33, 32] 39 163 8 <|
    .br (.low (.v 134) (.v 148) (.v 162) (.v 176)) (.dn (.f 3 (.wm (.v 134) (.v 148) (.v 162) (.v 176))) <| .dn (.f 4 (.k kR1)) <| .dn (.f 5 (.mul 3 4)) <| .br (.fz 2) (.br (.fz 5) lfP6 tOn6) tOn6) lfBad) lfBad
def t64 : Tree Lf := .dn (.i 64 (.bt .and .u8 (.v 0) (.c 192))) <| .br (.eq (.v 64) (.c 0)) tRaw <| .br (.eq (.v 64) (.c 64)) (tInf 64) (tCmp 64)
def by64 : List Atom := (List.range 64).map fun i => .int .u8 (.v i)
def bL64 (g : Nat → Fq) : List Fq := (List.range 64).map g
def hi32 (g : Nat → Fq) : Nat → Fq := fun j => g (32 + j)
theorem bL64_take (g : Nat → Fq) : (bL64 g).take 32 = bL g := rfl
theorem bL64_drop (g : Nat → Fq) : (bL64 g).drop 32 = bL (hi32 g) := rfl
theorem bL64_head (g : Nat → Fq) : (bL64 g).headD 0 = g 0 := rfl
def wV (l : List Fq) : Value := .tuple #[elsV [((wP l).getD (0, 0)).1, ((wP l).getD (0, 0)).2], .int .i64 (if (wP l).isSome then (if (l.headD 0).val < 64 then 64 else 32) else 0), .bool (wP l).isSome]
def Bys64 (e : Env) (g : Nat → Fq) : Prop := ∀ j, j < 64 → e.i j = ((g j).val : Nat) ∧ (g j).val < 256
section
variable {e : Env} {g : Nat → Fq}
theorem wV_ge (h : ¬ (g 0).val < 64) : wV (bL64 g) = gV (gP (bL g)) := by
  have : wP (bL64 g) = gP (bL g) := by rw [wP, bL64_head, if_neg h, bL64_take]
  unfold wV gV
  rw [this, bL64_head, if_neg h]
theorem wV_none (h : wP (bL64 g) = none) : wV (bL64 g) = gV none := by
  unfold wV gV
  rw [h]
  rfl
theorem badw_goal (h : wP (bL64 g) = none) : lfBad.goal e fun l => (∀ β, l.1.den β e = wV (bL64 g)) ∧ l.2 = [] := by
  rw [wV_none h]
  exact bad_goal rfl
theorem p6_goal (h : wP (bL64 g) = some (e.f 2, e.f 5)) (hg : (g 0).val < 64) : lfP6.goal e fun l => (∀ β, l.1.den β e = wV (bL64 g)) ∧ l.2 = [] := ⟨fun β => by
  unfold wV
  rw [h, bL64_head, if_pos hg]
  rfl, rfl⟩
theorem on6_goal {x y : Fq} (hx : e.f 2 = x) (hy : e.f 5 = y) (hg : (g 0).val < 64) (hw : wP (bL64 g) = if (x = 0 ∧ y = 0) ∨ y * y = x * (x * x) + 3 then some (x, y) else none) (hn : ¬ (x = 0 ∧ y = 0)) : tOn6.goal e fun l => (∀ β, l.1.den β e = wV (bL64 g)) ∧ l.2 = [] := fun d0 d1 d2 d3 d4 d5 d6 => by
  have d0 : e.f 6 = e.f 5 * e.f 5 := d0
  have d1 : e.f 7 = e.f 2 * e.f 2 := d1
  have d2 : e.f 8 = e.f 7 * e.f 2 := d2
  have d5 : e.f 11 = e.f 9 * e.f 10 := d5
  have d6 : e.f 12 = e.f 8 + e.f 11 := d6
  rw [k3_v d3 d4] at d5
  rw [d2, d1, d5, hx] at d6
  rw [hy] at d0
  have hr : x * x * x + 3 = x * (x * x) + 3 := by grind
  rw [hr] at d6
  refine ⟨fun c => p6_goal ?_ hg, fun c => badw_goal ?_⟩
  · have c := fe_t c
    rw [d0, d6] at c
    rw [hw, if_pos (.inr c), hx, hy]
  · have c := fe_f c
    rw [d0, d6] at c
    rw [hw, if_neg (fun h => h.elim hn c)]
theorem chk6_goal {x y : Fq} (hx : e.f 2 = x) (hy : e.f 5 = y) (hg : (g 0).val < 64) (hw : wP (bL64 g) = if (x = 0 ∧ y = 0) ∨ y * y = x * (x * x) + 3 then some (x, y) else none) : (Tree.br (.fz 2) (.br (.fz 5) lfP6 tOn6) tOn6 : Tree Lf).goal e fun l => (∀ β, l.1.den β e = wV (bL64 g)) ∧ l.2 = [] := by
  refine ⟨fun c => ⟨fun c1 => ?_, fun c1 => ?_⟩, fun c => ?_⟩
  · have c := fz_t c
    have c1 := fz_t c1
    rw [hx] at c
    rw [hy] at c1
    exact p6_goal (by rw [hw, if_pos (.inl ⟨c, c1⟩), hx, hy]) hg
  · have c1 := fz_f c1
    rw [hy] at c1
    exact on6_goal hx hy hg hw fun h => c1 h.2
  · have c := fz_f c
    rw [hx] at c
    exact on6_goal hx hy hg hw fun h => c h.1
theorem bnum_cons (x : Fq) (l : List Fq) : bnum (x :: l) 0 = bnum l x.val := by rw [bnum, Nat.zero_mul, Nat.zero_add]
theorem raw_goal (hb : Bys64 e g) (hg : (g 0).val < 64) (h64 : e.i 64 = 0) : tRaw.goal e fun l => (∀ β, l.1.den β e = wV (bL64 g)) ∧ l.2 = [] := by
  have hb1 : Bys e g := fun j hj => hb j (by omega)
  have hb2 : Bys { e with i := fun j => e.i (32 + j) } (hi32 g) := fun j hj => hb (32 + j) (by omega)
  have hbs : ∀ j, j < 64 → 0 ≤ e.i j ∧ e.i j < 256 := fun j hj => by have := hb j hj; omega
  refine ⟨fun c => ?_, fun _ => ?_⟩
  · have c : e.i 64 = 64 := (eq_den c).2 rfl
    omega
  refine tOr_goal _ 31 65 8 (by decide) (hbs 31 (by omega)) (fun b h => hbs b (by simp at h; omega)) fun w0 => ?_
  refine tOr_goal _ 23 79 8 (by decide) (hbs 23 (by omega)) (fun b h => hbs b (by simp at h; omega)) fun w1 => ?_
  refine tOr_goal _ 15 93 8 (by decide) (hbs 15 (by omega)) (fun b h => hbs b (by simp at h; omega)) fun w2 => ?_
  refine tOr_goal _ 7 107 8 (by decide) (hbs 7 (by omega)) (fun b h => hbs b (by simp at h; omega)) fun w3 => ?_
  have hv := bT_num hb1 (h := e.i 0) (m := (g 0).val) (hb 0 (by omega)).1 (a := e.i 78) (b := e.i 92) (c := e.i 106) (d := e.i 120) w0 w1 w2 w3
  have hN : bnum ((bL64 g).take 32) 0 = bnum (bT g) (g 0).val := by rw [bL64_take, bL_eq, bnum_cons]
  have hM : bnum ((bL64 g).drop 32) 0 = bnum (bT (hi32 g)) (hi32 g 0).val := by rw [bL64_drop, bL_eq, bnum_cons]
  have hwP : wP (bL64 g) = if bnum (bT g) (g 0).val < q ∧ bnum (bT (hi32 g)) (hi32 g 0).val < q then (if (Fin.ofNat q (bnum (bT g) (g 0).val) = 0 ∧ Fin.ofNat q (bnum (bT (hi32 g)) (hi32 g 0).val) = 0) ∨ Fin.ofNat q (bnum (bT (hi32 g)) (hi32 g 0).val) * Fin.ofNat q (bnum (bT (hi32 g)) (hi32 g 0).val) = Fin.ofNat q (bnum (bT g) (g 0).val) * (Fin.ofNat q (bnum (bT g) (g 0).val) * Fin.ofNat q (bnum (bT g) (g 0).val)) + 3 then some (Fin.ofNat q (bnum (bT g) (g 0).val), Fin.ofNat q (bnum (bT (hi32 g)) (hi32 g 0).val)) else none) else none := by
    unfold wP
    rw [bL64_head, if_pos hg, hN, hM]
  generalize bnum (bT g) (g 0).val = N at hv hwP
  generalize hMM : bnum (bT (hi32 g)) (hi32 g 0).val = M at hwP
  refine ⟨fun c => ?_, fun c => ?_⟩
  · have c : v4 (e.i 78) (e.i 92) (e.i 106) (e.i 120) < _ := of_decide_eq_true c
    rw [hv] at c
    have hNq : N < q := by unfold q; omega
    intro d0 d1 d2
    have d0 : e.f 0 = unmont (v4 (e.i 78) (e.i 92) (e.i 106) (e.i 120)).toNat := d0
    have d2 : e.f 2 = e.f 0 * e.f 1 := d2
    rw [hv, Int.toNat_natCast] at d0
    rw [kR1_v d0 d1] at d2
    refine tOr_goal _ 63 121 8 (by decide) (hbs 63 (by omega)) (fun b h => hbs b (by simp at h; omega)) fun w0 => ?_
    refine tOr_goal _ 55 135 8 (by decide) (hbs 55 (by omega)) (fun b h => hbs b (by simp at h; omega)) fun w1 => ?_
    refine tOr_goal _ 47 149 8 (by decide) (hbs 47 (by omega)) (fun b h => hbs b (by simp at h; omega)) fun w2 => ?_
    refine tOr_goal _ 39 163 8 (by decide) (hbs 39 (by omega)) (fun b h => hbs b (by simp at h; omega)) fun w3 => ?_
    have hv' := bT_num hb2 (h := e.i 32) (m := (hi32 g 0).val) (hb 32 (by omega)).1 (a := e.i 134) (b := e.i 148) (c := e.i 162) (d := e.i 176) w0 w1 w2 w3
    rw [hMM] at hv'
    refine ⟨fun c => ?_, fun c => ?_⟩
    · have c : v4 (e.i 134) (e.i 148) (e.i 162) (e.i 176) < _ := of_decide_eq_true c
      rw [hv'] at c
      have hMq : M < q := by unfold q; omega
      intro d3 d4 d5
      have d3 : e.f 3 = unmont (v4 (e.i 134) (e.i 148) (e.i 162) (e.i 176)).toNat := d3
      have d5 : e.f 5 = e.f 3 * e.f 4 := d5
      rw [hv', Int.toNat_natCast] at d3
      rw [kR1_v d3 d4] at d5
      exact chk6_goal d2 d5 hg (by rw [hwP, if_pos ⟨hNq, hMq⟩])
    · have c : ¬ v4 (e.i 134) (e.i 148) (e.i 162) (e.i 176) < _ := of_decide_eq_false c
      rw [hv'] at c
      exact badw_goal (by rw [hwP, if_neg (fun h => c (by have := h.2; unfold q at this; omega))])
  · have c : ¬ v4 (e.i 78) (e.i 92) (e.i 106) (e.i 120) < _ := of_decide_eq_false c
    rw [hv] at c
    exact badw_goal (by rw [hwP, if_neg (fun h => c (by have := h.1; unfold q at this; omega))])
theorem elB_goal {B N : Nat} (hN : N < q) (hb : Bys e g) (hv : v4 (e.i (B + 15)) (e.i (B + 29)) (e.i (B + 43)) (e.i (B + 57)) = (N : Nat)) (h32 : e.i B = (((g 0).val / 64 * 64 : Nat) : Int)) (h128 : 128 ≤ (g 0).val) :
    (tElB B).goal e fun l => (∀ β, l.1.den β e = gV (rP (decide (192 ≤ (g 0).val)) N)) ∧ l.2 = [] := fun d0 d1 d2 d3 d4 d5 d6 d7 d8 d9 d10 => by
  have d0 : e.f 0 = unmont (v4 (e.i (B + 15)) (e.i (B + 29)) (e.i (B + 43)) (e.i (B + 57))).toNat := d0
  have d2 : e.f 2 = e.f 0 * e.f 1 := d2
  have d3 : e.f 3 = e.f 2 * e.f 2 := d3
  have d4 : e.f 4 = e.f 3 * e.f 2 := d4
  have d7 : e.f 7 = e.f 5 * e.f 6 := d7
  have d8 : e.f 8 = e.f 4 + e.f 7 := d8
  have d9 : e.f 9 = fpow (e.f 8) EX := d9
  have d10 : e.f 10 = e.f 9 * e.f 9 := d10
  rw [hv, Int.toNat_natCast] at d0
  rw [kR1_v d0 d1] at d2
  rw [k3_v d5 d6] at d7
  have hb0 := hb 0 (by omega)
  generalize hx : Fin.ofNat q N = x at d2
  have hr : e.f 8 = x * (x * x) + 3 := by rw [d8, d4, d3, d7, d2]; grind
  generalize hrr : e.f 8 = r at d9 hr
  generalize hy : e.f 9 = y at d9 d10
  have hrP : ∀ b, rP b N = if y * y = r then some (x, if decide (q < 2 * y.val) = b then y else -y) else none := rP_eq hN hx hr d9
  refine ⟨fun c => ?_, fun c => ?_⟩
  · have c := fe_t c
    rw [d10, hrr] at c
    refine ⟨fun c0 => ?_, fun c0 => ?_⟩
    · have c0 : decide (q < 2 * (e.f 9).val) = true := c0
      rw [hy] at c0
      refine ⟨fun c1 => fun d11 => ?_, fun c1 => ?_⟩
      · have c1 : e.i B = 128 := (eq_den c1).2 rfl
        have d11 : e.f 11 = - e.f 9 := d11
        rw [hy] at d11
        exact chk_goal (y := -y) d2 d11 hr (by rw [← c]; grind) (by rw [hrP, if_pos c, c0, decide_eq_false (by omega)]; rfl)
      · have c1 : ¬ e.i B = 128 := fun h => by cases (eq_den c1).1 h
        exact chk_goal d2 hy hr c (by rw [hrP, if_pos c, c0, decide_eq_true (by omega)]; rfl)
    · have c0 : decide (q < 2 * (e.f 9).val) = false := c0
      rw [hy] at c0
      refine ⟨fun c1 => fun d11 => ?_, fun c1 => ?_⟩
      · have c1 : e.i B = 192 := (eq_den c1).2 rfl
        have d11 : e.f 11 = - e.f 9 := d11
        rw [hy] at d11
        exact chk_goal (y := -y) d2 d11 hr (by rw [← c]; grind) (by rw [hrP, if_pos c, c0, decide_eq_true (by omega)]; rfl)
      · have c1 : ¬ e.i B = 192 := fun h => by cases (eq_den c1).1 h
        exact chk_goal d2 hy hr c (by rw [hrP, if_pos c, c0, decide_eq_false (by omega)]; rfl)
  · have c := fe_f c
    rw [d10, hrr] at c
    exact bad_goal (by rw [hrP, if_neg c])
theorem rest_goal {B : Nat} (hB : B = 64) (hb : Bys e g) (h32 : e.i B = (((g 0).val / 64 * 64 : Nat) : Int)) (h64 : ¬ (g 0).val < 64) : (Tree.br (.eq (.v B) (.c 64)) (tInf B) (tCmp B) : Tree Lf).goal e fun l => (∀ β, l.1.den β e = gV (gP (bL g))) ∧ l.2 = [] := by
  have hb0 := hb 0 (by omega)
  refine ⟨fun c1 => fun d33 => ?_, fun c1 => fun d33 => ?_⟩
  · have c1 : e.i B = 64 := (eq_den c1).2 rfl
    have d33 : e.i (B + 1) = btI .and .u8 (e.i 0) 63 := d33
    rw [hb0.1, and63 _ hb0.2] at d33
    refine ⟨fun c2 => ?_, fun c2 => ?_⟩
    · have c2 : e.i (B + 1) = 0 := (eq_den c2).2 rfl
      exact zer_goal hb h64 (by omega) (by omega) 31 1 rfl (by omega) fun j h1 h2 => by omega
    · have c2 : ¬ e.i (B + 1) = 0 := fun h => by cases (eq_den c2).1 h
      exact bad_goal (by rw [bL_eq, gP, if_neg h64, if_pos (by omega), if_neg (by rintro ⟨h, _⟩; omega)])
  have c1 : ¬ e.i B = 64 := fun h => by cases (eq_den c1).1 h
  have d33 : e.i (B + 1) = btI .and .u8 (e.i 0) 63 := d33
  rw [hb0.1, and63 _ hb0.2] at d33
  have h128 : 128 ≤ (g 0).val := by omega
  have hbs : ∀ j, j < 32 → 0 ≤ e.i j ∧ e.i j < 256 := fun j hj => by have := hb j hj; omega
  refine tOr_goal _ 31 (B + 2) 8 (by decide) (hbs 31 (by omega)) (fun b h => hbs b (by simp at h; omega)) fun w0 => ?_
  refine tOr_goal _ 23 (B + 16) 8 (by decide) (hbs 23 (by omega)) (fun b h => hbs b (by simp at h; omega)) fun w1 => ?_
  refine tOr_goal _ 15 (B + 30) 8 (by decide) (hbs 15 (by omega)) (fun b h => hbs b (by simp at h; omega)) fun w2 => ?_
  refine tOr_goal _ 7 (B + 44) 8 (by show 8 + 8 * 7 ≤ 64; decide) (hbs 7 (by omega)) (fun b h => by
    simp only [List.mem_cons, List.not_mem_nil, or_false] at h
    rcases h with rfl | rfl | rfl | rfl | rfl | rfl | rfl
    · exact hbs 6 (by omega)
    · exact hbs 5 (by omega)
    · exact hbs 4 (by omega)
    · exact hbs 3 (by omega)
    · exact hbs 2 (by omega)
    · exact hbs 1 (by omega)
    · omega) fun w3 => ?_
  have hv := bT_num hb (h := e.i (B + 1)) (m := (g 0).val % 64) d33 (a := e.i (B + 15)) (b := e.i (B + 29)) (c := e.i (B + 43)) (d := e.i (B + 57)) w0 w1 w2 w3
  have hgp : gP (bL g) = rP (decide (192 ≤ (g 0).val)) (bnum (bT g) ((g 0).val % 64)) := by
    rw [bL_eq, gP, if_neg h64, if_neg (by omega), sP]
  rw [hgp]
  refine ⟨fun c2 => ?_, fun c2 => ?_⟩
  · have c2 : v4 (e.i (B + 15)) (e.i (B + 29)) (e.i (B + 43)) (e.i (B + 57)) < _ := of_decide_eq_true c2
    rw [hv] at c2
    exact elB_goal (by unfold q; omega) hb hv h32 h128
  · have c2 : ¬ v4 (e.i (B + 15)) (e.i (B + 29)) (e.i (B + 43)) (e.i (B + 57)) < _ := of_decide_eq_false c2
    rw [hv] at c2
    exact bad_goal (by rw [rP, if_neg (by unfold q; omega)])
theorem g64_goal (hb : Bys64 e g) : t64.goal e fun l => (∀ β, l.1.den β e = wV (bL64 g)) ∧ l.2 = [] := fun d64 => by
  have hb0 := hb 0 (by omega)
  have d64 : e.i 64 = btI .and .u8 (e.i 0) 192 := d64
  rw [hb0.1, and192 _ hb0.2] at d64
  refine ⟨fun c => ?_, fun c => ?_⟩
  · have c : e.i 64 = 0 := (eq_den c).2 rfl
    exact raw_goal hb (by omega) c
  · have c : ¬ e.i 64 = 0 := fun h => by cases (eq_den c).1 h
    have hg : ¬ (g 0).val < 64 := by omega
    rw [wV_ge hg]
    exact rest_goal rfl (fun j hj => hb j (by omega)) d64 hg
end
end Go.Sx
namespace Go.Sx
open Go
set_option maxRecDepth 100000
/-! ### The contract of impl.G1Parse at 64 bytes -/
def byV64 (g : Nat → Fq) : List Value := (List.range 64).map fun j => .int .u8 ((g j).val : Nat)
def G64C (P : Program) (f : FuncId) (ty : TypeId) : Prop := ∀ (w : World) (x pe : Addr) (g : Nat → Fq) (room : Nat), (∀ j, j < 64 → (g j).val < 256) → CellsAt w x (byV64 g) → CellsAt w ⟨0, 0, none⟩ [.iface ty (.pointer (some pe))] → pe.spot = none → pe.block < w.heap.size →
  Does P f #[.slice (some x) 64 (64 + room)] (wV (bL64 g)) w w
def sl64 : SV := .one (.at (.slc ⟨.ext 1, 0⟩ 64 64 0))
def hp1 (ext : List (List Atom)) (ni nf : Nat) : Hp := { hp0 ext ni nf with cnt := 1 }
theorem hp1_relG {w : World} {e : Env} {β : Nat → Nat} {ext : List (List Atom)} {ni nf : Nat}
    (hcells : ∀ j c, ext[j]? = some c → (e.ext j).block < w.heap.size ∧ CellsAt w (e.ext j) (c.map (Atom.den β e)) ∧ ∀ a ∈ c, a.ok 1 e)
    (hfrz : ext[0]? = some []) (hgl : ∀ g c, ext[g + 7]? = some c → e.ext (g + 7) = ⟨g, 0, none⟩) : HRel w e β (hp1 ext ni nf) w where
  gl := hgl
  tape := rfl
  os := rfl
  output := rfl
  size := Nat.le_refl _
  blk := fun k b hk => by cases k <;> simp [hp1, hp0, T.get] at hk
  inj := fun k k' b b' hk => by cases k <;> simp [hp1, hp0, T.get] at hk
  old := fun j hj => rfl
  logok := fun x hx => by simp [hp1, hp0] at hx
  extb := fun j c hj => (hcells j c hj).1
  ext := fun j c hj i a ha => by
    obtain ⟨h1, h2, h3⟩ := hcells j c hj
    exact ⟨h2.2 i (a.den β e) (by simp [ha]), h3 a (List.mem_of_getElem? ha)⟩
  frz := fun c hc i hi => by
    have hc : ext[0]? = some c := hc
    rw [hfrz] at hc
    cases hc
    simp at hi
  dis := fun j c c0 hj hc hc0 i i' hi hi' => by
    have hc0 : ext[0]? = some c0 := hc0
    rw [hfrz] at hc0
    cases hc0
    simp at hi'
  facts := fun x hx => by simp [hp1, hp0] at hx
theorem by64_den {β : Nat → Nat} {e : Env} {g : Nat → Fq} (h : ∀ j, j < 64 → e.i j = ((g j).val : Nat)) : by64.map (Atom.den β e) = byV64 g := by
  rw [by64, byV64, List.map_map]
  refine List.map_congr_left fun j hj => ?_
  have := h j (List.mem_range.1 hj)
  show Value.int .u8 (e.i j) = _
  rw [this]
theorem by64_ok {e : Env} {n : Nat} {g : Nat → Fq} (h : Bys64 e g) : ∀ a ∈ by64, a.ok n e := fun a ha => by
  obtain ⟨j, hj, rfl⟩ := List.mem_map.1 ha
  obtain ⟨h1, h2⟩ := h j (List.mem_range.1 hj)
  show inR .u8 (e.i j)
  rw [h1]
  simp only [inR, IntKind.min, IntKind.max, IntKind.bits, IntKind.signed]
  simp
  omega
theorem g64_of {P : Program} {qf pf : QSum} (hm : P.follows .mixedOrders = true) (hnum : NumOk P) (hq : QOk P qf) (hp : POk P pf) {f : FuncId} {ty : TypeId}
    (h : sxCall P qf pf 5000 f [sl64] (hp1 (gl8 by64 ty) 64 0) leafE = some t64) : G64C P f ty := fun w x pe g room hg hx hge hps hpb => by
  have hxb : x.block < w.heap.size := cell_block (l := ((List.range' 1 63).map fun j => .int .u8 ((g j).val : Nat))) (v := .int .u8 ((g 0).val : Nat)) hx
  have hgb : (0 : Nat) < w.heap.size := cell_block hge
  let ext : Nat → Addr := fun j => if j = 1 then x else if j = 6 then pe else if j = 7 then ⟨0, 0, none⟩ else ⟨x.block, 0, none⟩
  have hby : ∀ e', AgreeE 64 0 0 (byEnv g ext) e' → Bys64 e' g := fun e' ha j hj => ⟨ha.i j hj, hg j hj⟩
  have hargs : ∀ e', AgreeE 64 0 0 (byEnv g ext) e' → [sl64].map (SV.den (fun _ => room) e') = [.slice (some x) 64 (64 + room)] := fun e' ha => by
    have hx1 : e'.ext = ext := ha.ext
    have h1 : ext 1 = x := rfl
    simp only [List.map_cons, List.map_nil, sl64, SV.den, SV1.den, Atom.den, SA.den, hx1, Nat.add_zero, h1]
    have hs := hx.1
    obtain ⟨b, o, s⟩ := x
    simp only at hs
    subst hs
    rfl
  have key := fn_of_tree hm hnum hq hp h (by decide +kernel) (w := w) (e := byEnv g ext) (β := fun _ => room)
    (fun e' ha => by
      have hx1 : e'.ext = ext := ha.ext
      refine hp1_relG (fun j c hj => ?_) rfl (fun k c hk => ?_)
      · rw [hx1]
        match j, hj with
        | 0, hj => cases hj; exact ⟨hxb, ⟨rfl, fun i v hi => by simp at hi⟩, fun a ha => by cases ha⟩
        | 1, hj =>
          cases hj
          refine ⟨hxb, ?_, by64_ok (hby e' ha)⟩
          rw [by64_den fun j hj => (hby e' ha j hj).1]
          exact hx
        | 2, hj => cases hj; exact ⟨hxb, ⟨rfl, fun i v hi => by simp at hi⟩, fun a ha => by cases ha⟩
        | 3, hj => cases hj; exact ⟨hxb, ⟨rfl, fun i v hi => by simp at hi⟩, fun a ha => by cases ha⟩
        | 4, hj => cases hj; exact ⟨hxb, ⟨rfl, fun i v hi => by simp at hi⟩, fun a ha => by cases ha⟩
        | 5, hj => cases hj; exact ⟨hxb, ⟨rfl, fun i v hi => by simp at hi⟩, fun a ha => by cases ha⟩
        | 6, hj => cases hj; exact ⟨hpb, ⟨hps, fun i v hi => by simp at hi⟩, fun a ha => by cases ha⟩
        | 7, hj =>
          cases hj
          refine ⟨hgb, ?_, fun a ha => ?_⟩
          · have : ([Atom.iface ty (.ptr ⟨.ext 6, 0⟩)].map (Atom.den (fun _ => room) e')) = [.iface ty (.pointer (some pe))] := by
              show [Value.iface ty (.pointer (some ⟨(e'.ext 6).block, (e'.ext 6).off + 0, none⟩))] = _
              rw [hx1]
              show [Value.iface ty (.pointer (some ⟨pe.block, pe.off + 0, none⟩))] = _
              obtain ⟨b, o, s⟩ := pe
              simp only at hps
              subst hps
              rfl
            rw [this]
            exact hge
          · cases List.mem_singleton.1 ha
            trivial
        | j + 8, hj => simp [gl8] at hj
      · rw [hx1]
        match k, hk with
        | 0, hk => rfl
        | k + 1, hk => simp [gl8] at hk)
    (fun e' ha s hs => by cases List.mem_singleton.1 hs; exact ⟨trivial, by show 0 < 1; decide⟩)
    (fun e' ha => by rw [hargs e' ha, hargs _ (AgreeE.refl _ _ _ _)])
    (fun e' l => (∀ β, l.1.den β e' = wV (bL64 g)) ∧ l.2 = []) (fun e' ha => g64_goal (hby e' ha))
  rw [hargs _ (AgreeE.refl _ _ _ _)] at key
  refine ⟨key.1, key.2.mono fun en w' ⟨v, log, β', e', cnt, g1, g2, g3, g4, g5, g6⟩ => ?_⟩
  obtain ⟨g51, g52⟩ := g5
  simp only at g51 g52
  subst g52
  exact ⟨by rw [g1, g51], g6⟩
/-! ### Its table -/
def bIs64 (n : Nat) : List Nat := (List.range 64).map (n + ·)
def g64F (fn : FuncId) (ty : TypeId) : QSum := fun f args h =>
  bif Nat.beq f fn then match args with
    | [.one (.at (.slc x 64 m kc))] => bif Nat.ble 64 m then match rd h x 64 with
      | some l => match byI l with
        | some xs => bif glOk h ty then
            some (newEls h.nf (xs.map by1 ++ [.fn 21 (bIs64 h.nf), .fn 22 (bIs64 h.nf), .fn 23 (bIs64 h.nf)]), .tup [.agg (eps (h.nf + 64) ++ eps (h.nf + 65)), .at (.int .i64 (.ep (h.nf + 66) 0)), .at (.bool (.fn 8 (bIs64 h.nf)))], { h with nf := h.nf + 67 })
          else none
        | none => none
      | none => none
      else none
    | _ => none
  else none
theorem rdBy64 {w0 : World} {e : Env} {β : Nat → Nat} {h : Hp} {w : World} (hr : HRel w0 e β h w) {x : SA} {l : List Atom} {xs : List IE} {ds : List FD} (hl : rd h x 64 = some l) (hx : byI l = some xs) (hd : ∀ d ∈ newEls h.nf (xs.map by1 ++ ds), d.holds e) :
    (∀ j, j < 64 → (e.f (h.nf + j)).val < 256) ∧ CellsAt w (x.den β e) (byV64 fun j => e.f (h.nf + j)) ∧ (bIs64 h.nf).map e.f = bL64 (fun j => e.f (h.nf + j)) ∧ ∀ (j : Nat) (d : FD), ds[j]? = some d → e.f (h.nf + 64 + j) = d.ev e := by
  obtain ⟨r1, r2, r3⟩ := rd_sound hr hl
  have hxl := byI_spec hx
  have hlen : xs.length = 64 := by rw [← r1, hxl, List.length_map]
  have hval : ∀ j (hj : j < 64), ∃ y : IE, xs[j]? = some y ∧ y.den e = ((e.f (h.nf + j)).val : Nat) ∧ (e.f (h.nf + j)).val < 256 := fun j hj => by
    have hy : xs[j]? = some (xs[j]'(by omega)) := List.getElem?_eq_getElem (by omega)
    generalize xs[j]'(by omega) = y at hy
    have h1 := newEls_holds hd j (by1 y) (by rw [List.getElem?_append_left (by rw [List.length_map]; omega), List.getElem?_map, hy]; rfl)
    have hin : inR .u8 (y.den e) := r2 (.int .u8 y) (by rw [hxl]; exact List.mem_map.2 ⟨y, List.mem_of_getElem? hy, rfl⟩)
    simp only [inR, IntKind.min, IntKind.max, IntKind.bits, IntKind.signed] at hin
    simp at hin
    have h1 : e.f (h.nf + j) = Fin.ofNat q (v4 (y.den e) 0 0 0).toNat := h1
    have h2 : (e.f (h.nf + j)).val = (y.den e).toNat := by
      rw [h1]
      show (v4 (y.den e) 0 0 0).toNat % q = _
      have : v4 (y.den e) 0 0 0 = y.den e := by unfold v4; omega
      rw [this]
      exact Nat.mod_eq_of_lt (by unfold q; omega)
    exact ⟨y, hy, by omega, by omega⟩
  refine ⟨fun j hj => (hval j hj).choose_spec.2.2, ?_, ?_, fun j d hj => ?_⟩
  · obtain ⟨r, o⟩ := x
    have had : ((⟨r, o⟩ : SA).den β e).spot = none := by cases r <;> rfl
    refine ⟨had, fun i v hi => ?_⟩
    have hi32 : i < 64 := by
      have := (List.getElem?_eq_some_iff.1 hi).1
      simpa [byV64] using this
    obtain ⟨y, hy, hy1, _⟩ := hval i hi32
    have hv : v = .int .u8 (y.den e) := by
      rw [byV64, List.getElem?_map, List.getElem?_range hi32] at hi
      cases hi
      rw [hy1]
    have := r3 i (.int .u8 y) (by rw [hxl, List.getElem?_map, hy]; rfl)
    have hadd : (⟨((⟨r, o⟩ : SA).den β e).block, ((⟨r, o⟩ : SA).den β e).off + i, none⟩ : Addr) = (⟨r, o + i⟩ : SA).den β e := by cases r <;> simp only [SA.den] <;> simp [Nat.add_assoc]
    rw [hadd, hv]
    exact this
  · rw [bIs64, bL64, List.map_map]
    rfl
  · have := newEls_holds hd (64 + j) d (by rw [List.getElem?_append_right (by rw [List.length_map]; omega), List.length_map, hlen, show 64 + j - 64 = j by omega]; exact hj)
    rw [← this]
    congr 1
    omega
theorem w23 (b c : Bool) : ((w4 ((if b = true then (if c = true then (64 : Fq) else 32) else 0)).val 0 : Nat) : Int) = if b = true then (if c = true then 64 else 32) else 0 := by cases b <;> cases c <;> decide
theorem g64F_p {P : Program} {fn : FuncId} {ty : TypeId} (hc : G64C P fn ty) : POk P (g64F fn ty) := by
  intro f args h ds v h' hh
  unfold g64F at hh
  cases hb : Nat.beq f fn with
  | false => rw [hb] at hh; cases hh
  | true =>
    rw [hb] at hh
    have hf := Nat.eq_of_beq_eq_true hb
    subst hf
    simp only [cond_true] at hh
    split at hh
    · rename_i x m kc
      cases hm : Nat.ble 64 m with
      | false => rw [hm] at hh; cases hh
      | true =>
      rw [hm] at hh
      have hm := Nat.le_of_ble_eq_true hm
      simp only [cond_true] at hh
      split at hh
      · rename_i l hl
        split at hh
        · rename_i xs hx
          cases hg : glOk h ty with
          | false => rw [hg] at hh; cases hh
          | true =>
            rw [hg] at hh
            cases hh
            refine ⟨rfl, fun w0 e β w hr hok hds => ?_⟩
            obtain ⟨b1, b2, b3, b4⟩ := rdBy64 hr hl hx hds
            have d0 : e.f (h.nf + 64) = ((wP ((bIs64 h.nf).map e.f)).getD (0, 0)).1 := b4 0 _ rfl
            have d1 : e.f (h.nf + 65) = ((wP ((bIs64 h.nf).map e.f)).getD (0, 0)).2 := b4 1 _ rfl
            have d2 : e.f (h.nf + 66) = if (wP ((bIs64 h.nf).map e.f)).isSome = true then (if decide ((((bIs64 h.nf).map e.f).headD 0).val < 64) = true then 64 else 32) else 0 := by
              have : e.f (h.nf + 66) = if (wP ((bIs64 h.nf).map e.f)).isSome = true then (if (((bIs64 h.nf).map e.f).headD 0).val < 64 then 64 else 32) else 0 := b4 2 _ rfl
              rw [this]
              simp only [decide_eq_true_eq]
            unfold glOk at hg
            split at hg
            · rename_i t h6 h7
              have ht := of_decide_eq_true hg
              subst ht
              have g7 : e.ext 7 = ⟨0, 0, none⟩ := hr.gl 0 _ h7
              have g6 := hr.extb 6 _ h6
              have gc := (hr.ext 7 _ h7 0 _ rfl).1
              rw [g7] at gc
              obtain ⟨k1, k2⟩ := hc w (x.den β e) ⟨(e.ext 6).block, (e.ext 6).off + 0, none⟩ (fun j => e.f (h.nf + j)) (m - 64 + β kc) b1 b2
                ⟨rfl, fun i v hi => by
                  match i, hi with
                  | 0, hi => cases hi; exact gc
                  | i + 1, hi => simp at hi⟩ rfl (Nat.lt_of_lt_of_le g6 hr.size)
              rw [show 64 + (m - 64 + β kc) = m + β kc by omega] at k1 k2
              have hv : (SV.tup [.agg (eps (h.nf + 64) ++ eps (h.nf + 65)), .at (.int .i64 (.ep (h.nf + 66) 0)), .at (.bool (.fn 8 (bIs64 h.nf)))]).den β e = wV (bL64 fun j => e.f (h.nf + j)) := by
                show Value.tuple #[.agg (epV (e.f (h.nf + 64)) ++ epV (e.f (h.nf + 65))).toArray, .int .i64 (w4 (e.f (h.nf + 66)).val 0 : Nat), .bool (wP ((bIs64 h.nf).map e.f)).isSome] = _
                rw [d0, d1, d2, w23, b3]
                unfold wV
                simp only [decide_eq_true_eq]
                rfl
              have hsz : ∀ w', Grow w w' → HRel w0 e β { h with nf := h.nf + 67 } w' := fun w' hgr => (hr.grow hgr).same (SameMem.nf _ _)
              refine ⟨fun y hy => ?_, k1, k2.mono fun en w' ⟨h1, h2⟩ => ⟨by rw [h1, hv], hsz w' h2, h2.size⟩⟩
              simp only [List.mem_cons, List.not_mem_nil, or_false] at hy
              rcases hy with rfl | rfl | rfl
              · intro a ha
                rcases List.mem_append.1 ha with h | h
                · exact eps_ok _ _ _ a h
                · exact eps_ok _ _ _ a h
              · show inR .i64 (w4 (e.f (h.nf + 66)).val 0 : Nat)
                rw [d2, w23]
                generalize (wP ((bIs64 h.nf).map e.f)).isSome = b
                generalize decide ((((bIs64 h.nf).map e.f).headD 0).val < 64) = c
                cases b
                · show (IntKind.i64.min ≤ 0 ∧ (0 : Int) ≤ IntKind.i64.max)
                  decide
                · cases c
                  · show (IntKind.i64.min ≤ 32 ∧ (32 : Int) ≤ IntKind.i64.max)
                    decide
                  · show (IntKind.i64.min ≤ 64 ∧ (64 : Int) ≤ IntKind.i64.max)
                    decide
              · trivial
            · cases hg
        · cases hh
      · cases hh
    · cases hh
end Go.Sx
namespace Go.Sx
open Go
set_option maxRecDepth 100000
/-! ### A point's bytes -/
def byN (v i : Nat) : Fq := Fin.ofNat q (v / 256 ^ i % 256)
theorem byN_val (v i : Nat) : (byN v i).val = v / 256 ^ i % 256 := Nat.mod_eq_of_lt (by have := Nat.mod_lt (v / 256 ^ i) (show 0 < 256 by decide); unfold q; omega)
theorem bnum_by (v : Nat) : ∀ (m n : Nat), bnum ((List.range m).map fun j => byN v (m - 1 - j)) n = n * 256 ^ m + v % 256 ^ m
  | 0, n => by simp [bnum, Nat.mod_one]
  | m + 1, n => by
    rw [List.range_succ_eq_map, List.map_cons, List.map_map, bnum, show m + 1 - 1 - 0 = m by omega, byN_val]
    have : ((fun j => byN v (m + 1 - 1 - j)) ∘ Nat.succ) = fun j => byN v (m - 1 - j) := by
      funext j
      show byN v (m + 1 - 1 - (j + 1)) = _
      rw [show m + 1 - 1 - (j + 1) = m - 1 - j by omega]
    rw [this, bnum_by v m, Nat.mod_pow_succ, Nat.pow_succ, Nat.add_mul, Nat.mul_assoc, Nat.mul_comm 256, Nat.mul_comm (v / 256 ^ m % 256)]
    omega
theorem shr_byte (v i : Nat) (hi : i < 32) : ((v / 2 ^ (64 * (i / 8)) % 18446744073709551616) / 2 ^ (8 * (i % 8))) % 256 = v / 256 ^ i % 256 := by
  have h1 : (18446744073709551616 : Nat) = 2 ^ (8 * (i % 8)) * 2 ^ (64 - 8 * (i % 8)) := by
    rw [← Nat.pow_add, show 8 * (i % 8) + (64 - 8 * (i % 8)) = 64 by omega]
  rw [h1, Nat.mod_mul_right_div_self, Nat.div_div_eq_div_mul, ← Nat.pow_add]
  have h2 : (256 : Nat) ∣ 2 ^ (64 - 8 * (i % 8)) := by
    rw [show (256 : Nat) = 2 ^ 8 from rfl]
    exact Nat.pow_dvd_pow 2 (by omega)
  rw [Nat.mod_mod_of_dvd _ h2, show 64 * (i / 8) + 8 * (i % 8) = 8 * i by omega, Nat.pow_mul]
theorem fpow_two (y : Fq) : fpow y 2 = y * y := by
  rw [show (2 : Nat) = 1 + 1 from rfl, fpow_add y (by decide), fpow_one]
theorem root_sq (y : Fq) : fpow (y * y) EX * fpow (y * y) EX = y * y := by
  by_cases hy : y = 0
  · subst hy
    have h0 : (0 : Fq) * 0 = 0 := by grind
    rw [h0]
    have : fpow 0 EX = 0 := by decide +kernel
    rw [this, h0]
  · rw [fpow_mul_base y y (by decide), ← fpow_dbl y (by decide), ← fpow_dbl y (by decide), show 2 * (2 * EX) = (q - 1) + 2 by decide, fpow_add y (by decide), fermat hy, fpow_two]
    grind
theorem sq_cases {a b : Fq} (h : a * a = b * b) : a = b ∨ a = -b := by
  by_cases hd : a - b = 0
  · exact .inl (by grind)
  · right
    have h1 := finv_mul hd
    have h2 : (a - b) * (a + b) = 0 := by grind
    have h3 : finv (a - b) * ((a - b) * (a + b)) = a + b := by
      rw [show finv (a - b) * ((a - b) * (a + b)) = (finv (a - b) * (a - b)) * (a + b) by grind, h1]
      grind
    rw [h2] at h3
    grind
theorem neg_larger {y : Fq} (hy : y ≠ 0) : decide (q < 2 * (-y).val) = !decide (q < 2 * y.val) := by
  have h0 : y.val ≠ 0 := fun h => hy (Fin.ext h)
  have hv : (-y).val = q - y.val := by
    show (q - y.val) % q = _
    exact Nat.mod_eq_of_lt (by have := y.isLt; omega)
  have hlt := y.isLt
  rw [hv]
  by_cases h : q < 2 * y.val
  · rw [decide_eq_true h, decide_eq_false (by omega)]; rfl
  · rw [decide_eq_false h, decide_eq_true (by unfold q at *; omega)]; rfl
theorem rP_back {x y : Fq} (h : y * y = x * (x * x) + 3) : rP (decide (q < 2 * y.val)) x.val = some (x, y) := by
  have hx : Fin.ofNat q x.val = x := Fin.ext (Nat.mod_eq_of_lt x.isLt)
  have hr := root_sq y
  have hy' : ∀ z : Fq, z = fpow (y * y) EX → rP (decide (q < 2 * y.val)) x.val = if z * z = y * y then some (x, if decide (q < 2 * z.val) = decide (q < 2 * y.val) then z else -z) else none := fun z hz => rP_eq x.isLt hx h hz _
  generalize fpow (y * y) EX = z at hr hy'
  rw [hy' z rfl, if_pos hr]
  have key : (if decide (q < 2 * z.val) = decide (q < 2 * y.val) then z else -z) = y := by
    rcases sq_cases hr with h1 | h1
    · rw [h1, if_pos rfl]
    · rw [h1]
      by_cases h0 : y = 0
      · subst h0
        have : -(0 : Fq) = 0 := by decide
        rw [this, if_pos rfl]
      · rw [neg_larger h0, if_neg (by cases decide (q < 2 * y.val) <;> decide)]
        grind
  rw [key]
end Go.Sx
namespace Go.Sx
open Go
set_option maxRecDepth 100000
/-! ### The law of a point read again: its tree -/
def shD (n w : Nat) : List Dn := ((List.range 32).map fun i => [Dn.i (n + 2 * i) (.sh .shr .u64 (.ep w (i / 8)) (8 * (i % 8))), Dn.i (n + 2 * i + 1) (.cv .u8 (.v (n + 2 * i)))]).flatten
def byS (n top : Nat) : List FD := by1 (.v top) :: (List.range 31).map fun j => by1 (.v (n + 2 * (30 - j) + 1))
def tTail : Tree Lf := .br (.fn 6 (bIs 2)) (.br (.fn 8 (bIs64 37)) (.br (.fe 34 0) (.br (.fe 35 1) (.br (.fe 101 0) (.br (.fe 102 1) (.br (.eq (.ep 36 0) (.c 32)) (.leaf (.one (.at (.bool (.eq (.ep 103 0) (.c 64)))), [])) lfN) lfN) lfN) lfN) lfN) lfN) lfN
def tSub2 (c : Int) : Tree Lf := .dn (.i 64 (.ar .add .u8 (.v 63) (.c c))) (dnsT (shD 65 0) (dnsT (shD 129 1) (dnsT (newEls 2 (byS 0 64 ++ [.fn 16 (bIs 2), .fn 17 (bIs 2), .fn 18 (bIs 2)])) (dnsT (newEls 37 ((byS 65 128 ++ byS 129 192) ++ [.fn 21 (bIs64 37), .fn 22 (bIs64 37), .fn 23 (bIs64 37)])) tTail))))
def tSubB : Tree Lf := dnsT (shD 0 0) (.br (.fn 0 [1]) (tSub2 192) (tSub2 128))
def tBack : Tree Lf := .br (.fn 1 [0, 1]) (.br (.fz 0) (.br (.fz 1) lfY tSubB) tSubB) lfY
theorem shD_holds {e : Env} {n w : Nat} (h : ∀ d ∈ shD n w, d.holds e) (i : Nat) (hi : i < 32) : e.i (n + 2 * i + 1) = ((e.f w).val / 256 ^ i % 256 : Nat) := by
  have hm : [Dn.i (n + 2 * i) (.sh .shr .u64 (.ep w (i / 8)) (8 * (i % 8))), Dn.i (n + 2 * i + 1) (.cv .u8 (.v (n + 2 * i)))] ∈ (List.range 32).map fun i => [Dn.i (n + 2 * i) (.sh .shr .u64 (.ep w (i / 8)) (8 * (i % 8))), Dn.i (n + 2 * i + 1) (.cv .u8 (.v (n + 2 * i)))] := List.mem_map.2 ⟨i, List.mem_range.2 hi, rfl⟩
  have d1 : e.i (n + 2 * i) = shI .shr .u64 ((w4 (e.f w).val (i / 8) : Nat) : Int) (8 * (i % 8)) := h (Dn.i (n + 2 * i) (.sh .shr .u64 (.ep w (i / 8)) (8 * (i % 8)))) (List.mem_flatten.2 ⟨_, hm, List.mem_cons_self ..⟩)
  have d2 : e.i (n + 2 * i + 1) = IntKind.u8.wrap (e.i (n + 2 * i)) := h (Dn.i (n + 2 * i + 1) (.cv .u8 (.v (n + 2 * i)))) (List.mem_flatten.2 ⟨_, hm, List.mem_cons_of_mem _ (List.mem_cons_self ..)⟩)
  rw [shr_natI (by omega)] at d1
  rw [d2, d1, wrap_u8]
  have := shr_byte (e.f w).val i hi
  unfold w4
  rw [← this]
  omega
/-- The bytes behind their names. -/
theorem byS_ev {e : Env} {n top v t : Nat} (h : ∀ i, i < 32 → e.i (n + 2 * i + 1) = (v / 256 ^ i % 256 : Nat)) (ht : e.i top = (t : Nat)) (h256 : t < 256) : (byS n top).map (FD.ev e) = Fin.ofNat q t :: (List.range 31).map fun j => byN v (31 - 1 - j) := by
  have one : ∀ (y : IE) (k : Nat), y.den e = (k : Nat) → (by1 y).ev e = Fin.ofNat q k := fun y k hy => by
    show Fin.ofNat q (v4 (y.den e) 0 0 0).toNat = _
    have : v4 (y.den e) 0 0 0 = y.den e := by unfold v4; omega
    rw [this, hy, Int.toNat_natCast]
  rw [byS, List.map_cons, List.map_map]
  congr 1
  · exact one _ _ ht
  · refine List.map_congr_left fun j hj => ?_
    have hj := List.mem_range.1 hj
    exact one _ _ (h (30 - j) (by omega))
theorem cons_num {v t : Nat} (hv : v < 256 ^ 32) (ht : t = v / 256 ^ 31) : bnum ((List.range 31).map fun j => byN v (31 - 1 - j)) t = v := by
  rw [bnum_by, ht]
  have := Nat.div_add_mod v (256 ^ 31)
  rw [Nat.mul_comm] at this
  exact this
theorem lt_bytes (x : Fq) : x.val < 256 ^ 32 := Nat.lt_of_lt_of_le x.isLt (by unfold q; decide)
theorem top_bd (x : Fq) : x.val / 256 ^ 31 < 64 := (Nat.div_lt_iff_lt_mul (by decide)).2 (Nat.lt_of_lt_of_le x.isLt (by unfold q; decide))
theorem top_mod (x : Fq) : x.val / 256 ^ 31 % 256 = x.val / 256 ^ 31 := Nat.mod_eq_of_lt (by have := top_bd x; omega)
theorem evs_is {e : Env} {l ds : List FD} {n m : Nat} (h32 : l.length = m) (h : ∀ d ∈ newEls n (l ++ ds), d.holds e) : (((List.range m).map (n + ·)).map e.f = l.map (FD.ev e)) ∧ ∀ (j : Nat) (d : FD), ds[j]? = some d → e.f (n + m + j) = d.ev e := by
  refine ⟨?_, fun j d hj => ?_⟩
  · refine List.ext_getElem? fun i => ?_
    rw [List.map_map, List.getElem?_map, List.getElem?_map]
    rcases Nat.lt_or_ge i m with hi | hi
    · rw [List.getElem?_range hi, List.getElem?_eq_getElem (by omega : i < l.length)]
      have := newEls_holds h i l[i] (by rw [List.getElem?_append_left (by omega), List.getElem?_eq_getElem (by omega : i < l.length)])
      show some (e.f (n + i)) = some _
      rw [this]
    · rw [List.getElem?_eq_none (l := List.range m) (by rw [List.length_range]; exact hi), List.getElem?_eq_none (l := l) (by omega)]
      rfl
  · have := newEls_holds h (m + j) d (by rw [List.getElem?_append_right (by omega), h32, show m + j - m = j by omega]; exact hj)
    rw [← this]
    congr 1
    omega
theorem sub2_goal {e : Env} {x y : Fq} {c : Nat} (hx : e.f 0 = x) (hy : e.f 1 = y) (hon : y * y = x * (x * x) + 3) (hc : c = 128 ∨ c = 192) (hg : decide (q < 2 * y.val) = decide (c = 192)) (h0 : ∀ d ∈ shD 0 0, d.holds e) : (tSub2 c).goal e (OkT e) := fun d64 => by
  have d64 : e.i 64 = IntKind.u8.wrap (e.i 63 + (c : Nat)) := d64
  have s0 := shD_holds h0
  rw [hx] at s0
  have h63 : e.i 63 = (x.val / 256 ^ 31 : Nat) := by
    have := s0 31 (by omega)
    rw [top_mod] at this
    exact this
  have htop := top_bd x
  have d64 : e.i 64 = (x.val / 256 ^ 31 + c : Nat) := by
    rw [d64, h63, wrap_u8]
    omega
  refine dnsT_goal fun h1 => dnsT_goal fun h2 => dnsT_goal fun h3 => dnsT_goal fun h4 => ?_
  have s1 := shD_holds h1
  have s2 := shD_holds h2
  rw [hx] at s1
  rw [hy] at s2
  have e1 := byS_ev (top := 64) (t := x.val / 256 ^ 31 + c) s0 d64 (by omega)
  have e2 := byS_ev (top := 128) (t := x.val / 256 ^ 31) s1 (by have := s1 31 (by omega); rw [top_mod] at this; exact this) (by omega)
  have htopy := top_bd y
  have e3 := byS_ev (top := 192) (t := y.val / 256 ^ 31) s2 (by have := s2 31 (by omega); rw [top_mod] at this; exact this) (by omega)
  obtain ⟨a1, a2⟩ := evs_is (m := 32) rfl h3
  obtain ⟨b1, b2⟩ := evs_is (m := 64) rfl h4
  have a1 : (bIs 2).map e.f = (byS 0 64).map (FD.ev e) := a1
  have b1 : (bIs64 37).map e.f = (byS 65 128 ++ byS 129 192).map (FD.ev e) := b1
  rw [e1] at a1
  rw [List.map_append, e2, e3] at b1
  have hvx : ∀ t, t < 256 → (Fin.ofNat q t).val = t := fun t ht => Nat.mod_eq_of_lt (by unfold q; omega)
  have G : gP ((bIs 2).map e.f) = some (x, y) := by
    rw [a1, gP, hvx _ (by omega), if_neg (by omega), if_neg (by omega), sP, hvx _ (by omega)]
    have hm : (x.val / 256 ^ 31 + c) % 64 = x.val / 256 ^ 31 := by omega
    rw [hm, cons_num (lt_bytes x) rfl]
    have hd : decide (192 ≤ x.val / 256 ^ 31 + c) = decide (q < 2 * y.val) := by
      rw [hg, decide_eq_decide]
      omega
    rw [hd]
    exact rP_back hon
  have W : wP ((bIs64 37).map e.f) = some (x, y) := by
    have ht : ((bIs64 37).map e.f).take 32 = Fin.ofNat q (x.val / 256 ^ 31) :: (List.range 31).map fun j => byN x.val (31 - 1 - j) := by
      rw [b1]
      exact List.take_left' rfl
    have hd : ((bIs64 37).map e.f).drop 32 = Fin.ofNat q (y.val / 256 ^ 31) :: (List.range 31).map fun j => byN y.val (31 - 1 - j) := by
      rw [b1]
      exact List.drop_left' rfl
    have hh : ((bIs64 37).map e.f).headD 0 = Fin.ofNat q (x.val / 256 ^ 31) := by
      rw [b1]
      rfl
    have hnx : bnum (((bIs64 37).map e.f).take 32) 0 = x.val := by rw [ht, bnum_cons, hvx _ (by omega), cons_num (lt_bytes x) rfl]
    have hny : bnum (((bIs64 37).map e.f).drop 32) 0 = y.val := by rw [hd, bnum_cons, hvx _ (by omega), cons_num (lt_bytes y) rfl]
    have fx : ∀ z : Fq, Fin.ofNat q z.val = z := fun z => Fin.ext (Nat.mod_eq_of_lt z.isLt)
    unfold wP
    rw [hh, hvx _ (by omega), if_pos htop, hnx, hny, if_pos ⟨x.isLt, y.isLt⟩]
    dsimp only
    rw [fx, fx, if_pos (.inr hon)]
  have hh : ((((bIs64 37).map e.f).headD 0).val < 64) := by
    rw [b1]
    show (Fin.ofNat q (x.val / 256 ^ 31)).val < 64
    rw [hvx _ (by omega)]
    exact htop
  have f34 : e.f 34 = ((gP ((bIs 2).map e.f)).getD (0, 0)).1 := a2 0 _ rfl
  have f35 : e.f 35 = ((gP ((bIs 2).map e.f)).getD (0, 0)).2 := a2 1 _ rfl
  have f36 : e.f 36 = if (gP ((bIs 2).map e.f)).isSome then 32 else 0 := a2 2 _ rfl
  have f101 : e.f 101 = ((wP ((bIs64 37).map e.f)).getD (0, 0)).1 := b2 0 _ rfl
  have f102 : e.f 102 = ((wP ((bIs64 37).map e.f)).getD (0, 0)).2 := b2 1 _ rfl
  have f103 : e.f 103 = if (wP ((bIs64 37).map e.f)).isSome then (if (((bIs64 37).map e.f).headD 0).val < 64 then 64 else 32) else 0 := b2 2 _ rfl
  have n6 : (BE.fn 6 (bIs 2)).den e = (gP ((bIs 2).map e.f)).isSome := rfl
  have n8 : (BE.fn 8 (bIs64 37)).den e = (wP ((bIs64 37).map e.f)).isSome := rfl
  rw [G] at f34 f35 f36 n6
  rw [W, if_pos hh] at f103
  rw [W] at f101 f102 n8
  have f34 : e.f 34 = x := f34
  have f35 : e.f 35 = y := f35
  have f36 : e.f 36 = 32 := f36
  have f101 : e.f 101 = x := f101
  have f102 : e.f 102 = y := f102
  have f103 : e.f 103 = 64 := f103
  refine ⟨fun _ => ⟨fun _ => ⟨fun _ => ⟨fun _ => ⟨fun _ => ⟨fun _ => ⟨fun _ => ⟨fun β => ?_, rfl⟩, fun k => ?_⟩, fun k => ?_⟩, fun k => ?_⟩, fun k => ?_⟩, fun k => ?_⟩, fun k => ?_⟩, fun k => ?_⟩
  · show Value.bool (((w4 (e.f 103).val 0 : Nat) : Int) == 64) = _
    rw [f103]
    congr 1
  · have k : (((w4 (e.f 36).val 0 : Nat) : Int) == 32) = false := k
    rw [f36] at k
    exact absurd k (by decide)
  · exact absurd (f102.trans hy.symm) (fe_f k)
  · exact absurd (f101.trans hx.symm) (fe_f k)
  · exact absurd (f35.trans hy.symm) (fe_f k)
  · exact absurd (f34.trans hx.symm) (fe_f k)
  · rw [n8] at k; cases k
  · rw [n6] at k; cases k
theorem subB_goal {e : Env} {x y : Fq} (hx : e.f 0 = x) (hy : e.f 1 = y) (hon : y * y = x * (x * x) + 3) : tSubB.goal e (OkT e) := dnsT_goal fun h0 => by
  refine ⟨fun c => ?_, fun c => ?_⟩
  · have c : decide (q < 2 * (e.f 1).val) = true := c
    rw [hy] at c
    exact sub2_goal (c := 192) hx hy hon (.inr rfl) (by rw [c]; rfl) h0
  · have c : decide (q < 2 * (e.f 1).val) = false := c
    rw [hy] at c
    exact sub2_goal (c := 128) hx hy hon (.inl rfl) (by rw [c]; rfl) h0
theorem back_goal (e : Env) : tBack.goal e (OkT e) := by
  refine ⟨fun c => ?_, fun _ => lfY_goal⟩
  have c : decide ((e.f 0 = 0 ∧ e.f 1 = 0) ∨ e.f 1 * e.f 1 = e.f 0 * (e.f 0 * e.f 0) + 3) = true := c
  have c := of_decide_eq_true c
  refine ⟨fun z => ⟨fun _ => lfY_goal, fun z1 => ?_⟩, fun z => ?_⟩
  · exact subB_goal rfl rfl (c.resolve_left fun h => fz_f z1 h.2)
  · exact subB_goal rfl rfl (c.resolve_left fun h => fz_f z h.1)
end Go.Sx
namespace Go.Sx
open Go Go.ChangeShapes Go.WideShapes Go.ChangeAt Go.RowKit
set_option maxRecDepth 100000
/-! ### A law of a point, at a world whose first variable holds an error -/
section
variable {P : Program} {qf pf : QSum} (hm : P.follows .mixedOrders = true) (hnum : NumOk P) (hq : QOk P qf) (hp : POk P pf) {f : FuncId}
include hm hnum hq hp
theorem law_pt {t : Tree Lf} {ty : TypeId} (h : sxCall P qf pf 5000 f [.one (.agg (eps 0 ++ eps 1))] (hp0 (gl8 [] ty) 0 2) leafE = some t) (hbd : t.bd 0 0 2 = true) {w : World} (hw : ErrAt w ty) (x y : Fq)
    (law : ∀ e, t.goal e fun l => (∀ β, l.1.den β e = .bool true) ∧ l.2 = []) : QuietRun P (callFunc f #[.agg (epV x ++ epV y).toArray]) (.bool true) w := by
  obtain ⟨pe, hge, hps, hpb⟩ := hw
  have hgb : (0 : Nat) < w.heap.size := cell_block hge
  let ext : Nat → Addr := fun j => if j = 6 then pe else ⟨0, 0, none⟩
  let e : Env := { i := fun _ => 0, b := fun _ => false, f := fsOf [x, y], ext := ext }
  have hargs : ∀ e', AgreeE 0 0 2 e e' → [SV.one (.agg (eps 0 ++ eps 1))].map (SV.den (fun _ => 0) e') = [.agg (epV x ++ epV y).toArray] := fun e' ha => by
    have e0 : e'.f 0 = x := ha.f 0 (by omega)
    have e1 : e'.f 1 = y := ha.f 1 (by omega)
    show [Value.agg (epV (e'.f 0) ++ epV (e'.f 1)).toArray] = _
    rw [e0, e1]
  have key := fn_of_tree hm hnum hq hp h hbd (w := w) (e := e) (β := fun _ => 0)
    (fun e' ha => by
      have hx1 : e'.ext = ext := ha.ext
      refine hp0_relG (fun j c hj => ?_) rfl (fun k c hk => ?_)
      · rw [hx1]
        match j, hj with
        | 0, hj => cases hj; exact ⟨hgb, ⟨rfl, fun i v hi => by simp at hi⟩, fun a ha => by cases ha⟩
        | 1, hj => cases hj; exact ⟨hgb, ⟨rfl, fun i v hi => by simp at hi⟩, fun a ha => by cases ha⟩
        | 2, hj => cases hj; exact ⟨hgb, ⟨rfl, fun i v hi => by simp at hi⟩, fun a ha => by cases ha⟩
        | 3, hj => cases hj; exact ⟨hgb, ⟨rfl, fun i v hi => by simp at hi⟩, fun a ha => by cases ha⟩
        | 4, hj => cases hj; exact ⟨hgb, ⟨rfl, fun i v hi => by simp at hi⟩, fun a ha => by cases ha⟩
        | 5, hj => cases hj; exact ⟨hgb, ⟨rfl, fun i v hi => by simp at hi⟩, fun a ha => by cases ha⟩
        | 6, hj => cases hj; exact ⟨hpb, ⟨hps, fun i v hi => by simp at hi⟩, fun a ha => by cases ha⟩
        | 7, hj =>
          cases hj
          refine ⟨hgb, ?_, fun a ha => ?_⟩
          · have : ([Atom.iface ty (.ptr ⟨.ext 6, 0⟩)].map (Atom.den (fun _ => 0) e')) = [.iface ty (.pointer (some pe))] := by
              show [Value.iface ty (.pointer (some ⟨(e'.ext 6).block, (e'.ext 6).off + 0, none⟩))] = _
              rw [hx1]
              show [Value.iface ty (.pointer (some ⟨pe.block, pe.off + 0, none⟩))] = _
              obtain ⟨b, o, s⟩ := pe
              simp only at hps
              subst hps
              rfl
            rw [this]
            exact hge
          · cases List.mem_singleton.1 ha
            trivial
        | j + 8, hj => simp [gl8] at hj
      · rw [hx1]
        match k, hk with
        | 0, hk => rfl
        | k + 1, hk => simp [gl8] at hk)
    (fun e' ha s hs => by
      cases List.mem_singleton.1 hs
      intro a ha
      rcases List.mem_append.1 ha with h | h
      · exact eps_ok _ _ _ a h
      · exact eps_ok _ _ _ a h)
    (fun e' ha => by rw [hargs e' ha, hargs _ (AgreeE.refl _ _ _ _)])
    (fun e' l => (∀ β, l.1.den β e' = .bool true) ∧ l.2 = []) (fun e' ha => law e')
  rw [hargs _ (AgreeE.refl _ _ _ _)] at key
  unfold QuietRun
  rw [key.1]
  refine key.2.mono fun en w' ⟨v, log, β', e', cnt, g1, g2, g3, g4, g5, g6⟩ => ?_
  obtain ⟨g51, g52⟩ := g5
  simp only at g51 g52
  subst g52
  exact ⟨by rw [g1, g51], g6⟩
/-- At every two numbers. -/
theorem pt_law {ty : TypeId} {n : Nat} {qg : QSum} (hqg : QOk P qg)
    (hk : (List.range 2).all (fun k => okTrue 8 k (sxCall P qg pf n f (coArgs k 0 [2]) (coH 2 k) leafE)) = true)
    {t : Tree Lf} (h : sxCall P qf pf 5000 f [.one (.agg (eps 0 ++ eps 1))] (hp0 (gl8 [] ty) 0 2) leafE = some t) (hbd : t.bd 0 0 2 = true)
    (law : ∀ e : Env, t.goal e (IsTrue e)) (N : Nat → Nat) (hN : ∀ j, N j < RR) (w : World) (hw : ErrAt w ty) : QuietRun P (callFunc f (coVals N 0 [2]).toArray) (.bool true) w := by
  by_cases hall : ∀ j, j < 2 → N j < q
  · have h0 := hall 0 (by omega)
    have h1 := hall 1 (by omega)
    have := law_pt hm hnum hq hp h hbd hw (Fin.ofNat q (N 0)) (Fin.ofNat q (N 1)) law
    unfold epV at this
    rw [show (Fin.ofNat q (N 0)).val = N 0 from Nat.mod_eq_of_lt h0, show (Fin.ofNat q (N 1)).val = N 1 from Nat.mod_eq_of_lt h1] at this
    exact this
  · have hex : ∃ k, k < 2 ∧ q ≤ N k := by
      by_cases hne : ∃ k, k < 2 ∧ q ≤ N k
      · exact hne
      · exact absurd (fun j hj => Nat.lt_of_not_le fun hle => hne ⟨j, hj, hle⟩) hall
    obtain ⟨k0, hk0⟩ := hex
    obtain ⟨k, ⟨hk1, hk2⟩, _, hmin⟩ := least (q := fun k => k < 2 ∧ q ≤ N k) k0 hk0
    have hb := List.all_eq_true.1 hk k (List.mem_range.2 hk1)
    unfold okTrue at hb
    split at hb
    · rename_i t' ht'
      rw [Bool.and_eq_true] at hb
      exact co_run (sh := [2]) hm hnum hqg hp (Nat.le_of_lt hk1) ht' hb.2 N hN (fun j hj => Nat.lt_of_not_le fun hle => hmin j hj ⟨by omega, hle⟩) (fun _ => hk2) (fun e _ => Tree.allTrue_goal hb.1) w
    · cases hb
end
theorem pt_fits {P : Program} {f : FuncId} {w : World} (h : ∀ N : Nat → Nat, (∀ j, N j < RR) → QuietRun P (callFunc f (coVals N 0 [2]).toArray) (.bool true) w) (vss : List (List Value)) (hv : FitsAll [kind4 2] vss) :
    QuietRun P (callFunc f (vss.map fun vs => Value.agg vs.toArray).toArray) (.bool true) w := by
  obtain ⟨l, h1, h2, h3⟩ := fitsAll4 [2] hv
  rw [h3 (fun j => l.getD j 0) 0 fun j _ => by rw [Nat.zero_add]]
  refine h _ fun j => ?_
  rw [List.getD_eq_getElem?_getD]
  cases hj : l[j]? with
  | none => exact (by decide : 0 < RR)
  | some x => exact h2 x (List.mem_of_getElem? hj)
end Go.Sx
