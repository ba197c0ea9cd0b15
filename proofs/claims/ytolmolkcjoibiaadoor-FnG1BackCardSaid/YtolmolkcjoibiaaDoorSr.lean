import Derived.Test.YtolmolkcjoibiaaDoorFie
import Derived.Test.YtolmolkcjoibiaaDoorSp
import Derived.Test.YtolmolkcjoibiaaDoorSq
/- Aids to the claim: what is shown here is said at each theorem. -/
namespace Go.Sx
/-! ### Sums of points: what three coordinates give, by one inverse -/
theorem two_mul_ne {y : Fq} (h : y ≠ 0) : y + y ≠ 0 := fun h2 => by
  have : (2 : Fq) * y = 0 := by grind
  rcases mul_zero_or this with h3 | h3
  · exact two_ne h3
  · exact h h3
theorem dbl_x {x y a M S T : Fq} (hz : (y + y) * a = 1) (hM : M = x * x + x * x + x * x) (hS : S = (x + y * y) * (x + y * y) - x * x - y * y * (y * y) + ((x + y * y) * (x + y * y) - x * x - y * y * (y * y))) (hT : T = M * M - S - S) :
    T * (a * a) = (3 * (x * x) * a) * (3 * (x * x) * a) - x - x := by
  have h1 : S = x * ((y + y) * (y + y)) := by rw [hS]; grind
  have h2 : S * (a * a) = x := by
    rw [h1]
    have : x * ((y + y) * (y + y)) * (a * a) = x * (((y + y) * a) * ((y + y) * a)) := by grind
    rw [this, hz]
    grind
  have h3 : T * (a * a) = M * a * (M * a) - S * (a * a) - S * (a * a) := by rw [hT]; grind
  have h4 : M = 3 * (x * x) := by rw [hM]; grind
  rw [h3, h2, h4]
theorem dbl_y {x y a M S T : Fq} (hz : (y + y) * a = 1) (hM : M = x * x + x * x + x * x) (hS : S = (x + y * y) * (x + y * y) - x * x - y * y * (y * y) + ((x + y * y) * (x + y * y) - x * x - y * y * (y * y))) :
    ((S - T) * M - (y * y * (y * y) + y * y * (y * y) + (y * y * (y * y) + y * y * (y * y)) + (y * y * (y * y) + y * y * (y * y) + (y * y * (y * y) + y * y * (y * y))))) * (a * a) * a = (3 * (x * x) * a) * (x - T * (a * a)) - y := by
  have h1 : S = x * ((y + y) * (y + y)) := by rw [hS]; grind
  have h2 : S * (a * a) = x := by
    rw [h1]
    have : x * ((y + y) * (y + y)) * (a * a) = x * (((y + y) * a) * ((y + y) * a)) := by grind
    rw [this, hz]
    grind
  have h4 : M = 3 * (x * x) := by rw [hM]; grind
  have h5 : (y * y * (y * y) + y * y * (y * y) + (y * y * (y * y) + y * y * (y * y)) + (y * y * (y * y) + y * y * (y * y) + (y * y * (y * y) + y * y * (y * y)))) * (a * a) * a = y * (((y + y) * a) * ((y + y) * a) * ((y + y) * a)) := by grind
  have h6 : ((S - T) * M - (y * y * (y * y) + y * y * (y * y) + (y * y * (y * y) + y * y * (y * y)) + (y * y * (y * y) + y * y * (y * y) + (y * y * (y * y) + y * y * (y * y))))) * (a * a) * a =
      (M * a) * (S * (a * a) - T * (a * a)) - (y * y * (y * y) + y * y * (y * y) + (y * y * (y * y) + y * y * (y * y)) + (y * y * (y * y) + y * y * (y * y) + (y * y * (y * y) + y * y * (y * y)))) * (a * a) * a := by grind
  rw [h6, h5, hz, h2, h4]
  grind
theorem chord_s {x1 y1 x2 y2 a : Fq} (hz : (x2 - x1 + (x2 - x1)) * a = 1) : (y2 - y1) * finv (x2 - x1) = (y2 - y1 + (y2 - y1)) * a := by
  have : finv (x2 - x1) = a + a := finv_of (by rw [← hz]; grind)
  rw [this]
  grind
theorem chord_x {x1 x2 r a I X3 : Fq} (hz : (x2 - x1 + (x2 - x1)) * a = 1) (hI : I = (x2 - x1) * (x2 - x1) + (x2 - x1) * (x2 - x1) + ((x2 - x1) * (x2 - x1) + (x2 - x1) * (x2 - x1))) (hX : X3 = r * r - (x2 - x1) * I - x1 * I - x1 * I) :
    X3 * (a * a) = (r * a) * (r * a) - x1 - x2 := by
  have h1 : I * (a * a) = 1 := by
    have : I * (a * a) = ((x2 - x1 + (x2 - x1)) * a) * ((x2 - x1 + (x2 - x1)) * a) := by rw [hI]; grind
    rw [this, hz]
    grind
  have h2 : X3 * (a * a) = (r * a) * (r * a) - (x2 - x1) * (I * (a * a)) - x1 * (I * (a * a)) - x1 * (I * (a * a)) := by rw [hX]; grind
  rw [h2, h1]
  grind
theorem chord_y {x1 x2 y1 r a I X3 : Fq} (hz : (x2 - x1 + (x2 - x1)) * a = 1) (hI : I = (x2 - x1) * (x2 - x1) + (x2 - x1) * (x2 - x1) + ((x2 - x1) * (x2 - x1) + (x2 - x1) * (x2 - x1))) :
    ((x1 * I - X3) * r - (y1 * ((x2 - x1) * I) + y1 * ((x2 - x1) * I))) * (a * a) * a = (r * a) * (x1 - X3 * (a * a)) - y1 := by
  have h1 : I * (a * a) = 1 := by
    have : I * (a * a) = ((x2 - x1 + (x2 - x1)) * a) * ((x2 - x1 + (x2 - x1)) * a) := by rw [hI]; grind
    rw [this, hz]
    grind
  have h2 : ((x1 * I - X3) * r - (y1 * ((x2 - x1) * I) + y1 * ((x2 - x1) * I))) * (a * a) * a = (r * a) * (x1 * (I * (a * a)) - X3 * (a * a)) - y1 * (I * (a * a)) * ((x2 - x1 + (x2 - x1)) * a) := by grind
  rw [h2, h1, hz]
  grind
/-- The sum, case by case. -/
theorem add1_zero (r : P1) : add1 (0, 0) r = r := by unfold add1; rw [if_pos rfl]
theorem add1_zero' {p : P1} (h : p ≠ (0, 0)) : add1 p (0, 0) = p := by unfold add1; rw [if_neg h, if_pos rfl]
theorem add1_none {p r : P1} (h : p ≠ (0, 0)) (h' : r ≠ (0, 0)) (h1 : p.1 = r.1) (h2 : ¬ (p.2 = r.2 ∧ p.2 ≠ 0)) : add1 p r = (0, 0) := by
  unfold add1
  rw [if_neg h, if_neg h', if_pos ⟨h1, h2⟩]
theorem add1_dbl {p r : P1} (h : p ≠ (0, 0)) (h' : r ≠ (0, 0)) (h1 : p.1 = r.1) (h2 : p.2 = r.2) (h3 : p.2 ≠ 0) {s x : Fq} (hs : s = 3 * (p.1 * p.1) * finv (p.2 + p.2)) (hx : x = s * s - p.1 - p.1) : add1 p r = (x, s * (p.1 - x) - p.2) := by
  unfold add1
  rw [if_neg h, if_neg h', if_neg (fun g => g.2 ⟨h2, h3⟩)]
  simp only
  rw [if_neg (fun g => g h1), ← hs, ← h1, ← hx]
theorem add1_chord {p r : P1} (h : p ≠ (0, 0)) (h' : r ≠ (0, 0)) (h1 : p.1 ≠ r.1) {s x : Fq} (hs : s = (r.2 - p.2) * finv (r.1 - p.1)) (hx : x = s * s - p.1 - r.1) : add1 p r = (x, s * (p.1 - x) - p.2) := by
  unfold add1
  rw [if_neg h, if_neg h', if_neg (fun g => h1 g.1)]
  simp only
  rw [if_pos h1, ← hs, ← hx]
end Go.Sx
namespace Go.Sx
open Go
set_option maxRecDepth 100000
/-! ### Out of Montgomery's form: a table -/
def bkF (fn : FuncId) : QSum := fun f args h =>
  bif Nat.beq f fn then match args with
    | [.one (.at (.ptr x))] => match rd4 h x with
      | some wx => match elOf h wx with
        | some (d1, i, h1) => match wr h1 x.root x.off (eps i) with
            | some h3 => some (d1, .tup [], h3)
            | none => none
        | none => none
      | none => none
    | _ => none
  else none
theorem bkF_p {P : Program} {fn : FuncId} (hc : BackC P fn) : POk P (bkF fn) := by
  intro f args h ds v h' hh
  unfold bkF at hh
  cases hb : Nat.beq f fn with
  | false => rw [hb] at hh; cases hh
  | true =>
    rw [hb] at hh
    have hf := Nat.eq_of_beq_eq_true hb
    subst hf
    simp only [cond_true] at hh
    split at hh
    · rename_i x
      split at hh
      · rename_i wx hx
        split at hh
        · rename_i d1 i h1 he1
          split at hh
          · rename_i h3 hw
            cases hh
            obtain ⟨m1, s1⟩ := elOf_sound he1
            have hcnt := (wr_cnt hw).trans m1.2.1
            refine ⟨hcnt, fun w0 e β w hr hok hds => ?_⟩
            have hr' := hr.same m1
            obtain ⟨⟨cx, hcx⟩, ox, ax⟩ := rd4_sound hr hx
            have ix := s1 e hr.facts ox hds
            obtain ⟨b1, b2, b3, _⟩ := wr_sound (eps i) hr' (r := x.root) (o := x.off) (eps_ok _ _ _) hw
            have px : Place w (x.den β e) := ⟨⟨_, _, _, _, ox.1, ox.2.1, ox.2.2.1, ox.2.2.2, ax⟩, unfrozen_of (a := x) b1⟩
            obtain ⟨k1, k2⟩ := hc w (x.den β e) (e.f i) px (by rw [is_words ix] at ax; exact ax)
            refine ⟨(fun s hs => absurd hs (List.not_mem_nil)), k1, k2.mono fun en w' ⟨g1, g2⟩ => ⟨g1, ?_, ?_⟩⟩
            · rw [eps_den] at b2
              exact b2.grow g2
            · have := g2.size
              rw [setCells_size] at this
              exact this
          · cases hh
        · cases hh
      · cases hh
    · cases hh
end Go.Sx
namespace Go.Sx
open Go
set_option maxRecDepth 100000
/-! ### Points of the first curve: the trees of their sums -/
def Gives (tup : Bool) (p : P1) (e : Env) (l : Lf) : Prop := (∀ β, l.1.den β e = outV tup [p.1, p.2]) ∧ l.2 = []
def out2 (tup : Bool) (i j : Nat) : Tree Lf := .leaf (outS tup [i, j], [])
theorem out2_goal {tup : Bool} {i j : Nat} {e : Env} {p : P1} (h1 : e.f i = p.1) (h2 : e.f j = p.2) : (out2 tup i j).goal e (Gives tup p e) := by
  refine ⟨fun β => ?_, rfl⟩
  rw [outS_den]
  simp only [List.map_cons, List.map_nil, h1, h2]
def zerT (tup : Bool) (n : Nat) : Tree Lf := .dn (.f n (.k 0)) (.dn (.f (n + 1) (.k 0)) (out2 tup n (n + 1)))
theorem zerT_goal {tup : Bool} {n : Nat} {e : Env} {p : P1} (h : p = (0, 0)) : (zerT tup n).goal e (Gives tup p e) := fun d0 d1 => by
  subst h
  have d0 : e.f n = 0 := d0
  have d1 : e.f (n + 1) = 0 := d1
  exact out2_goal d0 d1
/-- The last part: by one inverse. -/
def affT (tup : Bool) (n X Y Z : Nat) : Tree Lf :=
  .br (.fz Z) (zerT tup n) (.dn (.f n (.fn 0 [Z])) <| .dn (.f (n + 1) (.mul n n)) <| .dn (.f (n + 2) (.mul X (n + 1))) <| .dn (.f (n + 3) (.mul Y (n + 1))) <| .dn (.f (n + 4) (.mul (n + 3) n)) <| out2 tup (n + 2) (n + 4))
theorem affT_goal {tup : Bool} {n X Y Z : Nat} {e : Env} {p : P1} (hz : e.f Z = 0 → p = (0, 0)) (h : ∀ a, e.f Z * a = 1 → e.f X * (a * a) = p.1 ∧ e.f Y * (a * a) * a = p.2) : (affT tup n X Y Z).goal e (Gives tup p e) := by
  refine ⟨fun g => zerT_goal (hz (of_decide_eq_true g)), fun g d0 d1 d2 d3 d4 => ?_⟩
  have g : e.f Z ≠ 0 := of_decide_eq_false g
  have d0 := dfn0 d0
  have d1 : e.f (n + 1) = e.f n * e.f n := d1
  have d2 : e.f (n + 2) = e.f X * e.f (n + 1) := d2
  have d3 : e.f (n + 3) = e.f Y * e.f (n + 1) := d3
  have d4 : e.f (n + 4) = e.f (n + 3) * e.f n := d4
  obtain ⟨h1, h2⟩ := h (e.f n) (by rw [d0]; exact mul_finv g)
  exact out2_goal (by rw [d2, d1, h1]) (by rw [d4, d3, d1, h2])
def dblT (tup : Bool) (n x y : Nat) : Tree Lf :=
  .dn (.f n (.mul x x)) <| .dn (.f (n + 1) (.mul y y)) <| .dn (.f (n + 2) (.mul (n + 1) (n + 1))) <| .dn (.f (n + 3) (.add x (n + 1))) <| .dn (.f (n + 4) (.mul (n + 3) (n + 3))) <| .dn (.f (n + 5) (.sub (n + 4) n)) <| .dn (.f (n + 6) (.sub (n + 5) (n + 2))) <|
  .dn (.f (n + 7) (.add (n + 6) (n + 6))) <| .dn (.f (n + 8) (.add n n)) <| .dn (.f (n + 9) (.add (n + 8) n)) <| .dn (.f (n + 10) (.mul (n + 9) (n + 9))) <| .dn (.f (n + 11) (.sub (n + 10) (n + 7))) <| .dn (.f (n + 12) (.sub (n + 11) (n + 7))) <|
  .dn (.f (n + 13) (.sub (n + 7) (n + 12))) <| .dn (.f (n + 14) (.mul (n + 13) (n + 9))) <| .dn (.f (n + 15) (.add (n + 2) (n + 2))) <| .dn (.f (n + 16) (.add (n + 15) (n + 15))) <| .dn (.f (n + 17) (.add (n + 16) (n + 16))) <| .dn (.f (n + 18) (.sub (n + 14) (n + 17))) <|
  .dn (.f (n + 19) (.add y y)) <| affT tup (n + 20) (n + 12) (n + 18) (n + 19)
theorem dblT_goal {tup : Bool} {n x y : Nat} {e : Env} {X Y : Fq} (hx : e.f x = X) (hy : e.f y = Y) : (dblT tup n x y).goal e (Gives tup (add1 (X, Y) (X, Y)) e) := by
  intro d0 d1 d2 d3 d4 d5 d6 d7 d8 d9 d10 d11 d12 d13 d14 d15 d16 d17 d18 d19
  have d0 : e.f n = e.f x * e.f x := d0
  have d1 : e.f (n + 1) = e.f y * e.f y := d1
  have d2 : e.f (n + 2) = e.f (n + 1) * e.f (n + 1) := d2
  have d3 : e.f (n + 3) = e.f x + e.f (n + 1) := d3
  have d4 : e.f (n + 4) = e.f (n + 3) * e.f (n + 3) := d4
  have d5 : e.f (n + 5) = e.f (n + 4) - e.f n := d5
  have d6 : e.f (n + 6) = e.f (n + 5) - e.f (n + 2) := d6
  have d7 : e.f (n + 7) = e.f (n + 6) + e.f (n + 6) := d7
  have d8 : e.f (n + 8) = e.f n + e.f n := d8
  have d9 : e.f (n + 9) = e.f (n + 8) + e.f n := d9
  have d10 : e.f (n + 10) = e.f (n + 9) * e.f (n + 9) := d10
  have d11 : e.f (n + 11) = e.f (n + 10) - e.f (n + 7) := d11
  have d12 : e.f (n + 12) = e.f (n + 11) - e.f (n + 7) := d12
  have d13 : e.f (n + 13) = e.f (n + 7) - e.f (n + 12) := d13
  have d14 : e.f (n + 14) = e.f (n + 13) * e.f (n + 9) := d14
  have d15 : e.f (n + 15) = e.f (n + 2) + e.f (n + 2) := d15
  have d16 : e.f (n + 16) = e.f (n + 15) + e.f (n + 15) := d16
  have d17 : e.f (n + 17) = e.f (n + 16) + e.f (n + 16) := d17
  have d18 : e.f (n + 18) = e.f (n + 14) - e.f (n + 17) := d18
  have d19 : e.f (n + 19) = e.f y + e.f y := d19
  rw [hx] at d0 d3
  rw [hy] at d1 d19
  refine affT_goal (fun g => ?_) fun a ha => ?_
  · rw [d19] at g
    have hY : Y = 0 := by
      rcases Decidable.em (Y = 0) with h | h
      · exact h
      · exact absurd g (two_mul_ne h)
    subst hY
    by_cases hX : X = 0
    · subst hX; exact add1_zero _
    · exact add1_none (by simp [hX]) (by simp [hX]) rfl (fun g => g.2 rfl)
  · rw [d19] at ha
    have hY : Y ≠ 0 := by
      rintro rfl
      have : (0 + 0 : Fq) * a = 0 := by grind
      rw [this] at ha
      exact absurd ha (by decide)
    have hp : ((X, Y) : P1) ≠ (0, 0) := by simp [hY]
    have hM : e.f (n + 9) = X * X + X * X + X * X := by rw [d9, d8, d0]
    have hS : e.f (n + 7) = (X + Y * Y) * (X + Y * Y) - X * X - Y * Y * (Y * Y) + ((X + Y * Y) * (X + Y * Y) - X * X - Y * Y * (Y * Y)) := by rw [d7, d6, d5, d4, d3, d2, d1, d0]
    have hT : e.f (n + 12) = e.f (n + 9) * e.f (n + 9) - e.f (n + 7) - e.f (n + 7) := by rw [d12, d11, d10]
    have h8 : e.f (n + 17) = Y * Y * (Y * Y) + Y * Y * (Y * Y) + (Y * Y * (Y * Y) + Y * Y * (Y * Y)) + (Y * Y * (Y * Y) + Y * Y * (Y * Y) + (Y * Y * (Y * Y) + Y * Y * (Y * Y))) := by rw [d17, d16, d15, d2, d1]
    have hx3 := dbl_x ha hM hS hT
    have hy3 := dbl_y (T := e.f (n + 12)) ha hM hS
    have hinv : finv (Y + Y) = a := finv_of ha
    rw [add1_dbl hp hp rfl rfl hY rfl rfl]
    simp only
    rw [hinv]
    refine ⟨hx3, ?_⟩
    rw [d18, d14, d13, h8, hy3, hx3]
def chordT (tup : Bool) (n x1 y1 x2 y2 : Nat) : Tree Lf :=
  .dn (.f n (.sub x2 x1)) <| .dn (.f (n + 1) (.mul n n)) <| .dn (.f (n + 2) (.add (n + 1) (n + 1))) <| .dn (.f (n + 3) (.add (n + 2) (n + 2))) <| .dn (.f (n + 4) (.mul n (n + 3))) <| .dn (.f (n + 5) (.sub y2 y1)) <| .dn (.f (n + 6) (.add (n + 5) (n + 5))) <|
  .dn (.f (n + 7) (.mul x1 (n + 3))) <| .dn (.f (n + 8) (.mul (n + 6) (n + 6))) <| .dn (.f (n + 9) (.sub (n + 8) (n + 4))) <| .dn (.f (n + 10) (.sub (n + 9) (n + 7))) <| .dn (.f (n + 11) (.sub (n + 10) (n + 7))) <| .dn (.f (n + 12) (.sub (n + 7) (n + 11))) <|
  .dn (.f (n + 13) (.mul (n + 12) (n + 6))) <| .dn (.f (n + 14) (.mul y1 (n + 4))) <| .dn (.f (n + 15) (.add (n + 14) (n + 14))) <| .dn (.f (n + 16) (.sub (n + 13) (n + 15))) <| .dn (.f (n + 17) (.add n n)) <| affT tup (n + 18) (n + 11) (n + 16) (n + 17)
theorem chordT_goal {tup : Bool} {n x1 y1 x2 y2 : Nat} {e : Env} {p r : P1} (h1 : e.f x1 = p.1) (h2 : e.f y1 = p.2) (h3 : e.f x2 = r.1) (h4 : e.f y2 = r.2) (hp : p ≠ (0, 0)) (hr : r ≠ (0, 0)) (hne : p.1 ≠ r.1) : (chordT tup n x1 y1 x2 y2).goal e (Gives tup (add1 p r) e) := by
  intro d0 d1 d2 d3 d4 d5 d6 d7 d8 d9 d10 d11 d12 d13 d14 d15 d16 d17
  have d0 : e.f n = e.f x2 - e.f x1 := d0
  have d1 : e.f (n + 1) = e.f n * e.f n := d1
  have d2 : e.f (n + 2) = e.f (n + 1) + e.f (n + 1) := d2
  have d3 : e.f (n + 3) = e.f (n + 2) + e.f (n + 2) := d3
  have d4 : e.f (n + 4) = e.f n * e.f (n + 3) := d4
  have d5 : e.f (n + 5) = e.f y2 - e.f y1 := d5
  have d6 : e.f (n + 6) = e.f (n + 5) + e.f (n + 5) := d6
  have d7 : e.f (n + 7) = e.f x1 * e.f (n + 3) := d7
  have d8 : e.f (n + 8) = e.f (n + 6) * e.f (n + 6) := d8
  have d9 : e.f (n + 9) = e.f (n + 8) - e.f (n + 4) := d9
  have d10 : e.f (n + 10) = e.f (n + 9) - e.f (n + 7) := d10
  have d11 : e.f (n + 11) = e.f (n + 10) - e.f (n + 7) := d11
  have d12 : e.f (n + 12) = e.f (n + 7) - e.f (n + 11) := d12
  have d13 : e.f (n + 13) = e.f (n + 12) * e.f (n + 6) := d13
  have d14 : e.f (n + 14) = e.f y1 * e.f (n + 4) := d14
  have d15 : e.f (n + 15) = e.f (n + 14) + e.f (n + 14) := d15
  have d16 : e.f (n + 16) = e.f (n + 13) - e.f (n + 15) := d16
  have d17 : e.f (n + 17) = e.f n + e.f n := d17
  rw [h1, h3] at d0
  rw [h2, h4] at d5
  rw [h1] at d7
  rw [h2] at d14
  have hd : r.1 - p.1 ≠ 0 := fun h => hne (by grind)
  refine affT_goal (fun g => ?_) fun a ha => ?_
  · rw [d17, d0] at g
    exact absurd g (two_mul_ne hd)
  · rw [d17, d0] at ha
    have hI : e.f (n + 3) = (r.1 - p.1) * (r.1 - p.1) + (r.1 - p.1) * (r.1 - p.1) + ((r.1 - p.1) * (r.1 - p.1) + (r.1 - p.1) * (r.1 - p.1)) := by rw [d3, d2, d1, d0]
    have hX : e.f (n + 11) = e.f (n + 6) * e.f (n + 6) - (r.1 - p.1) * e.f (n + 3) - p.1 * e.f (n + 3) - p.1 * e.f (n + 3) := by rw [d11, d10, d9, d8, d7, d4, d0]
    have hs := chord_s (y1 := p.2) (y2 := r.2) ha
    have hr6 : e.f (n + 6) = r.2 - p.2 + (r.2 - p.2) := by rw [d6, d5]
    rw [← hr6] at hs
    have hx3 := chord_x ha hI hX
    have hy3 := chord_y (y1 := p.2) (r := e.f (n + 6)) (X3 := e.f (n + 11)) ha hI
    rw [add1_chord hp hr hne hs.symm rfl]
    simp only
    refine ⟨hx3, ?_⟩
    rw [d16, d13, d12, d7, d15, d14, d4, d0, hy3, hx3]
end Go.Sx
namespace Go.Sx
open Go
set_option maxRecDepth 100000
def neg1 (p : P1) : P1 := (p.1, -p.2)
def tDouble : Tree Lf := .br (.fz 0) (.br (.fz 1) (dblT true 2 0 1) (dblT true 2 0 1)) (dblT true 2 0 1)
def coreT (tup : Bool) (n y : Nat) : Tree Lf := .br (.fe 0 2) (.br (.fe 1 y) (dblT tup n 0 1) (zerT tup n)) (chordT tup n 0 1 2 y)
def tAddR (tup : Bool) (n y : Nat) : Tree Lf := .br (.fz 2) (.br (.fz y) (out2 tup 0 1) (coreT tup n y)) (coreT tup n y)
def tAddP (tup : Bool) (n y : Nat) : Tree Lf := .br (.fz 0) (.br (.fz 1) (out2 tup 2 y) (tAddR tup n y)) (tAddR tup n y)
def tSubP : Tree Lf := .dn (.f 4 (.neg 3)) (tAddP true 5 4)
def tNegP : Tree Lf := .dn (.f 2 (.neg 1)) (out2 true 0 2)
def tNegS : Tree Lf := .dn (.f 2 (.k 0)) (.dn (.f 3 (.sub 2 1)) (out2 false 0 3))
def z8 : Tree Lf := .leaf (.one (.agg (List.replicate 8 (.int .u64 (.c 0)))), [])
def sdT : Tree Lf := .dn (.f 4 (.mul 0 0)) <| .dn (.f 5 (.k 3)) <| .dn (.f 6 (.mul 5 4)) <| .dn (.f 7 (.add 1 1)) <| .dn (.f 8 (.fn 0 [7])) <| .dn (.f 9 (.mul 6 8)) <| .dn (.f 10 (.mul 9 9)) <| .dn (.f 11 (.sub 10 0)) <| .dn (.f 12 (.sub 11 2)) <| .dn (.f 13 (.sub 0 12)) <|
  .dn (.f 14 (.mul 9 13)) <| .dn (.f 15 (.sub 14 1)) <| out2 false 12 15
def scT : Tree Lf := .dn (.f 4 (.sub 3 1)) <| .dn (.f 5 (.sub 2 0)) <| .dn (.f 6 (.fn 0 [5])) <| .dn (.f 7 (.mul 4 6)) <| .dn (.f 8 (.mul 7 7)) <| .dn (.f 9 (.sub 8 0)) <| .dn (.f 10 (.sub 9 2)) <| .dn (.f 11 (.sub 0 10)) <| .dn (.f 12 (.mul 7 11)) <| .dn (.f 13 (.sub 12 1)) <| out2 false 10 13
def sC1 : Tree Lf := .br (.fe 0 2) (.br (.fe 1 3) sdT z8) scT
def sC2 : Tree Lf := .br (.fe 0 2) (.br (.fe 1 3) (.br (.fz 1) z8 sdT) z8) scT
def sR1 : Tree Lf := .br (.fz 2) (.br (.fz 3) (out2 false 0 1) sC1) sC1
def sR2 : Tree Lf := .br (.fz 2) (.br (.fz 3) (out2 false 0 1) sC2) sC2
def tAddS : Tree Lf := .br (.fz 0) (.br (.fz 1) (out2 false 2 3) sR1) sR2
section
variable {e : Env} {p r : P1}
theorem z8_goal {p : P1} (h : p = (0, 0)) : z8.goal e (Gives false p e) := by
  subst h
  exact ⟨fun β => rfl, rfl⟩
theorem fz_t {k : Nat} (h : (BE.fz k).den e = true) : e.f k = 0 := of_decide_eq_true h
theorem fz_f {k : Nat} (h : (BE.fz k).den e = false) : e.f k ≠ 0 := of_decide_eq_false h
theorem fe_t {j k : Nat} (h : (BE.fe j k).den e = true) : e.f j = e.f k := of_decide_eq_true h
theorem fe_f {j k : Nat} (h : (BE.fe j k).den e = false) : e.f j ≠ e.f k := of_decide_eq_false h
theorem ne1 {p : P1} (h : p.1 ≠ 0) : p ≠ (0, 0) := fun g => h (by rw [g])
theorem ne2 {p : P1} (h : p.2 ≠ 0) : p ≠ (0, 0) := fun g => h (by rw [g])
theorem double_goal (h0 : e.f 0 = p.1) (h1 : e.f 1 = p.2) : tDouble.goal e (Gives true (add1 p p) e) :=
  ⟨fun _ => ⟨fun _ => dblT_goal h0 h1, fun _ => dblT_goal h0 h1⟩, fun _ => dblT_goal h0 h1⟩
theorem core_goal {tup : Bool} {n y : Nat} (h0 : e.f 0 = p.1) (h1 : e.f 1 = p.2) (h2 : e.f 2 = r.1) (h3 : e.f y = r.2) (hp : p ≠ (0, 0)) (hr : r ≠ (0, 0)) : (coreT tup n y).goal e (Gives tup (add1 p r) e) := by
  refine ⟨fun g => ⟨fun g2 => ?_, fun g2 => zerT_goal ?_⟩, fun g => chordT_goal h0 h1 h2 h3 hp hr ?_⟩
  · have e1 : p.1 = r.1 := by rw [← h0, ← h2]; exact fe_t g
    have e2 : p.2 = r.2 := by rw [← h1, ← h3]; exact fe_t g2
    have : r = p := Prod.ext e1.symm e2.symm
    rw [this]
    exact dblT_goal h0 h1
  · refine add1_none hp hr (by rw [← h0, ← h2]; exact fe_t g) fun h => fe_f g2 ?_
    rw [h1, h3]
    exact h.1
  · rw [← h0, ← h2]
    exact fe_f g
theorem addR_goal {tup : Bool} {n y : Nat} (h0 : e.f 0 = p.1) (h1 : e.f 1 = p.2) (h2 : e.f 2 = r.1) (h3 : e.f y = r.2) (hp : p ≠ (0, 0)) : (tAddR tup n y).goal e (Gives tup (add1 p r) e) := by
  refine ⟨fun g => ⟨fun g2 => ?_, fun g2 => core_goal h0 h1 h2 h3 hp (ne2 ?_)⟩, fun g => core_goal h0 h1 h2 h3 hp (ne1 ?_)⟩
  · have hr : r = (0, 0) := Prod.ext (h2.symm.trans (fz_t g)) (h3.symm.trans (fz_t g2))
    rw [hr, add1_zero' hp]
    exact out2_goal h0 h1
  · rw [← h3]; exact fz_f g2
  · rw [← h2]; exact fz_f g
theorem addP_goal {tup : Bool} {n y : Nat} (h0 : e.f 0 = p.1) (h1 : e.f 1 = p.2) (h2 : e.f 2 = r.1) (h3 : e.f y = r.2) : (tAddP tup n y).goal e (Gives tup (add1 p r) e) := by
  refine ⟨fun g => ⟨fun g2 => ?_, fun g2 => addR_goal h0 h1 h2 h3 (ne2 ?_)⟩, fun g => addR_goal h0 h1 h2 h3 (ne1 ?_)⟩
  · have hp : p = (0, 0) := Prod.ext (h0.symm.trans (fz_t g)) (h1.symm.trans (fz_t g2))
    rw [hp, add1_zero]
    exact out2_goal h2 h3
  · rw [← h1]; exact fz_f g2
  · rw [← h0]; exact fz_f g
theorem subP_goal (h0 : e.f 0 = p.1) (h1 : e.f 1 = p.2) (h2 : e.f 2 = r.1) (h3 : e.f 3 = r.2) : tSubP.goal e (Gives true (add1 p (neg1 r)) e) := fun d => by
  have d : e.f 4 = - e.f 3 := d
  exact addP_goal h0 h1 h2 (by rw [d, h3]; rfl)
theorem negP_goal (h0 : e.f 0 = p.1) (h1 : e.f 1 = p.2) : tNegP.goal e (Gives true (neg1 p) e) := fun d => by
  have d : e.f 2 = - e.f 1 := d
  exact out2_goal h0 (by rw [d, h1]; rfl)
theorem negS_goal (h0 : e.f 0 = p.1) (h1 : e.f 1 = p.2) : tNegS.goal e (Gives false (neg1 p) e) := fun d d' => by
  have d : e.f 2 = 0 := d
  have d' : e.f 3 = e.f 2 - e.f 1 := d'
  refine out2_goal h0 ?_
  rw [d', d, h1]
  show (0 : Fq) - p.2 = -p.2
  grind
theorem sd_goal (h0 : e.f 0 = p.1) (h1 : e.f 1 = p.2) (h2 : e.f 2 = r.1) (hp : p ≠ (0, 0)) (hr : r ≠ (0, 0)) (e1 : p.1 = r.1) (e2 : p.2 = r.2) (hy : p.2 ≠ 0) : sdT.goal e (Gives false (add1 p r) e) := by
  intro d4 d5 d6 d7 d8 d9 d10 d11 d12 d13 d14 d15
  have d4 : e.f 4 = e.f 0 * e.f 0 := d4
  have d5 : e.f 5 = 3 := d5
  have d6 : e.f 6 = e.f 5 * e.f 4 := d6
  have d7 : e.f 7 = e.f 1 + e.f 1 := d7
  have d8 := dfn0 d8
  have d9 : e.f 9 = e.f 6 * e.f 8 := d9
  have d10 : e.f 10 = e.f 9 * e.f 9 := d10
  have d11 : e.f 11 = e.f 10 - e.f 0 := d11
  have d12 : e.f 12 = e.f 11 - e.f 2 := d12
  have d13 : e.f 13 = e.f 0 - e.f 12 := d13
  have d14 : e.f 14 = e.f 9 * e.f 13 := d14
  have d15 : e.f 15 = e.f 14 - e.f 1 := d15
  rw [add1_dbl hp hr e1 e2 hy (s := e.f 9) (x := e.f 12) (by rw [d9, d6, d5, d4, d8, d7, h0, h1]) (by rw [d12, d11, d10, h0, h2, e1])]
  exact out2_goal rfl (by rw [d15, d14, d13, h0, h1])
theorem sc_goal (h0 : e.f 0 = p.1) (h1 : e.f 1 = p.2) (h2 : e.f 2 = r.1) (h3 : e.f 3 = r.2) (hp : p ≠ (0, 0)) (hr : r ≠ (0, 0)) (hne : p.1 ≠ r.1) : scT.goal e (Gives false (add1 p r) e) := by
  intro d4 d5 d6 d7 d8 d9 d10 d11 d12 d13
  have d4 : e.f 4 = e.f 3 - e.f 1 := d4
  have d5 : e.f 5 = e.f 2 - e.f 0 := d5
  have d6 := dfn0 d6
  have d7 : e.f 7 = e.f 4 * e.f 6 := d7
  have d8 : e.f 8 = e.f 7 * e.f 7 := d8
  have d9 : e.f 9 = e.f 8 - e.f 0 := d9
  have d10 : e.f 10 = e.f 9 - e.f 2 := d10
  have d11 : e.f 11 = e.f 0 - e.f 10 := d11
  have d12 : e.f 12 = e.f 7 * e.f 11 := d12
  have d13 : e.f 13 = e.f 12 - e.f 1 := d13
  rw [add1_chord hp hr hne (s := e.f 7) (x := e.f 10) (by rw [d7, d4, d6, d5, h0, h1, h2, h3]) (by rw [d10, d9, d8, h0, h2])]
  exact out2_goal rfl (by rw [d13, d12, d11, h0, h1])
theorem sC_goal (b : Bool) (h0 : e.f 0 = p.1) (h1 : e.f 1 = p.2) (h2 : e.f 2 = r.1) (h3 : e.f 3 = r.2) (hp : p ≠ (0, 0)) (hr : r ≠ (0, 0)) (hb : b = true → p.2 ≠ 0) : (bif b then sC1 else sC2).goal e (Gives false (add1 p r) e) := by
  have c : (BE.fe 0 2).den e = false → scT.goal e (Gives false (add1 p r) e) := fun g => sc_goal h0 h1 h2 h3 hp hr (by rw [← h0, ← h2]; exact fe_f g)
  have z : (BE.fe 0 2).den e = true → (BE.fe 1 3).den e = false → z8.goal e (Gives false (add1 p r) e) := fun g g2 => z8_goal (add1_none hp hr (by rw [← h0, ← h2]; exact fe_t g) fun h => fe_f g2 (by rw [h1, h3]; exact h.1))
  have s : (BE.fe 0 2).den e = true → (BE.fe 1 3).den e = true → p.2 ≠ 0 → sdT.goal e (Gives false (add1 p r) e) := fun g g2 hy => sd_goal h0 h1 h2 hp hr (by rw [← h0, ← h2]; exact fe_t g) (by rw [← h1, ← h3]; exact fe_t g2) hy
  cases b with
  | true => exact ⟨fun g => ⟨fun g2 => s g g2 (hb rfl), fun g2 => z g g2⟩, c⟩
  | false =>
    refine ⟨fun g => ⟨fun g2 => ⟨fun g3 => z8_goal (add1_none hp hr (by rw [← h0, ← h2]; exact fe_t g) fun h => h.2 ?_), fun g3 => s g g2 ?_⟩, fun g2 => z g g2⟩, c⟩
    · rw [← h1]; exact fz_t g3
    · rw [← h1]; exact fz_f g3
theorem sR_goal (b : Bool) (h0 : e.f 0 = p.1) (h1 : e.f 1 = p.2) (h2 : e.f 2 = r.1) (h3 : e.f 3 = r.2) (hp : p ≠ (0, 0)) (hb : b = true → p.2 ≠ 0) : (bif b then sR1 else sR2).goal e (Gives false (add1 p r) e) := by
  have z : (BE.fz 2).den e = true → (BE.fz 3).den e = true → (out2 false 0 1).goal e (Gives false (add1 p r) e) := fun g g2 => by
    have hr : r = (0, 0) := Prod.ext (h2.symm.trans (fz_t g)) (h3.symm.trans (fz_t g2))
    rw [hr, add1_zero' hp]
    exact out2_goal h0 h1
  have c : r ≠ (0, 0) → (bif b then sC1 else sC2).goal e (Gives false (add1 p r) e) := fun hr => sC_goal b h0 h1 h2 h3 hp hr hb
  have n3 : (BE.fz 3).den e = false → r ≠ (0, 0) := fun g => ne2 (by rw [← h3]; exact fz_f g)
  have n2 : (BE.fz 2).den e = false → r ≠ (0, 0) := fun g => ne1 (by rw [← h2]; exact fz_f g)
  cases b with
  | true => exact ⟨fun g => ⟨z g, fun g2 => c (n3 g2)⟩, fun g => c (n2 g)⟩
  | false => exact ⟨fun g => ⟨z g, fun g2 => c (n3 g2)⟩, fun g => c (n2 g)⟩
theorem addS_goal (h0 : e.f 0 = p.1) (h1 : e.f 1 = p.2) (h2 : e.f 2 = r.1) (h3 : e.f 3 = r.2) : tAddS.goal e (Gives false (add1 p r) e) := by
  refine ⟨fun g => ⟨fun g2 => ?_, fun g2 => ?_⟩, fun g => ?_⟩
  · have hp : p = (0, 0) := Prod.ext (h0.symm.trans (fz_t g)) (h1.symm.trans (fz_t g2))
    rw [hp, add1_zero]
    exact out2_goal h2 h3
  · have hy : p.2 ≠ 0 := by rw [← h1]; exact fz_f g2
    exact sR_goal true h0 h1 h2 h3 (ne2 hy) fun _ => hy
  · exact sR_goal false h0 h1 h2 h3 (ne1 (by rw [← h0]; exact fz_f g)) fun h => by cases h
end
/-! ### Contracts and tables -/
section
variable {P : Program} {qf pf : QSum}
theorem pp_of (hm : P.follows .mixedOrders = true) (hnum : NumOk P) (hq : QOk P qf) (hp : POk P pf) {f : FuncId} {tup : Bool} {t : Tree Lf} {op : P1 → P1 → P1} (h : sxCall P qf pf 5000 f [.one (.agg (eps 0 ++ eps 1)), .one (.agg (eps 2 ++ eps 3))] (hp0 [] 0 4) leafE = some t)
    (hbd : t.bd 0 0 4 = true) (law : ∀ (e : Env) (p r : P1), e.f 0 = p.1 → e.f 1 = p.2 → e.f 2 = r.1 → e.f 3 = r.2 → t.goal e (Gives tup (op p r) e)) : EE2C P f tup op := fun a b w => by
  have key := quiet_els (fs := fsOf [a.1, a.2, b.1, b.2]) (u := outV tup [(op a b).1, (op a b).2]) hm hnum hq hp h hbd rfl rfl
    (fun e he => law e a b (he 0 (by omega)) (he 1 (by omega)) (he 2 (by omega)) (he 3 (by omega))) (vs := [elsV [a.1, a.2], elsV [b.1, b.2]]) rfl w
  exact key
theorem p_of (hm : P.follows .mixedOrders = true) (hnum : NumOk P) (hq : QOk P qf) (hp : POk P pf) {f : FuncId} {tup : Bool} {t : Tree Lf} {op : P1 → P1} (h : sxCall P qf pf 5000 f [.one (.agg (eps 0 ++ eps 1))] (hp0 [] 0 2) leafE = some t)
    (hbd : t.bd 0 0 2 = true) (law : ∀ (e : Env) (p : P1), e.f 0 = p.1 → e.f 1 = p.2 → t.goal e (Gives tup (op p) e)) : E1C P f tup op := fun a w => by
  have key := quiet_els (fs := fsOf [a.1, a.2]) (u := outV tup [(op a).1, (op a).2]) hm hnum hq hp h hbd rfl rfl
    (fun e he => law e a (he 0 (by omega)) (he 1 (by omega))) (vs := [elsV [a.1, a.2]]) rfl w
  exact key
end
def mkAdd1 : Nat → List (List Nat) → Option (List FD × List Nat) := fun n is => match is with
  | [[a, b], [c, d]] => some ([.fn 1 [a, b, c, d], .fn 2 [a, b, c, d]], [n, n + 1])
  | _ => none
def mkSub1 : Nat → List (List Nat) → Option (List FD × List Nat) := fun n is => match is with
  | [[a, b], [c, d]] => some ([.neg d, .fn 1 [a, b, c, n], .fn 2 [a, b, c, n]], [n + 1, n + 2])
  | _ => none
def mkDbl1 : Nat → List (List Nat) → Option (List FD × List Nat) := fun n is => match is with
  | [[a, b]] => some ([.fn 1 [a, b, a, b], .fn 2 [a, b, a, b]], [n, n + 1])
  | _ => none
def mkNeg1 : Nat → List (List Nat) → Option (List FD × List Nat) := fun n is => match is with
  | [[a, b]] => some ([.neg b], [a, n])
  | _ => none
theorem fn1 {e : Env} {a b c d : Nat} : (FD.fn 1 [a, b, c, d]).ev e = (add1 (e.f a, e.f b) (e.f c, e.f d)).1 := rfl
theorem fn2 {e : Env} {a b c d : Nat} : (FD.fn 2 [a, b, c, d]).ev e = (add1 (e.f a, e.f b) (e.f c, e.f d)).2 := rfl
section
variable {P : Program} {fn : FuncId} {tup : Bool}
theorem add1_q (hc : EE2C P fn tup add1) : QOk P (elG tup fn mkAdd1) := elG_q fun n is fd outs h e w hd => by
  unfold mkAdd1 at h
  split at h
  · rename_i a b c d
    cases h
    have d0 := hd 0 (.fn 1 [a, b, c, d]) rfl
    have d1 := hd 1 (.fn 2 [a, b, c, d]) rfl
    rw [fn1] at d0
    rw [fn2] at d1
    rw [Nat.add_zero] at d0
    simp only [List.map_cons, List.map_nil]
    rw [d0, d1]
    exact hc (e.f a, e.f b) (e.f c, e.f d) w
  · cases h
theorem sub1_q (hc : EE2C P fn tup fun p r => add1 p (neg1 r)) : QOk P (elG tup fn mkSub1) := elG_q fun n is fd outs h e w hd => by
  unfold mkSub1 at h
  split at h
  · rename_i a b c d
    cases h
    have d0 : e.f n = - e.f d := hd 0 (.neg d) rfl
    have d1 := hd 1 (.fn 1 [a, b, c, n]) rfl
    have d2 := hd 2 (.fn 2 [a, b, c, n]) rfl
    rw [fn1, d0] at d1
    rw [fn2, d0] at d2
    simp only [List.map_cons, List.map_nil]
    rw [d1, d2]
    exact hc (e.f a, e.f b) (e.f c, e.f d) w
  · cases h
theorem dbl1_q (hc : E1C P fn tup fun p => add1 p p) : QOk P (elG tup fn mkDbl1) := elG_q fun n is fd outs h e w hd => by
  unfold mkDbl1 at h
  split at h
  · rename_i a b
    cases h
    have d0 := hd 0 (.fn 1 [a, b, a, b]) rfl
    have d1 := hd 1 (.fn 2 [a, b, a, b]) rfl
    rw [fn1] at d0
    rw [fn2] at d1
    rw [Nat.add_zero] at d0
    simp only [List.map_cons, List.map_nil]
    rw [d0, d1]
    exact hc (e.f a, e.f b) w
  · cases h
theorem neg1_q (hc : E1C P fn tup neg1) : QOk P (elG tup fn mkNeg1) := elG_q fun n is fd outs h e w hd => by
  unfold mkNeg1 at h
  split at h
  · rename_i a b
    cases h
    have d0 : e.f n = - e.f b := hd 0 (.neg b) rfl
    simp only [List.map_cons, List.map_nil]
    rw [d0]
    exact hc (e.f a, e.f b) w
  · cases h
end
end Go.Sx
namespace Go.Sx
open Go
set_option maxRecDepth 100000
def lfF : Tree Lf := .leaf (.one (.at (.bool (.c false))), [])
theorem def1 {e : Env} {n a b c d : Nat} (h : (Dn.f n (.fn 1 [a, b, c, d])).holds e) : e.f n = (add1 (e.f a, e.f b) (e.f c, e.f d)).1 := by
  rw [← fn1]
  exact h
theorem def2 {e : Env} {n a b c d : Nat} (h : (Dn.f n (.fn 2 [a, b, c, d])).holds e) : e.f n = (add1 (e.f a, e.f b) (e.f c, e.f d)).2 := by
  rw [← fn2]
  exact h
/-! ### FnG1Double -/
def tLD : Tree Lf := .br (.fn 1 [0, 1]) (.dn (.f 2 (.fn 1 [0, 1, 0, 1])) <| .dn (.f 3 (.fn 2 [0, 1, 0, 1])) <| .dn (.f 4 (.neg 1)) <| .dn (.f 5 (.fn 1 [0, 1, 0, 1])) <| .dn (.f 6 (.fn 2 [0, 1, 0, 1])) <|
  .br (.fe 2 5) (.br (.fe 3 6) (.dn (.f 7 (.neg 1)) (lfB (.fe 4 7))) lfF) lfF) lfT
theorem lawLD (e : Env) : tLD.goal e (IsTrue e) := by
  refine ⟨fun _ d2 d3 d4 d5 d6 => ⟨fun _ => ⟨fun _ d7 => lfB_goal ?_, fun g => absurd ?_ (fe_f g)⟩, fun g => absurd ?_ (fe_f g)⟩, fun _ => lfT_goal⟩
  · have d4 : e.f 4 = - e.f 1 := d4
    have d7 : e.f 7 = - e.f 1 := d7
    exact decide_eq_true (by rw [d4, d7])
  · rw [def2 d3, def2 d6]
  · rw [def1 d2, def1 d5]
/-! ### FnG1Add -/
def tLA : Tree Lf := .br (.fn 1 [0, 1]) (.br (.fn 1 [2, 3]) (.dn (.f 4 (.fn 1 [0, 1, 2, 3])) <| .dn (.f 5 (.fn 2 [0, 1, 2, 3])) <| .dn (.f 6 (.neg 3)) <| .dn (.f 7 (.fn 1 [0, 1, 2, 6])) <| .dn (.f 8 (.fn 2 [0, 1, 2, 6])) <|
  .dn (.f 9 (.fn 1 [0, 1, 2, 3])) <| .dn (.f 10 (.fn 2 [0, 1, 2, 3])) <| .br (.fe 4 9) (.br (.fe 5 10) (.dn (.f 11 (.neg 3)) <| .dn (.f 12 (.fn 1 [0, 1, 2, 11])) <| .dn (.f 13 (.fn 2 [0, 1, 2, 11])) <| lfB (.and (.fe 7 12) (.fe 8 13))) lfF) lfF) lfT) lfT
theorem lawLA (e : Env) : tLA.goal e (IsTrue e) := by
  refine ⟨fun _ => ⟨fun _ d4 d5 d6 d7 d8 d9 d10 => ⟨fun _ => ⟨fun _ d11 d12 d13 => lfB_goal ?_, fun g => absurd ?_ (fe_f g)⟩, fun g => absurd ?_ (fe_f g)⟩, fun _ => lfT_goal⟩, fun _ => lfT_goal⟩
  · have d6 : e.f 6 = - e.f 3 := d6
    have d11 : e.f 11 = - e.f 3 := d11
    have h1 : e.f 7 = e.f 12 := by rw [def1 d7, def1 d12, d6, d11]
    have h2 : e.f 8 = e.f 13 := by rw [def2 d8, def2 d13, d6, d11]
    show (decide (e.f 7 = e.f 12) && decide (e.f 8 = e.f 13)) = true
    rw [decide_eq_true h1, decide_eq_true h2]
    rfl
  · rw [def2 d5, def2 d10]
  · rw [def1 d4, def1 d9]
end Go.Sx
