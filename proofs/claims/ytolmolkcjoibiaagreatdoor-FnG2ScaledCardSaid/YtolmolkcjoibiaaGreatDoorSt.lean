import Derived.Test.YtolmolkcjoibiaaGreatDoorSr
/- Aids to the claim: what is shown here is said at each theorem. -/
namespace Go.Sx
open Go
set_option maxRecDepth 100000
/-! ### impl.jac1: a quiet function of words in Montgomery's form -/
def jx (x y : Fq) : Fq := if x = 0 ∧ y = 0 then 1 else x
def jy (x y : Fq) : Fq := if x = 0 ∧ y = 0 then 1 else y
def jz (x y : Fq) : Fq := if x = 0 ∧ y = 0 then 0 else 1
def JacC (P : Program) (f : FuncId) : Prop := ∀ (x y : Fq) (w : World), QuietRun P (callFunc f #[.agg (emV x ++ emV y).toArray]) (.agg (emV (jx x y) ++ (emV (jy x y) ++ emV (jz x y))).toArray) w
def oneC : List Atom := [.int .u64 (.c 15230403791020821917), .int .u64 (.c 754611498739239741), .int .u64 (.c 7381016538464732716), .int .u64 (.c 1011752739694698287)]
def nulC : List Atom := List.replicate 4 (.int .u64 (.c 0))
def jL1 : Tree Lf := .leaf (.one (.agg (ems 0 ++ (ems 1 ++ oneC))), [])
def jL0 : Tree Lf := .leaf (.one (.agg (oneC ++ (oneC ++ nulC))), [])
def tJac1 : Tree Lf := .br (.fz 0) (.br (.fz 1) jL0 jL1) jL1
theorem oneC_den {β : Nat → Nat} {e : Env} : oneC.map (Atom.den β e) = emV 1 := by
  show [Value.int .u64 15230403791020821917, .int .u64 754611498739239741, .int .u64 7381016538464732716, .int .u64 1011752739694698287] = numV (mont 1)
  rw [mont_one]
  rfl
theorem nulC_den {β : Nat → Nat} {e : Env} : nulC.map (Atom.den β e) = emV 0 := by
  have : mont 0 = 0 := by decide
  show [Value.int .u64 0, .int .u64 0, .int .u64 0, .int .u64 0] = numV (mont 0)
  rw [this]
  rfl
theorem jac_goal {e : Env} {x y : Fq} (h0 : e.f 0 = x) (h1 : e.f 1 = y) : tJac1.goal e fun l => (∀ β, l.1.den β e = .agg (emV (jx x y) ++ (emV (jy x y) ++ emV (jz x y))).toArray) ∧ l.2 = [] := by
  have n : ¬ (x = 0 ∧ y = 0) → jL1.goal e fun l => (∀ β, l.1.den β e = .agg (emV (jx x y) ++ (emV (jy x y) ++ emV (jz x y))).toArray) ∧ l.2 = [] := fun hn => by
    refine ⟨fun β => ?_, rfl⟩
    simp only [SV.den, SV1.den, List.map_append, ems_den, oneC_den, h0, h1]
    rw [jx, jy, jz, if_neg hn, if_neg hn, if_neg hn]
  refine ⟨fun g => ⟨fun g2 => ?_, fun g2 => n fun h => fz_f g2 (h1.trans h.2)⟩, fun g => n fun h => fz_f g (h0.trans h.1)⟩
  refine ⟨fun β => ?_, rfl⟩
  have hz : x = 0 ∧ y = 0 := ⟨h0.symm.trans (fz_t g), h1.symm.trans (fz_t g2)⟩
  simp only [SV.den, SV1.den, List.map_append, oneC_den, nulC_den]
  rw [jx, jy, jz, if_pos hz, if_pos hz, if_pos hz]
theorem jacC_of {P : Program} {qf pf : QSum} (hm : P.follows .mixedOrders = true) (hnum : NumOk P) (hq : QOk P qf) (hp : POk P pf) {f : FuncId} (h : sxCall P qf pf 5000 f [.one (.agg (ems 0 ++ ems 1))] (hp0 [] 0 2) leafE = some tJac1) : JacC P f := fun x y w => by
  have key := quiet_els (fs := fsOf [x, y]) (u := .agg (emV (jx x y) ++ (emV (jy x y) ++ emV (jz x y))).toArray) hm hnum hq hp h (by decide +kernel) rfl rfl
    (fun e he => jac_goal (he 0 (by omega)) (he 1 (by omega))) (vs := [.agg (emV x ++ emV y).toArray]) rfl w
  exact key
def jacF (fn : FuncId) : QSum := fun f args h =>
  bif Nat.beq f fn then match args with
    | [.one (.agg [a, b, c, d, a', b', c', d'])] => match toW4 [a, b, c, d], toW4 [a', b', c', d'] with
      | some u, some v => match elOf h u with
        | some (d1, i, h1) => match elOf h1 v with
          | some (d2, j, h2) => some (d1 ++ (d2 ++ [.f h2.nf (.fn 8 [i, j]), .f (h2.nf + 1) (.fn 9 [i, j]), .f (h2.nf + 2) (.fn 10 [i, j])]), .one (.agg (ems h2.nf ++ (ems (h2.nf + 1) ++ ems (h2.nf + 2)))), { h2 with nf := h2.nf + 3 })
          | none => none
        | none => none
      | _, _ => none
    | _ => none
  else none
theorem jacF_q {P : Program} {fn : FuncId} (hc : JacC P fn) : QOk P (jacF fn) := by
  intro f args h ds v h' hh
  unfold jacF at hh
  cases hb : Nat.beq f fn with
  | false => rw [hb] at hh; cases hh
  | true =>
    rw [hb] at hh
    have hf := Nat.eq_of_beq_eq_true hb
    subst hf
    simp only [cond_true] at hh
    split at hh
    · rename_i a b c d a' b' c' d'
      split at hh
      · rename_i u v' hu hv
        split at hh
        · rename_i d1 i h1 he1
          split at hh
          · rename_i d2 j h2 he2
            cases hh
            obtain ⟨m1, s1⟩ := elOf_sound he1
            obtain ⟨m2, s2⟩ := elOf_sound he2
            refine ⟨(m1.trans m2).trans (SameMem.nf _ _), fun e β hf hok hds => ?_⟩
            have hall := hok (.one (.agg [a, b, c, d, a', b', c', d'])) (by simp)
            have ou : u.ok e := W4.ok_of hu fun x hx => hall x (by
              simp only [List.mem_cons, List.not_mem_nil, or_false] at hx ⊢
              rcases hx with rfl | rfl | rfl | rfl <;> simp)
            have ov : v'.ok e := W4.ok_of hv fun x hx => hall x (by
              simp only [List.mem_cons, List.not_mem_nil, or_false] at hx ⊢
              rcases hx with rfl | rfl | rfl | rfl <;> simp)
            have iu := s1 e hf ou (fun d hd => hds d (by simp [hd]))
            have iv := s2 e (by rw [m1.2.2.2.2]; exact hf) ov (fun d hd => hds d (by simp [hd]))
            have k0 : e.f h2.nf = jx (e.f i) (e.f j) := hds (.f h2.nf (.fn 8 [i, j])) (by simp)
            have k1 : e.f (h2.nf + 1) = jy (e.f i) (e.f j) := hds (.f (h2.nf + 1) (.fn 9 [i, j])) (by simp)
            have k2 : e.f (h2.nf + 2) = jz (e.f i) (e.f j) := hds (.f (h2.nf + 2) (.fn 10 [i, j])) (by simp)
            refine ⟨fun x hx => ?_, fun w0 w _ => ?_⟩
            · rcases List.mem_append.1 hx with hx | hx
              · exact ems_ok _ _ x hx
              · rcases List.mem_append.1 hx with hx | hx
                · exact ems_ok _ _ x hx
                · exact ems_ok _ _ x hx
            · have hv1 : (SV.one (.agg (ems h2.nf ++ (ems (h2.nf + 1) ++ ems (h2.nf + 2))))).den β e = .agg (emV (jx (e.f i) (e.f j)) ++ (emV (jy (e.f i) (e.f j)) ++ emV (jz (e.f i) (e.f j)))).toArray := by
                simp only [SV.den, SV1.den, List.map_append, ems_den, k0, k1, k2]
              have ha : ([SV.one (.agg [a, b, c, d, a', b', c', d'])].map (SV.den β e)).toArray = #[.agg (emV (e.f i) ++ emV (e.f j)).toArray] := by
                have e1 : [a, b, c, d].map (Atom.den β e) = emV (e.f i) := by rw [toW4_spec hu]; exact is_words iu
                have e2 : [a', b', c', d'].map (Atom.den β e) = emV (e.f j) := by rw [toW4_spec hv]; exact is_words iv
                rw [← e1, ← e2]
                rfl
              rw [hv1, ha]
              exact hc _ _ w
          · cases hh
        · cases hh
      · cases hh
    · cases hh
end Go.Sx
namespace Go.Sx
/-! ### Sums of points over any commutative ring: three coordinates with any third one -/
section

/-- Doubling (X, Y, Z) = (x Z², y Z³, Z). -/
theorem gdbl_x {x y Z a M S T : Fq} (hz : (y * (Z * Z * Z) * Z + y * (Z * Z * Z) * Z) * a = 1) (hM : M = x * (Z * Z) * (x * (Z * Z)) + x * (Z * Z) * (x * (Z * Z)) + x * (Z * Z) * (x * (Z * Z)))
    (hS : S = 4 * (x * (Z * Z)) * (y * (Z * Z * Z) * (y * (Z * Z * Z)))) (hT : T = M * M - S - S) (s : Fq) (hs : s = 3 * (x * x) * ((Z * Z * (Z * Z)) * a)) : T * (a * a) = s * s - x - x := by
  have h2 : S * (a * a) = x := by
    have : S * (a * a) = x * (((y * (Z * Z * Z) * Z + y * (Z * Z * Z) * Z) * a) * ((y * (Z * Z * Z) * Z + y * (Z * Z * Z) * Z) * a)) := by rw [hS]; grind
    rw [this, hz]
    grind
  have h3 : T * (a * a) = M * a * (M * a) - S * (a * a) - S * (a * a) := by rw [hT]; grind
  have h4 : M * a = s := by rw [hM, hs]; grind
  rw [h3, h2, h4]
theorem gdbl_y {x y Z a M S T E : Fq} (hz : (y * (Z * Z * Z) * Z + y * (Z * Z * Z) * Z) * a = 1) (hM : M = x * (Z * Z) * (x * (Z * Z)) + x * (Z * Z) * (x * (Z * Z)) + x * (Z * Z) * (x * (Z * Z)))
    (hS : S = 4 * (x * (Z * Z)) * (y * (Z * Z * Z) * (y * (Z * Z * Z)))) (hE : E = 8 * (y * (Z * Z * Z) * (y * (Z * Z * Z)) * (y * (Z * Z * Z) * (y * (Z * Z * Z))))) (s : Fq) (hs : s = 3 * (x * x) * ((Z * Z * (Z * Z)) * a)) :
    ((S - T) * M - E) * (a * a) * a = s * (x - T * (a * a)) - y := by
  have h2 : S * (a * a) = x := by
    have : S * (a * a) = x * (((y * (Z * Z * Z) * Z + y * (Z * Z * Z) * Z) * a) * ((y * (Z * Z * Z) * Z + y * (Z * Z * Z) * Z) * a)) := by rw [hS]; grind
    rw [this, hz]
    grind
  have h4 : M * a = s := by rw [hM, hs]; grind
  have h5 : E * (a * a) * a = y * (((y * (Z * Z * Z) * Z + y * (Z * Z * Z) * Z) * a) * ((y * (Z * Z * Z) * Z + y * (Z * Z * Z) * Z) * a) * ((y * (Z * Z * Z) * Z + y * (Z * Z * Z) * Z) * a)) := by rw [hE]; grind
  have h6 : ((S - T) * M - E) * (a * a) * a = (M * a) * (S * (a * a) - T * (a * a)) - E * (a * a) * a := by grind
  rw [h6, h5, hz, h2, h4]
  grind
/-- The chord through (x1, y1) and (x2, y2), all scaled by Z. -/
theorem gchord_x {x1 x2 Z r a I X3 : Fq} (hz : ((x1 * (Z * Z) - x2 * (Z * Z)) * Z + (x1 * (Z * Z) - x2 * (Z * Z)) * Z) * a = 1) (hI : I = (x1 * (Z * Z) - x2 * (Z * Z) + (x1 * (Z * Z) - x2 * (Z * Z))) * (x1 * (Z * Z) - x2 * (Z * Z) + (x1 * (Z * Z) - x2 * (Z * Z))))
    (hX : X3 = r * r - (x1 * (Z * Z) - x2 * (Z * Z)) * I - x2 * (Z * Z) * I - x2 * (Z * Z) * I) : X3 * (a * a) = (r * a) * (r * a) - x1 - x2 := by
  have h1 : I * (a * a) * (Z * Z) = 1 := by
    have : I * (a * a) * (Z * Z) = (((x1 * (Z * Z) - x2 * (Z * Z)) * Z + (x1 * (Z * Z) - x2 * (Z * Z)) * Z) * a) * (((x1 * (Z * Z) - x2 * (Z * Z)) * Z + (x1 * (Z * Z) - x2 * (Z * Z)) * Z) * a) := by rw [hI]; grind
    rw [this, hz]
    grind
  have h2 : X3 * (a * a) = (r * a) * (r * a) - (x1 - x2) * (I * (a * a) * (Z * Z)) - x2 * (I * (a * a) * (Z * Z)) - x2 * (I * (a * a) * (Z * Z)) := by rw [hX]; grind
  rw [h2, h1]
  grind
theorem gchord_y {x1 x2 y2 Z r a I X3 : Fq} (hz : ((x1 * (Z * Z) - x2 * (Z * Z)) * Z + (x1 * (Z * Z) - x2 * (Z * Z)) * Z) * a = 1) (hI : I = (x1 * (Z * Z) - x2 * (Z * Z) + (x1 * (Z * Z) - x2 * (Z * Z))) * (x1 * (Z * Z) - x2 * (Z * Z) + (x1 * (Z * Z) - x2 * (Z * Z)))) :
    ((x2 * (Z * Z) * I - X3) * r - (y2 * (Z * Z * Z) * ((x1 * (Z * Z) - x2 * (Z * Z)) * I) + y2 * (Z * Z * Z) * ((x1 * (Z * Z) - x2 * (Z * Z)) * I))) * (a * a) * a = (r * a) * (x2 - X3 * (a * a)) - y2 := by
  have h1 : I * (a * a) * (Z * Z) = 1 := by
    have : I * (a * a) * (Z * Z) = (((x1 * (Z * Z) - x2 * (Z * Z)) * Z + (x1 * (Z * Z) - x2 * (Z * Z)) * Z) * a) * (((x1 * (Z * Z) - x2 * (Z * Z)) * Z + (x1 * (Z * Z) - x2 * (Z * Z)) * Z) * a) := by rw [hI]; grind
    rw [this, hz]
    grind
  have h2 : ((x2 * (Z * Z) * I - X3) * r - (y2 * (Z * Z * Z) * ((x1 * (Z * Z) - x2 * (Z * Z)) * I) + y2 * (Z * Z * Z) * ((x1 * (Z * Z) - x2 * (Z * Z)) * I))) * (a * a) * a =
      (r * a) * (x2 * (I * (a * a) * (Z * Z)) - X3 * (a * a)) - y2 * (I * (a * a) * (Z * Z)) * (((x1 * (Z * Z) - x2 * (Z * Z)) * Z + (x1 * (Z * Z) - x2 * (Z * Z)) * Z) * a) := by grind
  rw [h2, h1, hz]
  grind
/-- The slope is the same from either end. -/
theorem gslope {x1 y1 x2 y2 Z a h : Fq} (hz : ((x1 * (Z * Z) - x2 * (Z * Z)) * Z + (x1 * (Z * Z) - x2 * (Z * Z)) * Z) * a = 1) (hh : (x2 - x1) * h = 1) :
    (y2 - y1) * h = (y1 * (Z * Z * Z) - y2 * (Z * Z * Z) + (y1 * (Z * Z * Z) - y2 * (Z * Z * Z))) * a := by
  have h1 : h = -((Z * Z * Z + Z * Z * Z) * a) := by
    have : (x2 - x1) * -((Z * Z * Z + Z * Z * Z) * a) = 1 := by rw [← hz]; grind
    have : h * ((x2 - x1) * -((Z * Z * Z + Z * Z * Z) * a)) = h := by rw [this]; grind
    rw [← this]
    have : h * ((x2 - x1) * -((Z * Z * Z + Z * Z * Z) * a)) = ((x2 - x1) * h) * -((Z * Z * Z + Z * Z * Z) * a) := by grind
    rw [this, hh]
    grind
  rw [h1]
  grind
theorem gend {x1 y1 x2 y2 s X : Fq} (h : Fq) (hh : (x2 - x1) * h = 1) (hs : s = (y2 - y1) * h) : s * (x2 - X) - y2 = s * (x1 - X) - y1 := by
  have : s * (x2 - x1) = y2 - y1 := by
    rw [hs]
    have : (y2 - y1) * h * (x2 - x1) = (y2 - y1) * ((x2 - x1) * h) := by grind
    rw [this, hh]
    grind
  grind
end
end Go.Sx
namespace Go.Sx
open Go
set_option maxRecDepth 100000
/-! ### Three coordinates -/
def ainT (tup : Bool) (n X Y Z : Nat) : Tree Lf :=
  .dn (.f n (.fn 0 [Z])) <| .dn (.f (n + 1) (.mul n n)) <| .dn (.f (n + 2) (.mul X (n + 1))) <| .dn (.f (n + 3) (.mul Y (n + 1))) <| .dn (.f (n + 4) (.mul (n + 3) n)) <| out2 tup (n + 2) (n + 4)
theorem ainT_goal {tup : Bool} {n X Y Z : Nat} {e : Env} {p : P1} (hz : e.f Z ≠ 0) (h : ∀ a, e.f Z * a = 1 → e.f X * (a * a) = p.1 ∧ e.f Y * (a * a) * a = p.2) : (ainT tup n X Y Z).goal e (Gives tup p e) := fun d0 d1 d2 d3 d4 => by
  have d0 := dfn0 d0
  have d1 : e.f (n + 1) = e.f n * e.f n := d1
  have d2 : e.f (n + 2) = e.f X * e.f (n + 1) := d2
  have d3 : e.f (n + 3) = e.f Y * e.f (n + 1) := d3
  have d4 : e.f (n + 4) = e.f (n + 3) * e.f n := d4
  obtain ⟨h1, h2⟩ := h (e.f n) (by rw [d0]; exact mul_finv hz)
  exact out2_goal (by rw [d2, d1, h1]) (by rw [d4, d3, d1, h2])
/-- (X, Y, Z) are coordinates of the point. -/
def RepJ (X Y Z : Fq) (p : P1) : Prop := (Z = 0 ∧ p = (0, 0)) ∨ (Z ≠ 0 ∧ p ≠ (0, 0) ∧ X = p.1 * (Z * Z) ∧ Y = p.2 * (Z * Z * Z))
theorem repJ_jac (p : P1) : RepJ (jx p.1 p.2) (jy p.1 p.2) (jz p.1 p.2) p := by
  unfold jx jy jz
  by_cases h : p.1 = 0 ∧ p.2 = 0
  · rw [if_pos h, if_pos h, if_pos h]
    exact .inl ⟨rfl, Prod.ext h.1 h.2⟩
  · rw [if_neg h, if_neg h, if_neg h]
    refine .inr ⟨by decide, fun g => h (by rw [g]; exact ⟨rfl, rfl⟩), by grind, by grind⟩
theorem rep_out {p : P1} {X Y Z a : Fq} (hX : X = p.1 * (Z * Z)) (hY : Y = p.2 * (Z * Z * Z)) (h : Z * a = 1) : X * (a * a) = p.1 ∧ Y * (a * a) * a = p.2 := by
  refine ⟨?_, ?_⟩
  · have : X * (a * a) = p.1 * ((Z * a) * (Z * a)) := by rw [hX]; grind
    rw [this, h]
    grind
  · have : Y * (a * a) * a = p.2 * ((Z * a) * (Z * a) * (Z * a)) := by rw [hY]; grind
    rw [this, h]
    grind
theorem z_ne {a : Fq} {b : Fq} (hb : b = 0) (h : b * a = 1) : False := by
  subst hb
  have h1 : (0 : Fq) * a = 0 := by grind
  rw [h1] at h
  exact absurd h (by decide)
theorem zmul (a : Fq) : (0 : Fq) * a = 0 := by grind
theorem mulz (a : Fq) : a * (0 : Fq) = 0 := by grind
theorem zadd : (0 : Fq) + 0 = 0 := by decide
theorem zz0 (y : Fq) : y * 0 + y * 0 = 0 := by rw [mulz, zadd]
theorem zz1 (z : Fq) : 0 * (z * z * z) * z + 0 * (z * z * z) * z = 0 := by rw [zmul, zmul, zadd]
theorem dblS (X W : Fq) : (X + W) * (X + W) - X * X - W * W + ((X + W) * (X + W) - X * X - W * W) = 4 * X * W := by grind
theorem dblT' (A S : Fq) : A - (S + S) = A - S - S := by grind
theorem dblE (W : Fq) : W + W + (W + W) + (W + W + (W + W)) = 8 * W := by grind
theorem inv4 {y z a : Fq} (h : (y * (z * z * z) * z + y * (z * z * z) * z) * a = 1) : (y + y) * (z * z * (z * z) * a) = 1 := by rw [← h]; grind
def jdblT (tup : Bool) (n X Y Z : Nat) : Tree Lf :=
  .dn (.f n (.mul X X)) <| .dn (.f (n + 1) (.mul Y Y)) <| .dn (.f (n + 2) (.mul (n + 1) (n + 1))) <| .dn (.f (n + 3) (.add X (n + 1))) <| .dn (.f (n + 4) (.mul (n + 3) (n + 3))) <| .dn (.f (n + 5) (.sub (n + 4) n)) <| .dn (.f (n + 6) (.sub (n + 5) (n + 2))) <|
  .dn (.f (n + 7) (.add (n + 6) (n + 6))) <| .dn (.f (n + 8) (.add n n)) <| .dn (.f (n + 9) (.add (n + 8) n)) <| .dn (.f (n + 10) (.mul (n + 9) (n + 9))) <| .dn (.f (n + 11) (.add (n + 7) (n + 7))) <| .dn (.f (n + 12) (.mul Y Z)) <| .dn (.f (n + 13) (.add (n + 12) (n + 12))) <|
  .dn (.f (n + 14) (.sub (n + 10) (n + 11))) <| .dn (.f (n + 15) (.sub (n + 7) (n + 14))) <| .dn (.f (n + 16) (.mul (n + 15) (n + 9))) <| .dn (.f (n + 17) (.add (n + 2) (n + 2))) <| .dn (.f (n + 18) (.add (n + 17) (n + 17))) <| .dn (.f (n + 19) (.add (n + 18) (n + 18))) <|
  .dn (.f (n + 20) (.sub (n + 16) (n + 19))) <| affT tup (n + 21) (n + 14) (n + 20) (n + 13)
theorem jdblT_goal {tup : Bool} {n X Y Z : Nat} {e : Env} {p : P1} (hr : RepJ (e.f X) (e.f Y) (e.f Z) p) : (jdblT tup n X Y Z).goal e (Gives tup (add1 p p) e) := by
  intro d0 d1 d2 d3 d4 d5 d6 d7 d8 d9 d10 d11 d12 d13 d14 d15 d16 d17 d18 d19 d20
  have d0 : e.f n = e.f X * e.f X := d0
  have d1 : e.f (n + 1) = e.f Y * e.f Y := d1
  have d2 : e.f (n + 2) = e.f (n + 1) * e.f (n + 1) := d2
  have d3 : e.f (n + 3) = e.f X + e.f (n + 1) := d3
  have d4 : e.f (n + 4) = e.f (n + 3) * e.f (n + 3) := d4
  have d5 : e.f (n + 5) = e.f (n + 4) - e.f n := d5
  have d6 : e.f (n + 6) = e.f (n + 5) - e.f (n + 2) := d6
  have d7 : e.f (n + 7) = e.f (n + 6) + e.f (n + 6) := d7
  have d8 : e.f (n + 8) = e.f n + e.f n := d8
  have d9 : e.f (n + 9) = e.f (n + 8) + e.f n := d9
  have d10 : e.f (n + 10) = e.f (n + 9) * e.f (n + 9) := d10
  have d11 : e.f (n + 11) = e.f (n + 7) + e.f (n + 7) := d11
  have d12 : e.f (n + 12) = e.f Y * e.f Z := d12
  have d13 : e.f (n + 13) = e.f (n + 12) + e.f (n + 12) := d13
  have d14 : e.f (n + 14) = e.f (n + 10) - e.f (n + 11) := d14
  have d15 : e.f (n + 15) = e.f (n + 7) - e.f (n + 14) := d15
  have d16 : e.f (n + 16) = e.f (n + 15) * e.f (n + 9) := d16
  have d17 : e.f (n + 17) = e.f (n + 2) + e.f (n + 2) := d17
  have d18 : e.f (n + 18) = e.f (n + 17) + e.f (n + 17) := d18
  have d19 : e.f (n + 19) = e.f (n + 18) + e.f (n + 18) := d19
  have d20 : e.f (n + 20) = e.f (n + 16) - e.f (n + 19) := d20
  rcases hr with ⟨hZ, hp⟩ | ⟨hZ, hp, hX, hY⟩
  · have h13 : e.f (n + 13) = 0 := by rw [d13, d12, hZ]; exact zz0 _
    exact affT_goal (fun _ => by rw [hp]; exact add1_zero _) fun a ha => (z_ne h13 ha).elim
  · generalize hz0 : e.f Z = z at *
    have h13 : e.f (n + 13) = p.2 * (z * z * z) * z + p.2 * (z * z * z) * z := by rw [d13, d12, hY]
    by_cases hy : p.2 = 0
    · have h0 : e.f (n + 13) = 0 := by rw [h13, hy]; exact zz1 _
      exact affT_goal (fun _ => add1_none hp hp rfl fun g => g.2 hy) fun a ha => (z_ne h0 ha).elim
    · have hne : e.f (n + 13) ≠ 0 := by
        rw [h13]
        exact two_mul_ne (mul_ne (mul_ne hy (mul_ne (mul_ne hZ hZ) hZ)) hZ)
      refine affT_goal (fun g => absurd g hne) fun a ha => ?_
      rw [h13] at ha
      have hM : e.f (n + 9) = p.1 * (z * z) * (p.1 * (z * z)) + p.1 * (z * z) * (p.1 * (z * z)) + p.1 * (z * z) * (p.1 * (z * z)) := by rw [d9, d8, d0, hX]
      have hS : e.f (n + 7) = 4 * (p.1 * (z * z)) * (p.2 * (z * z * z) * (p.2 * (z * z * z))) := by rw [d7, d6, d5, d4, d3, d2, d1, d0, hX, hY, dblS]
      have hT : e.f (n + 14) = e.f (n + 9) * e.f (n + 9) - e.f (n + 7) - e.f (n + 7) := by rw [d14, d10, d11, dblT']
      have hE : e.f (n + 19) = 8 * (p.2 * (z * z * z) * (p.2 * (z * z * z)) * (p.2 * (z * z * z) * (p.2 * (z * z * z)))) := by rw [d19, d18, d17, d2, d1, hY, dblE]
      have hinv : finv (p.2 + p.2) = z * z * (z * z) * a := finv_of (inv4 ha)
      have hx3 := gdbl_x ha hM hS hT (3 * (p.1 * p.1) * ((z * z * (z * z)) * a)) rfl
      have hy3 := gdbl_y (T := e.f (n + 14)) ha hM hS hE (3 * (p.1 * p.1) * ((z * z * (z * z)) * a)) rfl
      rw [add1_dbl hp hp rfl rfl hy rfl rfl]
      simp only
      rw [hinv]
      refine ⟨hx3, ?_⟩
      rw [d20, d16, d15, hy3, hx3]
def jchT (tup : Bool) (n U1 U2 S1 S2 Z1 Z2 ZZ1 ZZ2 : Nat) : Tree Lf :=
  .dn (.f n (.sub U2 U1)) <| .dn (.f (n + 1) (.add n n)) <| .dn (.f (n + 2) (.mul (n + 1) (n + 1))) <| .dn (.f (n + 3) (.mul n (n + 2))) <| .dn (.f (n + 4) (.sub S2 S1)) <| .dn (.f (n + 5) (.add (n + 4) (n + 4))) <| .dn (.f (n + 6) (.mul U1 (n + 2))) <|
  .dn (.f (n + 7) (.mul (n + 5) (n + 5))) <| .dn (.f (n + 8) (.sub (n + 7) (n + 3))) <| .dn (.f (n + 9) (.sub (n + 8) (n + 6))) <| .dn (.f (n + 10) (.sub (n + 9) (n + 6))) <| .dn (.f (n + 11) (.sub (n + 6) (n + 10))) <| .dn (.f (n + 12) (.mul (n + 11) (n + 5))) <|
  .dn (.f (n + 13) (.mul S1 (n + 3))) <| .dn (.f (n + 14) (.add (n + 13) (n + 13))) <| .dn (.f (n + 15) (.sub (n + 12) (n + 14))) <| .dn (.f (n + 16) (.add Z1 Z2)) <| .dn (.f (n + 17) (.mul (n + 16) (n + 16))) <| .dn (.f (n + 18) (.sub (n + 17) ZZ2)) <| .dn (.f (n + 19) (.sub (n + 18) ZZ1)) <|
  .dn (.f (n + 20) (.mul (n + 19) n)) <| affT tup (n + 21) (n + 10) (n + 15) (n + 20)
theorem z3_eq (z1 z2 H : Fq) : ((z1 + z2) * (z1 + z2) - z2 * z2 - z1 * z1) * H = H * (z1 * z2) + H * (z1 * z2) := by grind
theorem hz_eq (x1 x2 Z : Fq) (h : x1 = x2) : (x1 * (Z * Z) - x2 * (Z * Z)) * Z + (x1 * (Z * Z) - x2 * (Z * Z)) * Z = 0 := by subst h; grind
theorem h_ne {x1 x2 Z : Fq} (h : x1 ≠ x2) (hZ : Z ≠ 0) : (x1 * (Z * Z) - x2 * (Z * Z)) * Z + (x1 * (Z * Z) - x2 * (Z * Z)) * Z ≠ 0 := by
  refine two_mul_ne (mul_ne (fun g => ?_) hZ)
  have h1 : (x1 - x2) * (Z * Z) = 0 := by rw [← g]; grind
  rcases mul_zero_or h1 with h2 | h2
  · exact h (by grind)
  · exact mul_ne hZ hZ h2
theorem jchT_goal {tup : Bool} {n U1 U2 S1 S2 Z1 Z2 ZZ1 ZZ2 : Nat} {e : Env} {p r : P1} {Z : Fq} (hZ : Z = e.f Z1 * e.f Z2) (hZ0 : Z ≠ 0) (h1 : e.f U1 = r.1 * (Z * Z)) (h2 : e.f U2 = p.1 * (Z * Z)) (h3 : e.f S1 = r.2 * (Z * Z * Z)) (h4 : e.f S2 = p.2 * (Z * Z * Z))
    (h5 : e.f ZZ1 = e.f Z1 * e.f Z1) (h6 : e.f ZZ2 = e.f Z2 * e.f Z2) (hp : p ≠ (0, 0)) (hr : r ≠ (0, 0)) (hne : ¬ (p.1 = r.1 ∧ p.2 = r.2)) : (jchT tup n U1 U2 S1 S2 Z1 Z2 ZZ1 ZZ2).goal e (Gives tup (add1 p r) e) := by
  intro d0 d1 d2 d3 d4 d5 d6 d7 d8 d9 d10 d11 d12 d13 d14 d15 d16 d17 d18 d19 d20
  have d0 : e.f n = e.f U2 - e.f U1 := d0
  have d1 : e.f (n + 1) = e.f n + e.f n := d1
  have d2 : e.f (n + 2) = e.f (n + 1) * e.f (n + 1) := d2
  have d3 : e.f (n + 3) = e.f n * e.f (n + 2) := d3
  have d4 : e.f (n + 4) = e.f S2 - e.f S1 := d4
  have d5 : e.f (n + 5) = e.f (n + 4) + e.f (n + 4) := d5
  have d6 : e.f (n + 6) = e.f U1 * e.f (n + 2) := d6
  have d7 : e.f (n + 7) = e.f (n + 5) * e.f (n + 5) := d7
  have d8 : e.f (n + 8) = e.f (n + 7) - e.f (n + 3) := d8
  have d9 : e.f (n + 9) = e.f (n + 8) - e.f (n + 6) := d9
  have d10 : e.f (n + 10) = e.f (n + 9) - e.f (n + 6) := d10
  have d11 : e.f (n + 11) = e.f (n + 6) - e.f (n + 10) := d11
  have d12 : e.f (n + 12) = e.f (n + 11) * e.f (n + 5) := d12
  have d13 : e.f (n + 13) = e.f S1 * e.f (n + 3) := d13
  have d14 : e.f (n + 14) = e.f (n + 13) + e.f (n + 13) := d14
  have d15 : e.f (n + 15) = e.f (n + 12) - e.f (n + 14) := d15
  have d16 : e.f (n + 16) = e.f Z1 + e.f Z2 := d16
  have d17 : e.f (n + 17) = e.f (n + 16) * e.f (n + 16) := d17
  have d18 : e.f (n + 18) = e.f (n + 17) - e.f ZZ2 := d18
  have d19 : e.f (n + 19) = e.f (n + 18) - e.f ZZ1 := d19
  have d20 : e.f (n + 20) = e.f (n + 19) * e.f n := d20
  rw [h1, h2] at d0
  rw [h3, h4] at d4
  have hz3 : e.f (n + 20) = (p.1 * (Z * Z) - r.1 * (Z * Z)) * Z + (p.1 * (Z * Z) - r.1 * (Z * Z)) * Z := by rw [d20, d19, d18, d17, d16, h5, h6, z3_eq, d0, ← hZ]
  by_cases hx : p.1 = r.1
  · have h0 : e.f (n + 20) = 0 := by rw [hz3]; exact hz_eq _ _ _ hx
    exact affT_goal (fun _ => add1_none hp hr hx fun g => hne ⟨hx, g.1⟩) fun a ha => (z_ne h0 ha).elim
  · refine affT_goal (fun g => absurd g (by rw [hz3]; exact h_ne hx hZ0)) fun a ha => ?_
    rw [hz3] at ha
    have hI : e.f (n + 2) = (p.1 * (Z * Z) - r.1 * (Z * Z) + (p.1 * (Z * Z) - r.1 * (Z * Z))) * (p.1 * (Z * Z) - r.1 * (Z * Z) + (p.1 * (Z * Z) - r.1 * (Z * Z))) := by rw [d2, d1, d0]
    have hX : e.f (n + 10) = e.f (n + 5) * e.f (n + 5) - (p.1 * (Z * Z) - r.1 * (Z * Z)) * e.f (n + 2) - r.1 * (Z * Z) * e.f (n + 2) - r.1 * (Z * Z) * e.f (n + 2) := by rw [d10, d9, d8, d7, d6, d3, d0, h1]
    have hd : r.1 - p.1 ≠ 0 := fun h => hx (by grind)
    have hh := mul_finv hd
    have hs := gslope (y1 := p.2) (y2 := r.2) ha hh
    have hr5 : e.f (n + 5) = p.2 * (Z * Z * Z) - r.2 * (Z * Z * Z) + (p.2 * (Z * Z * Z) - r.2 * (Z * Z * Z)) := by rw [d5, d4]
    rw [← hr5] at hs
    have hx3 := gchord_x ha hI hX
    have hy3 := gchord_y (y2 := r.2) (r := e.f (n + 5)) (X3 := e.f (n + 10)) ha hI
    have he := gend (x1 := p.1) (y1 := p.2) (x2 := r.1) (y2 := r.2) (X := e.f (n + 10) * (a * a)) _ hh hs.symm
    rw [add1_chord hp hr hx hs.symm rfl]
    simp only
    refine ⟨hx3, ?_⟩
    rw [d15, d12, d11, d6, d14, d13, d3, d0, h1, h3, hy3, he, hx3]
def jaddT (tup : Bool) (n X1 Y1 Z1 X2 Y2 Z2 : Nat) : Tree Lf :=
  .dn (.f n (.mul Z2 Z2)) <| .dn (.f (n + 1) (.mul Z1 Z1)) <| .dn (.f (n + 2) (.mul X2 (n + 1))) <| .dn (.f (n + 3) (.mul X1 n)) <| .dn (.f (n + 4) (.mul Y2 Z1)) <| .dn (.f (n + 5) (.mul (n + 4) (n + 1))) <| .dn (.f (n + 6) (.mul Y1 Z2)) <| .dn (.f (n + 7) (.mul (n + 6) n)) <|
  .br (.fe (n + 2) (n + 3)) (.br (.fe (n + 5) (n + 7)) (jdblT tup (n + 8) X1 Y1 Z1) (jchT tup (n + 8) (n + 2) (n + 3) (n + 5) (n + 7) Z1 Z2 (n + 1) n)) (jchT tup (n + 8) (n + 2) (n + 3) (n + 5) (n + 7) Z1 Z2 (n + 1) n)
def jsumT (tup : Bool) (n X1 Y1 Z1 X2 Y2 Z2 : Nat) : Tree Lf :=
  .br (.fz Z1) (.br (.fz Z2) (zerT tup n) (ainT tup n X2 Y2 Z2)) (.br (.fz Z2) (ainT tup n X1 Y1 Z1) (jaddT tup n X1 Y1 Z1 X2 Y2 Z2))
theorem u_eq (x z w : Fq) : x * (z * z) * (w * w) = x * (w * z * (w * z)) := by grind
theorem u_eq' (x z w : Fq) : x * (w * w) * (z * z) = x * (w * z * (w * z)) := by grind
theorem s_eq (y z w : Fq) : y * (z * z * z) * w * (w * w) = y * (w * z * (w * z) * (w * z)) := by grind
theorem s_eq' (y z w : Fq) : y * (w * w * w) * z * (z * z) = y * (w * z * (w * z) * (w * z)) := by grind
theorem cancel_sq {x y Z : Fq} (hZ : Z ≠ 0) (h : x * Z = y * Z) : x = y := by
  have := mul_finv hZ
  grind
theorem jsumT_goal {tup : Bool} {n X1 Y1 Z1 X2 Y2 Z2 : Nat} {e : Env} {p r : P1} (h1 : RepJ (e.f X1) (e.f Y1) (e.f Z1) p) (h2 : RepJ (e.f X2) (e.f Y2) (e.f Z2) r) : (jsumT tup n X1 Y1 Z1 X2 Y2 Z2).goal e (Gives tup (add1 p r) e) := by
  have nz : ∀ {X Y Z : Nat} {p : P1}, RepJ (e.f X) (e.f Y) (e.f Z) p → (BE.fz Z).den e = false → e.f Z ≠ 0 ∧ p ≠ (0, 0) ∧ e.f X = p.1 * (e.f Z * e.f Z) ∧ e.f Y = p.2 * (e.f Z * e.f Z * e.f Z) := fun h g => by
    rcases h with h | h
    · exact absurd h.1 (fz_f g)
    · exact h
  have z : ∀ {X Y Z : Nat} {p : P1}, RepJ (e.f X) (e.f Y) (e.f Z) p → (BE.fz Z).den e = true → p = (0, 0) := fun h g => by
    rcases h with h | h
    · exact h.2
    · exact absurd (fz_t g) h.1
  refine ⟨fun g1 => ⟨fun g2 => ?_, fun g2 => ?_⟩, fun g1 => ⟨fun g2 => ?_, fun g2 => ?_⟩⟩
  · rw [z h1 g1, z h2 g2, add1_zero]
    exact zerT_goal rfl
  · rw [z h1 g1, add1_zero]
    obtain ⟨q1, q2, q3, q4⟩ := nz h2 g2
    exact ainT_goal q1 fun a ha => rep_out q3 q4 ha
  · obtain ⟨q1, q2, q3, q4⟩ := nz h1 g1
    rw [z h2 g2, add1_zero' q2]
    exact ainT_goal q1 fun a ha => rep_out q3 q4 ha
  · obtain ⟨a1, a2, a3, a4⟩ := nz h1 g1
    obtain ⟨b1, b2, b3, b4⟩ := nz h2 g2
    intro d0 d1 d2 d3 d4 d5 d6 d7
    have d0 : e.f n = e.f Z2 * e.f Z2 := d0
    have d1 : e.f (n + 1) = e.f Z1 * e.f Z1 := d1
    have d2 : e.f (n + 2) = e.f X2 * e.f (n + 1) := d2
    have d3 : e.f (n + 3) = e.f X1 * e.f n := d3
    have d4 : e.f (n + 4) = e.f Y2 * e.f Z1 := d4
    have d5 : e.f (n + 5) = e.f (n + 4) * e.f (n + 1) := d5
    have d6 : e.f (n + 6) = e.f Y1 * e.f Z2 := d6
    have d7 : e.f (n + 7) = e.f (n + 6) * e.f n := d7
    have hZ0 : e.f Z1 * e.f Z2 ≠ 0 := mul_ne a1 b1
    have k1 : e.f (n + 2) = r.1 * (e.f Z1 * e.f Z2 * (e.f Z1 * e.f Z2)) := by rw [d2, d1, b3, u_eq]
    have k2 : e.f (n + 3) = p.1 * (e.f Z1 * e.f Z2 * (e.f Z1 * e.f Z2)) := by rw [d3, d0, a3, u_eq']
    have k3 : e.f (n + 5) = r.2 * (e.f Z1 * e.f Z2 * (e.f Z1 * e.f Z2) * (e.f Z1 * e.f Z2)) := by rw [d5, d4, d1, b4, s_eq]
    have k4 : e.f (n + 7) = p.2 * (e.f Z1 * e.f Z2 * (e.f Z1 * e.f Z2) * (e.f Z1 * e.f Z2)) := by rw [d7, d6, d0, a4, s_eq']
    have hx : e.f (n + 2) = e.f (n + 3) → p.1 = r.1 := fun h => by
      rw [k1, k2] at h
      exact (cancel_sq (mul_ne hZ0 hZ0) h).symm
    have hy : e.f (n + 5) = e.f (n + 7) → p.2 = r.2 := fun h => by
      rw [k3, k4] at h
      exact (cancel_sq (mul_ne (mul_ne hZ0 hZ0) hZ0) h).symm
    have ch : ¬ (p.1 = r.1 ∧ p.2 = r.2) → (jchT tup (n + 8) (n + 2) (n + 3) (n + 5) (n + 7) Z1 Z2 (n + 1) n).goal e (Gives tup (add1 p r) e) := fun hne => jchT_goal rfl hZ0 k1 k2 k3 k4 d1 d0 a2 b2 hne
    refine ⟨fun g => ⟨fun g' => ?_, fun g' => ch fun h => fe_f g' ?_⟩, fun g => ch fun h => fe_f g ?_⟩
    · have : r = p := Prod.ext (hx (fe_t g)).symm (hy (fe_t g')).symm
      rw [this]
      exact jdblT_goal h1
    · rw [k3, k4, h.2]
    · rw [k1, k2, h.1]
end Go.Sx
namespace Go.Sx
open Go
set_option maxRecDepth 100000
def jacD (n x y : Nat) (t : Tree Lf) : Tree Lf := .dn (.f n (.fn 8 [x, y])) <| .dn (.f (n + 1) (.fn 9 [x, y])) <| .dn (.f (n + 2) (.fn 10 [x, y])) t
theorem jacD_goal {n x y : Nat} {t : Tree Lf} {e : Env} {p : P1} {Φ : Lf → Prop} (hx : e.f x = p.1) (hy : e.f y = p.2) (h : RepJ (e.f n) (e.f (n + 1)) (e.f (n + 2)) p → t.goal e Φ) : (jacD n x y t).goal e Φ := fun d0 d1 d2 => by
  have d0 : e.f n = jx (e.f x) (e.f y) := d0
  have d1 : e.f (n + 1) = jy (e.f x) (e.f y) := d1
  have d2 : e.f (n + 2) = jz (e.f x) (e.f y) := d2
  refine h ?_
  rw [d0, d1, d2, hx, hy]
  exact repJ_jac p
theorem neg_zero_fq : -(0 : Fq) = 0 := by decide
theorem repJ_neg {X Y Z : Fq} {p : P1} (h : RepJ X Y Z p) : RepJ X (-Y) Z (neg1 p) := by
  rcases h with ⟨h1, h2⟩ | ⟨h1, h2, h3, h4⟩
  · exact .inl ⟨h1, by rw [h2]; show ((0 : Fq), -(0 : Fq)) = (0, 0); rw [neg_zero_fq]⟩
  · refine .inr ⟨h1, fun g => h2 ?_, h3, ?_⟩
    · have g1 : p.1 = 0 := congrArg Prod.fst g
      have g2 : -p.2 = 0 := congrArg Prod.snd g
      exact Prod.ext g1 (by show p.2 = 0; grind)
    · show -Y = -p.2 * (Z * Z * Z)
      rw [h4]
      grind
def tDblJ : Tree Lf := jacD 2 0 1 (jdblT true 5 2 3 4)
def tAddJ : Tree Lf := jacD 4 0 1 (jacD 7 2 3 (jsumT true 10 4 5 6 7 8 9))
def tSubJ : Tree Lf := jacD 4 0 1 (jacD 7 2 3 (.dn (.f 10 (.neg 8)) (jsumT true 11 4 5 6 7 10 9)))
def mchT (n : Nat) : Tree Lf :=
  .dn (.f n (.sub 8 4)) <| .dn (.f (n + 1) (.mul n n)) <| .dn (.f (n + 2) (.add (n + 1) (n + 1))) <| .dn (.f (n + 3) (.add (n + 2) (n + 2))) <| .dn (.f (n + 4) (.mul n (n + 3))) <| .dn (.f (n + 5) (.sub 10 5)) <| .dn (.f (n + 6) (.add (n + 5) (n + 5))) <|
  .dn (.f (n + 7) (.mul 4 (n + 3))) <| .dn (.f (n + 8) (.mul (n + 6) (n + 6))) <| .dn (.f (n + 9) (.sub (n + 8) (n + 4))) <| .dn (.f (n + 10) (.sub (n + 9) (n + 7))) <| .dn (.f (n + 11) (.sub (n + 10) (n + 7))) <| .dn (.f (n + 12) (.mul (n + 4) 5)) <| .dn (.f (n + 13) (.add (n + 12) (n + 12))) <|
  .dn (.f (n + 14) (.sub (n + 7) (n + 11))) <| .dn (.f (n + 15) (.mul (n + 14) (n + 6))) <| .dn (.f (n + 16) (.sub (n + 15) (n + 13))) <| .dn (.f (n + 17) (.add 6 n)) <| .dn (.f (n + 18) (.mul (n + 17) (n + 17))) <| .dn (.f (n + 19) (.sub (n + 18) 7)) <| .dn (.f (n + 20) (.sub (n + 19) (n + 1))) <|
  affT true (n + 21) (n + 11) (n + 16) (n + 20)
def mixC : Tree Lf := .dn (.f 7 (.mul 6 6)) <| .dn (.f 8 (.mul 2 7)) <| .dn (.f 9 (.mul 3 6)) <| .dn (.f 10 (.mul 9 7)) <| .br (.fe 8 4) (.br (.fe 10 5) (dblT true 11 2 3) (mchT 11)) (mchT 11)
def mixW : Tree Lf := .br (.fz 6) (.dn (.f 7 (.k 1)) (ainT true 8 2 3 7)) mixC
def tMix : Tree Lf := jacD 4 0 1 (.br (.fz 2) (.br (.fz 3) (.br (.fz 6) (zerT true 7) (ainT true 7 4 5 6)) mixW) mixW)
section
variable {e : Env} {p r : P1}
theorem dblJ_goal (h0 : e.f 0 = p.1) (h1 : e.f 1 = p.2) : tDblJ.goal e (Gives true (add1 p p) e) := jacD_goal h0 h1 fun h => jdblT_goal h
theorem addJ_goal (h0 : e.f 0 = p.1) (h1 : e.f 1 = p.2) (h2 : e.f 2 = r.1) (h3 : e.f 3 = r.2) : tAddJ.goal e (Gives true (add1 p r) e) := jacD_goal h0 h1 fun h => jacD_goal h2 h3 fun h' => jsumT_goal h h'
theorem subJ_goal (h0 : e.f 0 = p.1) (h1 : e.f 1 = p.2) (h2 : e.f 2 = r.1) (h3 : e.f 3 = r.2) : tSubJ.goal e (Gives true (add1 p (neg1 r)) e) := jacD_goal h0 h1 fun h => jacD_goal h2 h3 fun h' d => by
  have d : e.f 10 = - e.f 8 := d
  refine jsumT_goal h ?_
  rw [d]
  exact repJ_neg h'
theorem i4 (H : Fq) : H * H + H * H + (H * H + H * H) = (H + H) * (H + H) := by grind
theorem z3m (Z H : Fq) : (Z + H) * (Z + H) - Z * Z - H * H = H * Z + H * Z := by grind
theorem neg_h {a b h : Fq} (hh : (b - a) * h = 1) : finv (a - b) = -h := finv_of (by rw [← hh]; grind)
theorem slope_m {y1 y2 h : Fq} : (y1 - y2) * (-h) = (y2 - y1) * h := by grind
theorem sub_swap (s a b : Fq) : s - a - b = s - b - a := by grind
theorem mul_sw {A J y : Fq} : A - (J * y + J * y) = A - (y * J + y * J) := by grind
theorem m11 (x : Fq) : x = x * (1 * 1) := by grind
theorem m111 (x : Fq) : x = x * (1 * 1 * 1) := by grind
theorem m3 (y z : Fq) : y * z * (z * z) = y * (z * z * z) := by grind
theorem mch_goal {n : Nat} {Z : Fq} (hZ : Z ≠ 0) (h4 : e.f 4 = p.1 * (Z * Z)) (h5 : e.f 5 = p.2 * (Z * Z * Z)) (h6 : e.f 6 = Z) (h7 : e.f 7 = Z * Z) (h8 : e.f 8 = r.1 * (Z * Z)) (h10 : e.f 10 = r.2 * (Z * Z * Z)) (hp : p ≠ (0, 0)) (hr : r ≠ (0, 0)) (hne : ¬ (p.1 = r.1 ∧ p.2 = r.2)) :
    (mchT n).goal e (Gives true (add1 p r) e) := by
  intro d0 d1 d2 d3 d4 d5 d6 d7 d8 d9 d10 d11 d12 d13 d14 d15 d16 d17 d18 d19 d20
  have d0 : e.f n = e.f 8 - e.f 4 := d0
  have d1 : e.f (n + 1) = e.f n * e.f n := d1
  have d2 : e.f (n + 2) = e.f (n + 1) + e.f (n + 1) := d2
  have d3 : e.f (n + 3) = e.f (n + 2) + e.f (n + 2) := d3
  have d4 : e.f (n + 4) = e.f n * e.f (n + 3) := d4
  have d5 : e.f (n + 5) = e.f 10 - e.f 5 := d5
  have d6 : e.f (n + 6) = e.f (n + 5) + e.f (n + 5) := d6
  have d7 : e.f (n + 7) = e.f 4 * e.f (n + 3) := d7
  have d8 : e.f (n + 8) = e.f (n + 6) * e.f (n + 6) := d8
  have d9 : e.f (n + 9) = e.f (n + 8) - e.f (n + 4) := d9
  have d10 : e.f (n + 10) = e.f (n + 9) - e.f (n + 7) := d10
  have d11 : e.f (n + 11) = e.f (n + 10) - e.f (n + 7) := d11
  have d12 : e.f (n + 12) = e.f (n + 4) * e.f 5 := d12
  have d13 : e.f (n + 13) = e.f (n + 12) + e.f (n + 12) := d13
  have d14 : e.f (n + 14) = e.f (n + 7) - e.f (n + 11) := d14
  have d15 : e.f (n + 15) = e.f (n + 14) * e.f (n + 6) := d15
  have d16 : e.f (n + 16) = e.f (n + 15) - e.f (n + 13) := d16
  have d17 : e.f (n + 17) = e.f 6 + e.f n := d17
  have d18 : e.f (n + 18) = e.f (n + 17) * e.f (n + 17) := d18
  have d19 : e.f (n + 19) = e.f (n + 18) - e.f 7 := d19
  have d20 : e.f (n + 20) = e.f (n + 19) - e.f (n + 1) := d20
  rw [h8, h4] at d0
  rw [h10, h5] at d5
  have hz3 : e.f (n + 20) = (r.1 * (Z * Z) - p.1 * (Z * Z)) * Z + (r.1 * (Z * Z) - p.1 * (Z * Z)) * Z := by rw [d20, d19, d18, d17, d1, h6, h7, z3m, d0]
  by_cases hx : p.1 = r.1
  · have h0 : e.f (n + 20) = 0 := by rw [hz3]; exact hz_eq _ _ _ hx.symm
    exact affT_goal (fun _ => add1_none hp hr hx fun g => hne ⟨hx, g.1⟩) fun a ha => (z_ne h0 ha).elim
  · refine affT_goal (fun g => absurd g (by rw [hz3]; exact h_ne (fun g => hx g.symm) hZ)) fun a ha => ?_
    rw [hz3] at ha
    have hI : e.f (n + 3) = (r.1 * (Z * Z) - p.1 * (Z * Z) + (r.1 * (Z * Z) - p.1 * (Z * Z))) * (r.1 * (Z * Z) - p.1 * (Z * Z) + (r.1 * (Z * Z) - p.1 * (Z * Z))) := by rw [d3, d2, d1, i4, d0]
    have hX : e.f (n + 11) = e.f (n + 6) * e.f (n + 6) - (r.1 * (Z * Z) - p.1 * (Z * Z)) * e.f (n + 3) - p.1 * (Z * Z) * e.f (n + 3) - p.1 * (Z * Z) * e.f (n + 3) := by rw [d11, d10, d9, d8, d7, d4, d0, h4]
    have hd : p.1 - r.1 ≠ 0 := fun h => hx (by grind)
    have hh := mul_finv hd
    have hs := gslope (y1 := r.2) (y2 := p.2) ha hh
    have hr6 : e.f (n + 6) = r.2 * (Z * Z * Z) - p.2 * (Z * Z * Z) + (r.2 * (Z * Z * Z) - p.2 * (Z * Z * Z)) := by rw [d6, d5]
    rw [← hr6] at hs
    have hx3 := gchord_x ha hI hX
    have hy3 := gchord_y (y2 := p.2) (r := e.f (n + 6)) (X3 := e.f (n + 11)) ha hI
    have hsl : e.f (n + 6) * a = (r.2 - p.2) * finv (r.1 - p.1) := by rw [neg_h hh, slope_m, hs]
    have hx3' : e.f (n + 11) * (a * a) = e.f (n + 6) * a * (e.f (n + 6) * a) - p.1 - r.1 := by rw [hx3]; exact sub_swap _ _ _
    rw [add1_chord hp hr hx hsl rfl]
    simp only
    refine ⟨hx3', ?_⟩
    rw [d16, d15, d14, d7, d13, d12, d4, d0, h4, h5, mul_sw, hy3, hx3']
theorem mix_goal (h0 : e.f 0 = p.1) (h1 : e.f 1 = p.2) (h2 : e.f 2 = r.1) (h3 : e.f 3 = r.2) : tMix.goal e (Gives true (add1 p r) e) := jacD_goal h0 h1 fun h => by
  have nz : (BE.fz 6).den e = false → e.f 6 ≠ 0 ∧ p ≠ (0, 0) ∧ e.f 4 = p.1 * (e.f 6 * e.f 6) ∧ e.f 5 = p.2 * (e.f 6 * e.f 6 * e.f 6) := fun g => by
    rcases h with h | h
    · exact absurd h.1 (fz_f g)
    · exact h
  have z : (BE.fz 6).den e = true → p = (0, 0) := fun g => by
    rcases h with h | h
    · exact h.2
    · exact absurd (fz_t g) h.1
  have w : r ≠ (0, 0) → mixW.goal e (Gives true (add1 p r) e) := fun hr => by
    refine ⟨fun g d7 => ?_, fun g d7 d8 d9 d10 => ?_⟩
    · have d7 : e.f 7 = 1 := d7
      rw [z g, add1_zero]
      refine ainT_goal (by rw [d7]; decide) fun a ha => rep_out (Z := e.f 7) (by rw [h2, d7]; exact m11 _) (by rw [h3, d7]; exact m111 _) ha
    · obtain ⟨a1, a2, a3, a4⟩ := nz g
      have d7 : e.f 7 = e.f 6 * e.f 6 := d7
      have d8 : e.f 8 = e.f 2 * e.f 7 := d8
      have d9 : e.f 9 = e.f 3 * e.f 6 := d9
      have d10 : e.f 10 = e.f 9 * e.f 7 := d10
      have k8 : e.f 8 = r.1 * (e.f 6 * e.f 6) := by rw [d8, d7, h2]
      have k10 : e.f 10 = r.2 * (e.f 6 * e.f 6 * e.f 6) := by rw [d10, d9, d7, h3]; exact m3 _ _
      have ch : ¬ (p.1 = r.1 ∧ p.2 = r.2) → (mchT 11).goal e (Gives true (add1 p r) e) := fun hne => mch_goal a1 a3 a4 rfl d7 k8 k10 a2 hr hne
      refine ⟨fun g1 => ⟨fun g2 => ?_, fun g2 => ch fun hh => fe_f g2 ?_⟩, fun g1 => ch fun hh => fe_f g1 ?_⟩
      · have e1 : r.1 = p.1 := cancel_sq (mul_ne a1 a1) (by rw [← k8, ← a3]; exact fe_t g1)
        have e2 : r.2 = p.2 := cancel_sq (mul_ne (mul_ne a1 a1) a1) (by rw [← k10, ← a4]; exact fe_t g2)
        have : p = r := Prod.ext e1.symm e2.symm
        rw [this]
        exact dblT_goal h2 h3
      · rw [k10, a4, hh.2]
      · rw [k8, a3, hh.1]
  refine ⟨fun g2 => ⟨fun g3 => ⟨fun g6 => ?_, fun g6 => ?_⟩, fun g3 => w (ne2 ?_)⟩, fun g2 => w (ne1 ?_)⟩
  · have hr : r = (0, 0) := Prod.ext (h2.symm.trans (fz_t g2)) (h3.symm.trans (fz_t g3))
    rw [z g6, hr, add1_zero]
    exact zerT_goal rfl
  · have hr : r = (0, 0) := Prod.ext (h2.symm.trans (fz_t g2)) (h3.symm.trans (fz_t g3))
    obtain ⟨a1, a2, a3, a4⟩ := nz g6
    rw [hr, add1_zero' a2]
    exact ainT_goal a1 fun a ha => rep_out a3 a4 ha
  · rw [← h3]; exact fz_f g3
  · rw [← h2]; exact fz_f g2
end
end Go.Sx
namespace Go.Sx
open Go
set_option maxRecDepth 100000
/-! ### FnG1Jac -/
def tLJ : Tree Lf := .br (.fn 1 [0, 1]) (.br (.fn 1 [2, 3]) (.dn (.f 4 (.fn 1 [0, 1, 2, 3])) <| .dn (.f 5 (.fn 2 [0, 1, 2, 3])) <| .dn (.f 6 (.neg 3)) <| .dn (.f 7 (.fn 1 [0, 1, 2, 6])) <| .dn (.f 8 (.fn 2 [0, 1, 2, 6])) <|
  .dn (.f 9 (.fn 1 [0, 1, 2, 3])) <| .dn (.f 10 (.fn 2 [0, 1, 2, 3])) <| .dn (.f 11 (.fn 1 [0, 1, 0, 1])) <| .dn (.f 12 (.fn 2 [0, 1, 0, 1])) <| .dn (.f 13 (.fn 1 [0, 1, 2, 3])) <| .dn (.f 14 (.fn 2 [0, 1, 2, 3])) <|
  .br (.fe 4 13) (.br (.fe 5 14) (.dn (.f 15 (.neg 3)) <| .dn (.f 16 (.fn 1 [0, 1, 2, 15])) <| .dn (.f 17 (.fn 2 [0, 1, 2, 15])) <| .br (.fe 7 16) (.br (.fe 8 17) (.br (.fe 9 4) (.br (.fe 10 5)
    (.dn (.f 18 (.fn 1 [0, 1, 0, 1])) <| .dn (.f 19 (.fn 2 [0, 1, 0, 1])) <| lfB (.and (.fe 11 18) (.fe 12 19))) lfF) lfF) lfF) lfF) lfF) lfF) lfT) lfT
theorem lawLJ (e : Env) : tLJ.goal e (IsTrue e) := by
  refine ⟨fun _ => ⟨fun _ d4 d5 d6 d7 d8 d9 d10 d11 d12 d13 d14 => ?_, fun _ => lfT_goal⟩, fun _ => lfT_goal⟩
  refine ⟨fun _ => ⟨fun _ d15 d16 d17 => ?_, fun g => absurd (by rw [def2 d5, def2 d14]) (fe_f g)⟩, fun g => absurd (by rw [def1 d4, def1 d13]) (fe_f g)⟩
  have d6 : e.f 6 = - e.f 3 := d6
  have d15 : e.f 15 = - e.f 3 := d15
  refine ⟨fun _ => ⟨fun _ => ⟨fun _ => ⟨fun _ d18 d19 => lfB_goal ?_, fun g => absurd (by rw [def2 d10, def2 d5]) (fe_f g)⟩, fun g => absurd (by rw [def1 d9, def1 d4]) (fe_f g)⟩, fun g => absurd (by rw [def2 d8, def2 d17, d6, d15]) (fe_f g)⟩, fun g => absurd (by rw [def1 d7, def1 d16, d6, d15]) (fe_f g)⟩
  have h1 : e.f 11 = e.f 18 := by rw [def1 d11, def1 d18]
  have h2 : e.f 12 = e.f 19 := by rw [def2 d12, def2 d19]
  show (decide (e.f 11 = e.f 18) && decide (e.f 12 = e.f 19)) = true
  rw [decide_eq_true h1, decide_eq_true h2]
  rfl
end Go.Sx
namespace Go.Sx
open Go
set_option maxRecDepth 100000
/-! ### FnG1Scaled -/
def scBad : Tree Lf := .leaf (.tup [.agg (List.replicate 8 (.int .u64 (.c 0))), .at (.bool (.c false))], [])
def scB : Tree Lf := .dn (.f 11 (.mul 2 2)) <| .dn (.f 12 (.mul 5 11)) <| .dn (.f 13 (.mul 11 2)) <| .dn (.f 14 (.mul 6 13)) <| .br (.fz 10) (ainT true 15 12 14 2) (jaddT true 15 12 14 2 8 9 10)
def tScaled : Tree Lf := .br (.fz 2) scBad (jacD 5 0 1 (jacD 8 3 4 (.br (.fz 0) (.br (.fz 1) (jsumT true 11 5 6 7 8 9 10) scB) scB)))
theorem sc3 (y k : Fq) : y * (k * k * k) = y * (k * k * k) := rfl
theorem scaled_goal {e : Env} {p r : P1} {z : Fq} (hz : z ≠ 0) (h0 : e.f 0 = p.1) (h1 : e.f 1 = p.2) (h2 : e.f 2 = z) (h3 : e.f 3 = r.1) (h4 : e.f 4 = r.2) : tScaled.goal e (Gives true (add1 p r) e) := by
  refine ⟨fun g => absurd (h2.symm.trans (fz_t g)) hz, fun _ d5 d6 d7 => ?_⟩
  have d5 : e.f 5 = jx (e.f 0) (e.f 1) := d5
  have d6 : e.f 6 = jy (e.f 0) (e.f 1) := d6
  have d7 : e.f 7 = jz (e.f 0) (e.f 1) := d7
  rw [h0, h1] at d5 d6 d7
  refine jacD_goal h3 h4 fun hr => ?_
  have w : ¬ (p.1 = 0 ∧ p.2 = 0) → scB.goal e (Gives true (add1 p r) e) := fun hn d11 d12 d13 d14 => by
    have d11 : e.f 11 = e.f 2 * e.f 2 := d11
    have d12 : e.f 12 = e.f 5 * e.f 11 := d12
    have d13 : e.f 13 = e.f 11 * e.f 2 := d13
    have d14 : e.f 14 = e.f 6 * e.f 13 := d14
    unfold jx at d5
    unfold jy at d6
    rw [if_neg hn] at d5 d6
    have hz2 : e.f 2 ≠ 0 := by rw [h2]; exact hz
    have hp : RepJ (e.f 12) (e.f 14) (e.f 2) p := .inr ⟨hz2, fun g => hn (by rw [g]; exact ⟨rfl, rfl⟩), by rw [d12, d11, d5], by rw [d14, d13, d11, d6]⟩
    exact (jsumT_goal (tup := true) (n := 15) hp hr).2 (decide_eq_false hz2)
  refine ⟨fun g0 => ⟨fun g1 => ?_, fun g1 => w fun h => fz_f g1 (h1.trans h.2)⟩, fun g0 => w fun h => fz_f g0 (h0.trans h.1)⟩
  refine jsumT_goal ?_ hr
  rw [d5, d6, d7]
  exact repJ_jac p
/-- The sum of a point scaled by a number that is not 0 and another point. -/
def ScC (P : Program) (f : FuncId) : Prop := ∀ (p r : P1) (z : Fq) (w : World), z ≠ 0 → QuietRun P (callFunc f #[elsV [p.1, p.2], elsV [z], elsV [r.1, r.2]]) (outV true [(add1 p r).1, (add1 p r).2]) w
theorem scC_of {P : Program} {qf pf : QSum} (hm : P.follows .mixedOrders = true) (hnum : NumOk P) (hq : QOk P qf) (hp : POk P pf) {f : FuncId} (h : sxCall P qf pf 5000 f [.one (.agg (eps 0 ++ eps 1)), .one (.agg (eps 2)), .one (.agg (eps 3 ++ eps 4))] (hp0 [] 0 5) leafE = some tScaled) : ScC P f := fun p r z w hz => by
  have key := quiet_els (fs := fsOf [p.1, p.2, z, r.1, r.2]) (u := outV true [(add1 p r).1, (add1 p r).2]) hm hnum hq hp h (by decide +kernel) rfl rfl
    (fun e he => scaled_goal hz (he 0 (by omega)) (he 1 (by omega)) (he 2 (by omega)) (he 3 (by omega)) (he 4 (by omega))) (vs := [elsV [p.1, p.2], elsV [z], elsV [r.1, r.2]]) rfl w
  exact key
def scF (fn : FuncId) : QSum := fun f args h =>
  bif Nat.beq f fn then match argEls h args with
    | some (ds, [[a, b], [z], [c, d]], h1) => bif (match look h.facts (.fz z) with | some false => true | _ => false) then
        some (ds ++ newEls h1.nf [.fn 1 [a, b, c, d], .fn 2 [a, b, c, d]], outS true [h1.nf, h1.nf + 1], { h1 with nf := h1.nf + 2 })
      else none
    | _ => none
  else none
theorem scF_q {P : Program} {fn : FuncId} (hc : ScC P fn) : QOk P (scF fn) := by
  intro f args h ds v h' hh
  unfold scF at hh
  cases hb : Nat.beq f fn with
  | false => rw [hb] at hh; cases hh
  | true =>
    rw [hb] at hh
    have hf := Nat.eq_of_beq_eq_true hb
    subst hf
    simp only [cond_true] at hh
    split at hh
    · rename_i ds' a b z c d h1 ha
      cases hl : (match look h.facts (.fz z) with | some false => true | _ => false) with
      | false => rw [hl] at hh; cases hh
      | true =>
        rw [hl] at hh
        cases hh
        obtain ⟨m1, _⟩ := argEls_sound (e := elEnv fun _ => 0) (β := fun _ => 0) (n := 0) ha
        refine ⟨m1.trans (SameMem.nf _ _), fun e β hf hok hds => ?_⟩
        obtain ⟨_, s1⟩ := argEls_sound (e := e) (β := β) (n := h.cnt) ha
        have hargs := s1 hf hok fun d hd => hds d (by simp [hd])
        have hnew := newEls_holds (e := e) (ds := [.fn 1 [a, b, c, d], .fn 2 [a, b, c, d]]) (n := h1.nf) fun d hd => hds d (by simp [hd])
        have hz : e.f z ≠ 0 := by
          split at hl
          · rename_i hlk
            exact fz_f (look_sound hf hlk)
          · cases hl
        have d0 := hnew 0 (.fn 1 [a, b, c, d]) rfl
        have d1 := hnew 1 (.fn 2 [a, b, c, d]) rfl
        rw [fn1] at d0
        rw [fn2] at d1
        rw [Nat.add_zero] at d0
        refine ⟨outS_ok, fun w0 w _ => ?_⟩
        rw [hargs, outS_den]
        simp only [List.map_cons, List.map_nil]
        rw [d0, d1]
        exact hc (e.f a, e.f b) (e.f c, e.f d) (e.f z) w hz
    · cases hh
def scR : Tree Lf := .dn (.f 5 (.fn 1 [0, 1, 3, 4])) <| .dn (.f 6 (.fn 2 [0, 1, 3, 4])) <| .dn (.f 7 (.fn 1 [0, 1, 3, 4])) <| .dn (.f 8 (.fn 2 [0, 1, 3, 4])) <| lfB (.and (.fe 5 7) (.fe 6 8))
def tLS : Tree Lf := .br (.fn 1 [0, 1]) (.br (.fn 1 [3, 4]) (.br (.fz 2) lfT (.br (.fz 0) (.br (.fz 1) lfT scR) scR)) lfT) lfT
theorem scR_goal {e : Env} : scR.goal e (IsTrue e) := fun d5 d6 d7 d8 => lfB_goal (by
  have h1 : e.f 5 = e.f 7 := by rw [def1 d5, def1 d7]
  have h2 : e.f 6 = e.f 8 := by rw [def2 d6, def2 d8]
  show (decide (e.f 5 = e.f 7) && decide (e.f 6 = e.f 8)) = true
  rw [decide_eq_true h1, decide_eq_true h2]
  rfl)
theorem lawLS (e : Env) : tLS.goal e (IsTrue e) :=
  ⟨fun _ => ⟨fun _ => ⟨fun _ => lfT_goal, fun _ => ⟨fun _ => ⟨fun _ => lfT_goal, fun _ => scR_goal⟩, fun _ => scR_goal⟩⟩, fun _ => lfT_goal⟩, fun _ => lfT_goal⟩
end Go.Sx
