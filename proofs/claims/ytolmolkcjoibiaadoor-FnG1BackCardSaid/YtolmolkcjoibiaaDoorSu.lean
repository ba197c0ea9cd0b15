import Derived.Test.YtolmolkcjoibiaaDoorSr
/- Aids to the claim: what is shown here is said at each theorem. -/
namespace Go.Sx
/-! ### Numbers of two parts, as a ring with inverses -/
instance f2Mul : Mul F2 := ⟨F2.mul⟩
instance f2Add : Add F2 := ⟨F2.add⟩
instance f2Sub : Sub F2 := ⟨F2.sub⟩
instance f2Neg : Neg F2 := ⟨fun a => (-a.1, -a.2)⟩
instance f2Nat (n : Nat) : OfNat F2 n := ⟨(OfNat.ofNat n, 0)⟩
section
variable (a : Fq)
theorem qzm : 0 * a = 0 := by grind
theorem qmz : a * 0 = 0 := by grind
theorem qs0 : a - 0 = a := by grind
theorem qa0 : a + 0 = a := by grind
theorem q0a : 0 + a = a := by grind
theorem q1m : 1 * a = a := by grind
theorem qm1 : a * 1 = a := by grind
end
section
variable (a b c : F2)
theorem fm1 : (a * b).1 = a.1 * b.1 - a.2 * b.2 := rfl
theorem fm2 : (a * b).2 = a.1 * b.2 + a.2 * b.1 := rfl
theorem fa1 : (a + b).1 = a.1 + b.1 := rfl
theorem fa2 : (a + b).2 = a.2 + b.2 := rfl
theorem fs1 : (a - b).1 = a.1 - b.1 := rfl
theorem fs2 : (a - b).2 = a.2 - b.2 := rfl
theorem fg1 : (-a).1 = -a.1 := rfl
theorem fg2 : (-a).2 = -a.2 := rfl
theorem fz1 : (0 : F2).1 = 0 := rfl
theorem fz2 : (0 : F2).2 = 0 := rfl
theorem fo1 : (1 : F2).1 = 1 := rfl
theorem fo2 : (1 : F2).2 = 0 := rfl
theorem ft1 : (3 : F2).1 = 3 := rfl
theorem ft2 : (3 : F2).2 = 0 := rfl
theorem fk41 : (4 : F2).1 = 4 := rfl
theorem fk42 : (4 : F2).2 = 0 := rfl
theorem fk81 : (8 : F2).1 = 8 := rfl
theorem fk82 : (8 : F2).2 = 0 := rfl
theorem cmul_assoc : a * b * c = a * (b * c) := by (refine Prod.ext ?_ ?_ <;> simp only [fm1, fm2] <;> grind)
theorem cmul_comm : a * b = b * a := by (refine Prod.ext ?_ ?_ <;> simp only [fm1, fm2] <;> grind)
theorem cmul_one : a * 1 = a := by (refine Prod.ext ?_ ?_ <;> simp only [fm1, fm2, fo1, fo2, qmz, qs0, q0a, qm1] <;> grind)
theorem cone_mul : 1 * a = a := by (refine Prod.ext ?_ ?_ <;> simp only [fm1, fm2, fo1, fo2, qzm, qs0, qa0, q1m] <;> grind)
theorem czmul : 0 * a = 0 := by (refine Prod.ext ?_ ?_ <;> simp only [fm1, fm2, fz1, fz2, qzm, qs0, qa0] <;> grind)
theorem cmulz : a * 0 = 0 := by (refine Prod.ext ?_ ?_ <;> simp only [fm1, fm2, fz1, fz2, qmz, qs0, qa0] <;> grind)
end
theorem c_ne {a : F2} (h : a ≠ 0) : ¬ (a.1 = 0 ∧ a.2 = 0) := fun g => h (Prod.ext g.1 g.2)
theorem one_ne_c : (1 : F2) ≠ 0 := by decide
theorem cinv_def (a : F2) : F2.inv a = (a.1 * finv (a.1 * a.1 + a.2 * a.2), 0 - a.2 * finv (a.1 * a.1 + a.2 * a.2)) := rfl
theorem cmul_inv {a : F2} (h : a ≠ 0) : a * F2.inv a = 1 := by
  have hn : a.1 * a.1 + a.2 * a.2 ≠ 0 := norm_ne (c_ne h)
  have := mul_finv hn
  rw [cinv_def]
  generalize finv (a.1 * a.1 + a.2 * a.2) = n at *
  refine Prod.ext ?_ ?_ <;> simp only [fm1, fm2, fo1, fo2] <;> grind
theorem cmul_ne {a b : F2} (ha : a ≠ 0) (hb : b ≠ 0) : a * b ≠ 0 := fun h => by
  have h1 := cmul_inv hb
  have h2 : a * b * F2.inv b = a := by rw [cmul_assoc, h1, cmul_one]
  rw [h, czmul] at h2
  exact ha h2.symm
theorem ctwo_ne {a : F2} (h : a ≠ 0) : a + a ≠ 0 := fun g => by
  have g1 : a.1 + a.1 = 0 := congrArg Prod.fst g
  have g2 : a.2 + a.2 = 0 := congrArg Prod.snd g
  refine c_ne h ⟨?_, ?_⟩
  · exact Decidable.byContradiction fun k => two_mul_ne k g1
  · exact Decidable.byContradiction fun k => two_mul_ne k g2
theorem cinv_of {a b : F2} (h : a * b = 1) : F2.inv a = b := by
  have ha : a ≠ 0 := by
    rintro rfl
    rw [czmul] at h
    exact one_ne_c h.symm
  have h1 := cmul_inv ha
  have h2 : a * b * F2.inv a = b * (a * F2.inv a) := by rw [cmul_comm a b, cmul_assoc]
  rw [h, cone_mul, h1, cmul_one] at h2
  exact h2
theorem csub_ne {a b : F2} (h : a ≠ b) : a - b ≠ 0 := fun g => h (by
  have g1 : a.1 - b.1 = 0 := congrArg Prod.fst g
  have g2 : a.2 - b.2 = 0 := congrArg Prod.snd g
  exact Prod.ext (by grind) (by grind))
theorem ccancel {x y Z : F2} (hZ : Z ≠ 0) (h : x * Z = y * Z) : x = y := by
  have h1 := cmul_inv hZ
  have h2 : x * Z * F2.inv Z = x := by rw [cmul_assoc, h1, cmul_one]
  rw [h, cmul_assoc, h1, cmul_one] at h2
  exact h2.symm
/-! ### Sums of points: three coordinates with any third one -/
theorem cpow2 {u a W : F2} (h : W * a = 1) : u * (W * W) * (a * a) = u := by
  have : u * (W * W) * (a * a) = u * ((W * a) * (W * a)) := by (refine Prod.ext ?_ ?_ <;> simp only [fm1, fm2] <;> grind)
  rw [this, h]
  (refine Prod.ext ?_ ?_ <;> simp only [fm1, fm2, fo1, fo2, qmz, qs0, qa0, q0a, qm1] <;> grind)
theorem cpow3 {u a W : F2} (h : W * a = 1) : u * (W * W * W) * (a * a) * a = u := by
  have : u * (W * W * W) * (a * a) * a = u * ((W * a) * (W * a) * (W * a)) := by (refine Prod.ext ?_ ?_ <;> simp only [fm1, fm2] <;> grind)
  rw [this, h]
  (refine Prod.ext ?_ ?_ <;> simp only [fm1, fm2, fo1, fo2, qmz, qs0, qa0, q0a, qm1] <;> grind)
theorem cS_eq {x Y Z : F2} : 4 * (x * (Z * Z)) * (Y * Y) = x * ((Y * Z + Y * Z) * (Y * Z + Y * Z)) := by (refine Prod.ext ?_ ?_ <;> simp only [fm1, fm2, fa1, fa2, fk41, fk42, qzm, qs0, qa0] <;> grind)
theorem cE_eq {y Z W Y : F2} (hY : Y = y * (Z * Z * Z)) (hW : W = Y * Z + Y * Z) : 8 * (Y * Y * (Y * Y)) = y * (W * W * W) := by
  have h1 : y * (W * W * W) = 8 * (y * (Z * Z * Z) * (Y * Y * Y)) := by rw [hW]; (refine Prod.ext ?_ ?_ <;> simp only [fm1, fm2, fa1, fa2, fk81, fk82, qzm, qs0, qa0] <;> grind)
  rw [h1, ← hY]
  (refine Prod.ext ?_ ?_ <;> simp only [fm1, fm2, fk81, fk82, qzm, qs0, qa0] <;> grind)
theorem cT_eq {M S a : F2} : (M * M - S - S) * (a * a) = M * a * (M * a) - S * (a * a) - S * (a * a) := by (refine Prod.ext ?_ ?_ <;> simp only [fm1, fm2, fs1, fs2] <;> grind)
theorem cY_eq {M S T E a : F2} : ((S - T) * M - E) * (a * a) * a = (M * a) * (S * (a * a) - T * (a * a)) - E * (a * a) * a := by (refine Prod.ext ?_ ?_ <;> simp only [fm1, fm2, fs1, fs2] <;> grind)
theorem cM_eq {x Z a : F2} : (x * (Z * Z) * (x * (Z * Z)) + x * (Z * Z) * (x * (Z * Z)) + x * (Z * Z) * (x * (Z * Z))) * a = 3 * (x * x) * ((Z * Z * (Z * Z)) * a) := by (refine Prod.ext ?_ ?_ <;> simp only [fm1, fm2, fa1, fa2, ft1, ft2, qzm, qs0, qa0] <;> grind)
theorem cinv4 {y z a : F2} (h : (y * (z * z * z) * z + y * (z * z * z) * z) * a = 1) : (y + y) * (z * z * (z * z) * a) = 1 := by
  rw [← h]
  (refine Prod.ext ?_ ?_ <;> simp only [fm1, fm2, fa1, fa2] <;> grind)
theorem cdbl_x {x y Z a M S T : F2} (hz : (y * (Z * Z * Z) * Z + y * (Z * Z * Z) * Z) * a = 1) (hM : M = x * (Z * Z) * (x * (Z * Z)) + x * (Z * Z) * (x * (Z * Z)) + x * (Z * Z) * (x * (Z * Z)))
    (hS : S = 4 * (x * (Z * Z)) * (y * (Z * Z * Z) * (y * (Z * Z * Z)))) (hT : T = M * M - S - S) (s : F2) (hs : s = 3 * (x * x) * ((Z * Z * (Z * Z)) * a)) : T * (a * a) = s * s - x - x := by
  have h2 : S * (a * a) = x := by rw [hS, cS_eq, cpow2 hz]
  have h4 : M * a = s := by rw [hM, hs, cM_eq]
  rw [hT, cT_eq, h2, h4]
theorem cdbl_y {x y Z a M S T E : F2} (hz : (y * (Z * Z * Z) * Z + y * (Z * Z * Z) * Z) * a = 1) (hM : M = x * (Z * Z) * (x * (Z * Z)) + x * (Z * Z) * (x * (Z * Z)) + x * (Z * Z) * (x * (Z * Z)))
    (hS : S = 4 * (x * (Z * Z)) * (y * (Z * Z * Z) * (y * (Z * Z * Z)))) (hE : E = 8 * (y * (Z * Z * Z) * (y * (Z * Z * Z)) * (y * (Z * Z * Z) * (y * (Z * Z * Z))))) (s : F2) (hs : s = 3 * (x * x) * ((Z * Z * (Z * Z)) * a)) :
    ((S - T) * M - E) * (a * a) * a = s * (x - T * (a * a)) - y := by
  have h2 : S * (a * a) = x := by rw [hS, cS_eq, cpow2 hz]
  have h4 : M * a = s := by rw [hM, hs, cM_eq]
  have h5 : E * (a * a) * a = y := by rw [hE, cE_eq rfl rfl, cpow3 hz]
  rw [cY_eq, h5, h2, h4]
/-- The chord through two points, all scaled by Z: W = 2 (x1 - x2) Z³. -/
theorem ci_eq {x1 x2 Z a I : F2} (hz : ((x1 * (Z * Z) - x2 * (Z * Z)) * Z + (x1 * (Z * Z) - x2 * (Z * Z)) * Z) * a = 1) (hI : I = (x1 * (Z * Z) - x2 * (Z * Z) + (x1 * (Z * Z) - x2 * (Z * Z))) * (x1 * (Z * Z) - x2 * (Z * Z) + (x1 * (Z * Z) - x2 * (Z * Z)))) : I * (a * a) * (Z * Z) = 1 := by
  generalize x1 * (Z * Z) - x2 * (Z * Z) = H at *
  have : I * (a * a) * (Z * Z) = ((H * Z + H * Z) * a) * ((H * Z + H * Z) * a) := by rw [hI]; (refine Prod.ext ?_ ?_ <;> simp only [fm1, fm2, fa1, fa2] <;> grind)
  rw [this, hz]
  (refine Prod.ext ?_ ?_ <;> simp only [fm1, fm2, fo1, fo2, qmz, qs0, qa0, qm1] <;> grind)
theorem cX_eq {x1 x2 Z r a I : F2} : (r * r - (x1 * (Z * Z) - x2 * (Z * Z)) * I - x2 * (Z * Z) * I - x2 * (Z * Z) * I) * (a * a) = (r * a) * (r * a) - (x1 - x2) * (I * (a * a) * (Z * Z)) - x2 * (I * (a * a) * (Z * Z)) - x2 * (I * (a * a) * (Z * Z)) := by (refine Prod.ext ?_ ?_ <;> simp only [fm1, fm2, fs1, fs2] <;> grind)
theorem cX_end {u x1 x2 : F2} : u - (x1 - x2) * 1 - x2 * 1 - x2 * 1 = u - x1 - x2 := by (refine Prod.ext ?_ ?_ <;> simp only [fm1, fm2, fs1, fs2, fo1, fo2, qmz, qs0, q0a, qm1] <;> grind)
theorem cchord_x {x1 x2 Z r a I X3 : F2} (hz : ((x1 * (Z * Z) - x2 * (Z * Z)) * Z + (x1 * (Z * Z) - x2 * (Z * Z)) * Z) * a = 1) (hI : I = (x1 * (Z * Z) - x2 * (Z * Z) + (x1 * (Z * Z) - x2 * (Z * Z))) * (x1 * (Z * Z) - x2 * (Z * Z) + (x1 * (Z * Z) - x2 * (Z * Z))))
    (hX : X3 = r * r - (x1 * (Z * Z) - x2 * (Z * Z)) * I - x2 * (Z * Z) * I - x2 * (Z * Z) * I) : X3 * (a * a) = (r * a) * (r * a) - x1 - x2 := by
  rw [hX, cX_eq, ci_eq hz hI, cX_end]
theorem cV_eq {x2 y2 Z r a I X3 H : F2} : ((x2 * (Z * Z) * I - X3) * r - (y2 * (Z * Z * Z) * (H * I) + y2 * (Z * Z * Z) * (H * I))) * (a * a) * a =
    (r * a) * (x2 * (I * (a * a) * (Z * Z)) - X3 * (a * a)) - y2 * (I * (a * a) * (Z * Z)) * ((H * Z + H * Z) * a) := by (refine Prod.ext ?_ ?_ <;> simp only [fm1, fm2, fa1, fa2, fs1, fs2] <;> grind)
theorem cchord_y {x1 x2 y2 Z r a I X3 : F2} (hz : ((x1 * (Z * Z) - x2 * (Z * Z)) * Z + (x1 * (Z * Z) - x2 * (Z * Z)) * Z) * a = 1) (hI : I = (x1 * (Z * Z) - x2 * (Z * Z) + (x1 * (Z * Z) - x2 * (Z * Z))) * (x1 * (Z * Z) - x2 * (Z * Z) + (x1 * (Z * Z) - x2 * (Z * Z)))) :
    ((x2 * (Z * Z) * I - X3) * r - (y2 * (Z * Z * Z) * ((x1 * (Z * Z) - x2 * (Z * Z)) * I) + y2 * (Z * Z * Z) * ((x1 * (Z * Z) - x2 * (Z * Z)) * I))) * (a * a) * a = (r * a) * (x2 - X3 * (a * a)) - y2 := by
  rw [cV_eq, ci_eq hz hI, hz, cmul_one, cmul_one, cmul_one]
theorem cslope_h {x1 x2 Z a : F2} (hz : ((x1 * (Z * Z) - x2 * (Z * Z)) * Z + (x1 * (Z * Z) - x2 * (Z * Z)) * Z) * a = 1) : (x2 - x1) * (-((Z * Z * Z + Z * Z * Z) * a)) = 1 := by
  rw [← hz]
  (refine Prod.ext ?_ ?_ <;> simp only [fm1, fm2, fa1, fa2, fs1, fs2, fg1, fg2] <;> grind)
/-- The slope is the same from either end. -/
theorem cslope {x1 y1 x2 y2 Z a : F2} (hz : ((x1 * (Z * Z) - x2 * (Z * Z)) * Z + (x1 * (Z * Z) - x2 * (Z * Z)) * Z) * a = 1) :
    (y2 - y1) * F2.inv (x2 - x1) = (y1 * (Z * Z * Z) - y2 * (Z * Z * Z) + (y1 * (Z * Z * Z) - y2 * (Z * Z * Z))) * a := by
  rw [cinv_of (cslope_h hz)]
  (refine Prod.ext ?_ ?_ <;> simp only [fm1, fm2, fa1, fa2, fs1, fs2, fg1, fg2] <;> grind)
theorem cslope' {x1 y1 x2 y2 Z a : F2} (hz : ((x1 * (Z * Z) - x2 * (Z * Z)) * Z + (x1 * (Z * Z) - x2 * (Z * Z)) * Z) * a = 1) :
    (y1 - y2) * F2.inv (x1 - x2) = (y1 * (Z * Z * Z) - y2 * (Z * Z * Z) + (y1 * (Z * Z * Z) - y2 * (Z * Z * Z))) * a := by
  have : (x1 - x2) * ((Z * Z * Z + Z * Z * Z) * a) = 1 := by
    rw [← hz]
    (refine Prod.ext ?_ ?_ <;> simp only [fm1, fm2, fa1, fa2, fs1, fs2] <;> grind)
  rw [cinv_of this]
  (refine Prod.ext ?_ ?_ <;> simp only [fm1, fm2, fa1, fa2, fs1, fs2] <;> grind)
theorem cend_eq {x1 y1 x2 y2 s X : F2} (h : s * (x2 - x1) = y2 - y1) : s * (x2 - X) - y2 = s * (x1 - X) - y1 := by
  have h1 : s * (x2 - X) - y2 = s * (x2 - x1) + (s * (x1 - X) - y2) := by (refine Prod.ext ?_ ?_ <;> simp only [fm1, fm2, fa1, fa2, fs1, fs2] <;> grind)
  rw [h1, h]
  (refine Prod.ext ?_ ?_ <;> simp only [fm1, fm2, fa1, fa2, fs1, fs2] <;> grind)
theorem cend {x1 y1 x2 y2 s X : F2} (hx : x1 ≠ x2) (hs : s = (y2 - y1) * F2.inv (x2 - x1)) : s * (x2 - X) - y2 = s * (x1 - X) - y1 := by
  refine cend_eq ?_
  have h1 := cmul_inv (csub_ne fun g : x2 = x1 => hx g.symm)
  rw [hs, cmul_assoc, cmul_comm (F2.inv _), h1, cmul_one]
/-! ### The sum, case by case -/
theorem add2_zero (r : P2) : add2 (0, 0) r = r := by unfold add2; exact if_pos rfl
theorem add2_zero' {p : P2} (h : p ≠ (0, 0)) : add2 p (0, 0) = p := by
  have h1 : ¬ p = ((0, 0), (0, 0)) := h
  unfold add2
  rw [if_neg h1]
  exact if_pos rfl
theorem add2_none {p r : P2} (h : p ≠ (0, 0)) (h' : r ≠ (0, 0)) (h1 : p.1 = r.1) (h2 : ¬ (p.2 = r.2 ∧ p.2 ≠ 0)) : add2 p r = (0, 0) := by
  have k1 : ¬ p = ((0, 0), (0, 0)) := h
  have k2 : ¬ r = ((0, 0), (0, 0)) := h'
  have k3 : ¬ (p.2 = r.2 ∧ p.2 ≠ (0, 0)) := h2
  unfold add2
  rw [if_neg k1, if_neg k2, if_pos ⟨h1, k3⟩]
  rfl
theorem add2_dbl {p r : P2} (h : p ≠ (0, 0)) (h' : r ≠ (0, 0)) (h1 : p.1 = r.1) (h2 : p.2 = r.2) (h3 : p.2 ≠ 0) {s x : F2} (hs : s = 3 * (p.1 * p.1) * F2.inv (p.2 + p.2)) (hx : x = s * s - p.1 - p.1) : add2 p r = (x, s * (p.1 - x) - p.2) := by
  have k1 : ¬ p = ((0, 0), (0, 0)) := h
  have k2 : ¬ r = ((0, 0), (0, 0)) := h'
  have k3 : p.2 ≠ (0, 0) := h3
  unfold add2
  rw [if_neg k1, if_neg k2, if_neg (fun g => g.2 ⟨h2, k3⟩)]
  simp only
  rw [if_neg (fun g => g h1)]
  have e1 : F2.mul (F2.mul (3, 0) (F2.mul p.1 p.1)) (F2.inv (F2.add p.2 p.2)) = s := hs.symm
  rw [e1, ← h1]
  have e2 : F2.sub (F2.sub (F2.mul s s) p.1) p.1 = x := hx.symm
  rw [e2]
  rfl
theorem add2_chord {p r : P2} (h : p ≠ (0, 0)) (h' : r ≠ (0, 0)) (h1 : p.1 ≠ r.1) {s x : F2} (hs : s = (r.2 - p.2) * F2.inv (r.1 - p.1)) (hx : x = s * s - p.1 - r.1) : add2 p r = (x, s * (p.1 - x) - p.2) := by
  have k1 : ¬ p = ((0, 0), (0, 0)) := h
  have k2 : ¬ r = ((0, 0), (0, 0)) := h'
  unfold add2
  rw [if_neg k1, if_neg k2, if_neg (fun g => h1 g.1)]
  simp only
  rw [if_pos h1]
  have e1 : F2.mul (F2.sub r.2 p.2) (F2.inv (F2.sub r.1 p.1)) = s := hs.symm
  rw [e1]
  have e2 : F2.sub (F2.sub (F2.mul s s) p.1) r.1 = x := hx.symm
  rw [e2]
  rfl
end Go.Sx
namespace Go.Sx
open Go
set_option maxRecDepth 100000
/-! ### Trees over numbers of two parts -/
abbrev PN := Nat × Nat
abbrev KT := Nat → PN → Tree Lf
def g2 (e : Env) (i : PN) : F2 := (e.f i.1, e.f i.2)
def cMul (n : Nat) (x y : PN) (k : KT) : Tree Lf :=
  .dn (.f n (.add x.1 x.2)) <| .dn (.f (n + 1) (.add y.1 y.2)) <| .dn (.f (n + 2) (.mul n (n + 1))) <| .dn (.f (n + 3) (.mul x.1 y.1)) <| .dn (.f (n + 4) (.mul x.2 y.2)) <| .dn (.f (n + 5) (.sub (n + 2) (n + 3))) <| .dn (.f (n + 6) (.sub (n + 5) (n + 4))) <| .dn (.f (n + 7) (.sub (n + 3) (n + 4))) <| k (n + 8) (n + 7, n + 6)
def cSq (n : Nat) (x : PN) (k : KT) : Tree Lf :=
  .dn (.f n (.add x.1 x.2)) <| .dn (.f (n + 1) (.sub x.1 x.2)) <| .dn (.f (n + 2) (.mul n (n + 1))) <| .dn (.f (n + 3) (.mul x.1 x.2)) <| .dn (.f (n + 4) (.add (n + 3) (n + 3))) <| k (n + 5) (n + 2, n + 4)
def cAdd (n : Nat) (x y : PN) (k : KT) : Tree Lf := .dn (.f n (.add x.1 y.1)) <| .dn (.f (n + 1) (.add x.2 y.2)) <| k (n + 2) (n, n + 1)
def cSub (n : Nat) (x y : PN) (k : KT) : Tree Lf := .dn (.f n (.sub x.1 y.1)) <| .dn (.f (n + 1) (.sub x.2 y.2)) <| k (n + 2) (n, n + 1)
def cNeg (n : Nat) (x : PN) (k : KT) : Tree Lf := .dn (.f n (.neg x.1)) <| .dn (.f (n + 1) (.neg x.2)) <| k (n + 2) (n, n + 1)
def cInv (n : Nat) (x : PN) (k : KT) : Tree Lf :=
  .dn (.f n (.mul x.1 x.1)) <| .dn (.f (n + 1) (.mul x.2 x.2)) <| .dn (.f (n + 2) (.add n (n + 1))) <| .dn (.f (n + 3) (.fn 0 [n + 2])) <| .dn (.f (n + 4) (.mul x.1 (n + 3))) <| .dn (.f (n + 5) (.mul x.2 (n + 3))) <| .dn (.f (n + 6) (.neg (n + 5))) <| k (n + 7) (n + 4, n + 6)
/-- The tests of the code, each told at once; those of the reference, part by part. -/
def cZ (i : PN) (t u : Tree Lf) : Tree Lf := .br (.fn 4 [i.1, i.2]) t u
def cE (i j : PN) (t u : Tree Lf) : Tree Lf := .br (.fn 5 [i.1, i.2, j.1, j.2]) t u
def cI (i j : PN) (t u : Tree Lf) : Tree Lf := .br (.fn 3 [i.1, i.2, j.1, j.2]) t u
def cZs (i : PN) (t u : Tree Lf) : Tree Lf := .br (.fz i.1) (.br (.fz i.2) t u) u
def cEs (i j : PN) (t u : Tree Lf) : Tree Lf := .br (.fe i.1 j.1) (.br (.fe i.2 j.2) t u) u
def cK0 (n : Nat) (k : KT) : Tree Lf := .dn (.f n (.k 0)) <| .dn (.f (n + 1) (.k 0)) <| k (n + 2) (n, n + 1)
section
variable {e : Env} {Φ : Lf → Prop} {n : Nat} {x y i j : PN} {k : KT} {t u : Tree Lf}
theorem kara (a b c d : Fq) : (a + b) * (c + d) - a * c - b * d = a * d + b * c := by grind
theorem dsq (a b : Fq) : (a + b) * (a - b) = a * a - b * b := by grind
theorem dbl2 (a b : Fq) : a * b + a * b = a * b + b * a := by grind
theorem nmul (a z : Fq) : - (a * z) = 0 - a * z := by grind
theorem cMul_goal (h : ∀ m r, g2 e r = g2 e x * g2 e y → (k m r).goal e Φ) : (cMul n x y k).goal e Φ := fun d0 d1 d2 d3 d4 d5 d6 d7 => by
  have d0 : e.f n = e.f x.1 + e.f x.2 := d0
  have d1 : e.f (n + 1) = e.f y.1 + e.f y.2 := d1
  have d2 : e.f (n + 2) = e.f n * e.f (n + 1) := d2
  have d3 : e.f (n + 3) = e.f x.1 * e.f y.1 := d3
  have d4 : e.f (n + 4) = e.f x.2 * e.f y.2 := d4
  have d5 : e.f (n + 5) = e.f (n + 2) - e.f (n + 3) := d5
  have d6 : e.f (n + 6) = e.f (n + 5) - e.f (n + 4) := d6
  have d7 : e.f (n + 7) = e.f (n + 3) - e.f (n + 4) := d7
  refine h _ _ (Prod.ext ?_ ?_)
  · show e.f (n + 7) = e.f x.1 * e.f y.1 - e.f x.2 * e.f y.2
    rw [d7, d3, d4]
  · show e.f (n + 6) = e.f x.1 * e.f y.2 + e.f x.2 * e.f y.1
    rw [d6, d5, d2, d3, d4, d0, d1, kara]
theorem cSq_goal (h : ∀ m r, g2 e r = g2 e x * g2 e x → (k m r).goal e Φ) : (cSq n x k).goal e Φ := fun d0 d1 d2 d3 d4 => by
  have d0 : e.f n = e.f x.1 + e.f x.2 := d0
  have d1 : e.f (n + 1) = e.f x.1 - e.f x.2 := d1
  have d2 : e.f (n + 2) = e.f n * e.f (n + 1) := d2
  have d3 : e.f (n + 3) = e.f x.1 * e.f x.2 := d3
  have d4 : e.f (n + 4) = e.f (n + 3) + e.f (n + 3) := d4
  refine h _ _ (Prod.ext ?_ ?_)
  · show e.f (n + 2) = e.f x.1 * e.f x.1 - e.f x.2 * e.f x.2
    rw [d2, d0, d1, dsq]
  · show e.f (n + 4) = e.f x.1 * e.f x.2 + e.f x.2 * e.f x.1
    rw [d4, d3, dbl2]
theorem cAdd_goal (h : ∀ m r, g2 e r = g2 e x + g2 e y → (k m r).goal e Φ) : (cAdd n x y k).goal e Φ := fun d0 d1 => h _ _ (Prod.ext d0 d1)
theorem cSub_goal (h : ∀ m r, g2 e r = g2 e x - g2 e y → (k m r).goal e Φ) : (cSub n x y k).goal e Φ := fun d0 d1 => h _ _ (Prod.ext d0 d1)
theorem cNeg_goal (h : ∀ m r, g2 e r = -g2 e x → (k m r).goal e Φ) : (cNeg n x k).goal e Φ := fun d0 d1 => h _ _ (Prod.ext d0 d1)
theorem cInv_goal (h : ∀ m r, g2 e r = F2.inv (g2 e x) → (k m r).goal e Φ) : (cInv n x k).goal e Φ := fun d0 d1 d2 d3 d4 d5 d6 => by
  have d0 : e.f n = e.f x.1 * e.f x.1 := d0
  have d1 : e.f (n + 1) = e.f x.2 * e.f x.2 := d1
  have d2 : e.f (n + 2) = e.f n + e.f (n + 1) := d2
  have d3 := dfn0 d3
  have d4 : e.f (n + 4) = e.f x.1 * e.f (n + 3) := d4
  have d5 : e.f (n + 5) = e.f x.2 * e.f (n + 3) := d5
  have d6 : e.f (n + 6) = - e.f (n + 5) := d6
  rw [d2, d0, d1] at d3
  refine h _ _ ?_
  rw [cinv_def]
  refine Prod.ext ?_ ?_
  · show e.f (n + 4) = e.f x.1 * finv (e.f x.1 * e.f x.1 + e.f x.2 * e.f x.2)
    rw [d4, d3]
  · show e.f (n + 6) = 0 - e.f x.2 * finv (e.f x.1 * e.f x.1 + e.f x.2 * e.f x.2)
    rw [d6, d5, d3, nmul]
theorem btab3 {a b c d : Nat} : (BE.fn 3 [a, b, c, d]).den e = decide (((e.f a = 0 ∧ e.f b = 0) ∧ e.f c = 0) ∧ e.f d = 0) := rfl
theorem btab4 {a b : Nat} : (BE.fn 4 [a, b]).den e = decide (e.f a = 0 ∧ e.f b = 0) := rfl
theorem btab5 {a b c d : Nat} : (BE.fn 5 [a, b, c, d]).den e = decide (e.f a = e.f c ∧ e.f b = e.f d) := rfl
theorem cZ_goal (h : g2 e i = 0 → t.goal e Φ) (h' : g2 e i ≠ 0 → u.goal e Φ) : (cZ i t u).goal e Φ := by
  refine ⟨fun g => ?_, fun g => h' fun k => ?_⟩
  · rw [btab4] at g
    have := of_decide_eq_true g
    exact h (Prod.ext this.1 this.2)
  · rw [btab4] at g
    exact of_decide_eq_false g ⟨congrArg Prod.fst k, congrArg Prod.snd k⟩
theorem cE_goal (h : g2 e i = g2 e j → t.goal e Φ) (h' : g2 e i ≠ g2 e j → u.goal e Φ) : (cE i j t u).goal e Φ := by
  refine ⟨fun g => ?_, fun g => h' fun k => ?_⟩
  · rw [btab5] at g
    have := of_decide_eq_true g
    exact h (Prod.ext this.1 this.2)
  · rw [btab5] at g
    exact of_decide_eq_false g ⟨congrArg Prod.fst k, congrArg Prod.snd k⟩
theorem cI_goal (h : g2 e i = 0 → g2 e j = 0 → t.goal e Φ) (h' : ¬ (g2 e i = 0 ∧ g2 e j = 0) → u.goal e Φ) : (cI i j t u).goal e Φ := by
  refine ⟨fun g => ?_, fun g => h' fun k => ?_⟩
  · rw [btab3] at g
    have := of_decide_eq_true g
    exact h (Prod.ext this.1.1.1 this.1.1.2) (Prod.ext this.1.2 this.2)
  · rw [btab3] at g
    exact of_decide_eq_false g ⟨⟨⟨congrArg Prod.fst k.1, congrArg Prod.snd k.1⟩, congrArg Prod.fst k.2⟩, congrArg Prod.snd k.2⟩
theorem cZs_goal (h : g2 e i = 0 → t.goal e Φ) (h' : g2 e i ≠ 0 → u.goal e Φ) : (cZs i t u).goal e Φ :=
  ⟨fun g => ⟨fun g' => h (Prod.ext (fz_t g) (fz_t g')), fun g' => h' fun k => fz_f g' (congrArg Prod.snd k)⟩, fun g => h' fun k => fz_f g (congrArg Prod.fst k)⟩
theorem cEs_goal (h : g2 e i = g2 e j → t.goal e Φ) (h' : g2 e i ≠ g2 e j → u.goal e Φ) : (cEs i j t u).goal e Φ :=
  ⟨fun g => ⟨fun g' => h (Prod.ext (fe_t g) (fe_t g')), fun g' => h' fun k => fe_f g' (congrArg Prod.snd k)⟩, fun g => h' fun k => fe_f g (congrArg Prod.fst k)⟩
theorem cK0_goal (h : ∀ m r, g2 e r = 0 → (k m r).goal e Φ) : (cK0 n k).goal e Φ := fun d0 d1 => h _ _ (Prod.ext d0 d1)
end
def Gives2 (tup : Bool) (p : P2) (e : Env) (l : Lf) : Prop := (∀ β, l.1.den β e = outV tup [p.1.1, p.1.2, p.2.1, p.2.2]) ∧ l.2 = []
def out4 (tup : Bool) (i j : PN) : Tree Lf := .leaf (outS tup [i.1, i.2, j.1, j.2], [])
theorem out4_goal {tup : Bool} {i j : PN} {e : Env} {p : P2} (h1 : g2 e i = p.1) (h2 : g2 e j = p.2) : (out4 tup i j).goal e (Gives2 tup p e) := by
  refine ⟨fun β => ?_, rfl⟩
  rw [outS_den, ← h1, ← h2]
  rfl
def zer2T (tup : Bool) (n : Nat) : Tree Lf := cK0 n fun n x => cK0 n fun _ y => out4 tup x y
theorem zer2T_goal {tup : Bool} {n : Nat} {e : Env} {p : P2} (h : p = (0, 0)) : (zer2T tup n).goal e (Gives2 tup p e) :=
  cK0_goal fun _ _ h1 => cK0_goal fun _ _ h2 => by
    subst h
    exact out4_goal h1 h2
/-- By one inverse. -/
def ain2T (tup : Bool) (n : Nat) (X Y Z : PN) : Tree Lf := cInv n Z fun n a => cSq n a fun n b => cMul n X b fun n x => cMul n Y b fun n y1 => cMul n y1 a fun _ y => out4 tup x y
theorem ain2T_goal {tup : Bool} {n : Nat} {X Y Z : PN} {e : Env} {p : P2} (hz : g2 e Z ≠ 0) (h : ∀ a, g2 e Z * a = 1 → g2 e X * (a * a) = p.1 ∧ g2 e Y * (a * a) * a = p.2) : (ain2T tup n X Y Z).goal e (Gives2 tup p e) :=
  cInv_goal fun _ a ha => cSq_goal fun _ b hb => cMul_goal fun _ x hx => cMul_goal fun _ y1 hy1 => cMul_goal fun _ y hy => by
    obtain ⟨h1, h2⟩ := h (g2 e a) (by rw [ha]; exact cmul_inv hz)
    exact out4_goal (by rw [hx, hb, h1]) (by rw [hy, hy1, hb, h2])
def aff2T (tup : Bool) (n : Nat) (X Y Z : PN) : Tree Lf := cZ Z (zer2T tup n) (ain2T tup n X Y Z)
theorem aff2T_goal {tup : Bool} {n : Nat} {X Y Z : PN} {e : Env} {p : P2} (hz : g2 e Z = 0 → p = (0, 0)) (h : ∀ a, g2 e Z * a = 1 → g2 e X * (a * a) = p.1 ∧ g2 e Y * (a * a) * a = p.2) : (aff2T tup n X Y Z).goal e (Gives2 tup p e) :=
  cZ_goal (fun g => zer2T_goal (hz g)) fun g => ain2T_goal g h
/-! ### Three coordinates -/
/-- (X, Y, Z) are coordinates of the point. -/
def RepK (X Y Z : F2) (p : P2) : Prop := (Z = 0 ∧ p = (0, 0)) ∨ (Z ≠ 0 ∧ p ≠ (0, 0) ∧ X = p.1 * (Z * Z) ∧ Y = p.2 * (Z * Z * Z))
theorem repK_out {p : P2} {X Y Z a : F2} (hX : X = p.1 * (Z * Z)) (hY : Y = p.2 * (Z * Z * Z)) (h : Z * a = 1) : X * (a * a) = p.1 ∧ Y * (a * a) * a = p.2 :=
  ⟨by rw [hX, cpow2 h], by rw [hY, cpow3 h]⟩
theorem cz_ne {a b : F2} (hb : b = 0) (h : b * a = 1) : False := by
  rw [hb, czmul] at h
  exact one_ne_c h.symm
theorem cdblS (X W : F2) : (X + W) * (X + W) - X * X - W * W + ((X + W) * (X + W) - X * X - W * W) = 4 * X * W := by (refine Prod.ext ?_ ?_ <;> simp only [fm1, fm2, fa1, fa2, fs1, fs2, fk41, fk42, qzm, qs0, qa0] <;> grind)
theorem cdblT (A S : F2) : A - (S + S) = A - S - S := by (refine Prod.ext ?_ ?_ <;> simp only [fa1, fa2, fs1, fs2] <;> grind)
theorem cdblE (W : F2) : W + W + (W + W) + (W + W + (W + W)) = 8 * W := by (refine Prod.ext ?_ ?_ <;> simp only [fm1, fm2, fa1, fa2, fk81, fk82, qzm, qs0, qa0] <;> grind)
theorem cadd0 : (0 : F2) + 0 = 0 := by decide
theorem czz1 (z : F2) : 0 * (z * z * z) * z + 0 * (z * z * z) * z = 0 := by rw [czmul, czmul, cadd0]
theorem czz0 (y : F2) : y * 0 + y * 0 = 0 := by rw [cmulz, cadd0]
def jdbl2T (tup : Bool) (n : Nat) (X Y Z : PN) : Tree Lf :=
  cSq n X fun n A => cSq n Y fun n B => cSq n B fun n C => cAdd n X B fun n D0 => cSq n D0 fun n D1 => cSub n D1 A fun n D2 => cSub n D2 C fun n D3 => cAdd n D3 D3 fun n D => cAdd n A A fun n E0 => cAdd n E0 A fun n E => cSq n E fun n F => cAdd n D D fun n t =>
  cMul n Y Z fun n Z0 => cAdd n Z0 Z0 fun n Z3 => cSub n F t fun n X3 => cSub n D X3 fun n Y0 => cMul n Y0 E fun n Y1 => cAdd n C C fun n t1 => cAdd n t1 t1 fun n t2 => cAdd n t2 t2 fun n t3 => cSub n Y1 t3 fun n Y3 => aff2T tup n X3 Y3 Z3
theorem jdbl2T_goal {tup : Bool} {n : Nat} {X Y Z : PN} {e : Env} {p : P2} (hr : RepK (g2 e X) (g2 e Y) (g2 e Z) p) : (jdbl2T tup n X Y Z).goal e (Gives2 tup (add2 p p) e) :=
  cSq_goal fun _ A hA => cSq_goal fun _ B hB => cSq_goal fun _ C hC => cAdd_goal fun _ D0 hD0 => cSq_goal fun _ D1 hD1 => cSub_goal fun _ D2 hD2 => cSub_goal fun _ D3 hD3 => cAdd_goal fun _ D hD => cAdd_goal fun _ E0 hE0 => cAdd_goal fun _ E hE => cSq_goal fun _ F hF => cAdd_goal fun _ t ht =>
  cMul_goal fun _ Z0 hZ0 => cAdd_goal fun _ Z3 hZ3 => cSub_goal fun _ X3 hX3 => cSub_goal fun _ Y0 hY0 => cMul_goal fun _ Y1 hY1 => cAdd_goal fun _ t1 ht1 => cAdd_goal fun _ t2 ht2 => cAdd_goal fun _ t3 ht3 => cSub_goal fun _ Y3 hY3 => by
    rcases hr with ⟨hZ, hp⟩ | ⟨hZ, hp, hX, hY⟩
    · have h13 : g2 e Z3 = 0 := by rw [hZ3, hZ0, hZ]; exact czz0 _
      exact aff2T_goal (fun _ => by rw [hp]; exact add2_zero _) fun a ha => (cz_ne h13 ha).elim
    · generalize hz0 : g2 e Z = z at *
      have h13 : g2 e Z3 = p.2 * (z * z * z) * z + p.2 * (z * z * z) * z := by rw [hZ3, hZ0, hY]
      by_cases hy : p.2 = 0
      · have h0 : g2 e Z3 = 0 := by rw [h13, hy]; exact czz1 _
        exact aff2T_goal (fun _ => add2_none hp hp rfl fun g => g.2 hy) fun a ha => (cz_ne h0 ha).elim
      · have hne : g2 e Z3 ≠ 0 := by
          rw [h13]
          exact ctwo_ne (cmul_ne (cmul_ne hy (cmul_ne (cmul_ne hZ hZ) hZ)) hZ)
        refine aff2T_goal (fun g => absurd g hne) fun a ha => ?_
        rw [h13] at ha
        have hM : g2 e E = p.1 * (z * z) * (p.1 * (z * z)) + p.1 * (z * z) * (p.1 * (z * z)) + p.1 * (z * z) * (p.1 * (z * z)) := by rw [hE, hE0, hA, hX]
        have hS : g2 e D = 4 * (p.1 * (z * z)) * (p.2 * (z * z * z) * (p.2 * (z * z * z))) := by rw [hD, hD3, hD2, hD1, hD0, hC, hB, hA, hX, hY, cdblS]
        have hT : g2 e X3 = g2 e E * g2 e E - g2 e D - g2 e D := by rw [hX3, hF, ht, cdblT]
        have hE8 : g2 e t3 = 8 * (p.2 * (z * z * z) * (p.2 * (z * z * z)) * (p.2 * (z * z * z) * (p.2 * (z * z * z)))) := by rw [ht3, ht2, ht1, hC, hB, hY, cdblE]
        have hinv : F2.inv (p.2 + p.2) = z * z * (z * z) * a := cinv_of (cinv4 ha)
        have hx3 := cdbl_x ha hM hS hT (3 * (p.1 * p.1) * ((z * z * (z * z)) * a)) rfl
        have hy3 := cdbl_y (T := g2 e X3) ha hM hS hE8 (3 * (p.1 * p.1) * ((z * z * (z * z)) * a)) rfl
        rw [add2_dbl hp hp rfl rfl hy rfl rfl]
        simp only
        rw [hinv]
        refine ⟨hx3, ?_⟩
        rw [hY3, hY1, hY0, hy3, hx3]
theorem cz3_eq (z1 z2 H : F2) : ((z1 + z2) * (z1 + z2) - z2 * z2 - z1 * z1) * H = H * (z1 * z2) + H * (z1 * z2) := by (refine Prod.ext ?_ ?_ <;> simp only [fm1, fm2, fa1, fa2, fs1, fs2] <;> grind)
theorem chz_eq (x1 x2 Z : F2) (h : x1 = x2) : (x1 * (Z * Z) - x2 * (Z * Z)) * Z + (x1 * (Z * Z) - x2 * (Z * Z)) * Z = 0 := by subst h; (refine Prod.ext ?_ ?_ <;> simp only [fm1, fm2, fa1, fa2, fs1, fs2, fz1, fz2] <;> grind)
theorem csub_mul (x1 x2 Z : F2) : (x1 - x2) * Z = x1 * Z - x2 * Z := by (refine Prod.ext ?_ ?_ <;> simp only [fm1, fm2, fs1, fs2] <;> grind)
theorem ch_ne {x1 x2 Z : F2} (h : x1 ≠ x2) (hZ : Z ≠ 0) : (x1 * (Z * Z) - x2 * (Z * Z)) * Z + (x1 * (Z * Z) - x2 * (Z * Z)) * Z ≠ 0 := by
  refine ctwo_ne (cmul_ne ?_ hZ)
  rw [← csub_mul]
  exact cmul_ne (csub_ne h) (cmul_ne hZ hZ)
def jch2T (tup : Bool) (n : Nat) (U1 U2 S1 S2 Z1 Z2 ZZ1 ZZ2 : PN) : Tree Lf :=
  cSub n U2 U1 fun n H => cAdd n H H fun n I0 => cSq n I0 fun n I => cMul n H I fun n J => cSub n S2 S1 fun n r0 => cAdd n r0 r0 fun n r => cMul n U1 I fun n V => cSq n r fun n X0 => cSub n X0 J fun n X1 => cSub n X1 V fun n X2 => cSub n X2 V fun n X3 => cSub n V X3 fun n Y0 => cMul n Y0 r fun n Y1 =>
  cMul n S1 J fun n s0 => cAdd n s0 s0 fun n s => cSub n Y1 s fun n Y3 => cAdd n Z1 Z2 fun n W0 => cSq n W0 fun n W1 => cSub n W1 ZZ2 fun n W2 => cSub n W2 ZZ1 fun n W3 => cMul n W3 H fun n Z3 => aff2T tup n X3 Y3 Z3
theorem jch2T_goal {tup : Bool} {n : Nat} {U1 U2 S1 S2 Z1 Z2 ZZ1 ZZ2 : PN} {e : Env} {p r : P2} {Z : F2} (hZ : Z = g2 e Z1 * g2 e Z2) (hZ0 : Z ≠ 0) (h1 : g2 e U1 = r.1 * (Z * Z)) (h2 : g2 e U2 = p.1 * (Z * Z)) (h3 : g2 e S1 = r.2 * (Z * Z * Z)) (h4 : g2 e S2 = p.2 * (Z * Z * Z))
    (h5 : g2 e ZZ1 = g2 e Z1 * g2 e Z1) (h6 : g2 e ZZ2 = g2 e Z2 * g2 e Z2) (hp : p ≠ (0, 0)) (hr : r ≠ (0, 0)) (hne : ¬ (p.1 = r.1 ∧ p.2 = r.2)) : (jch2T tup n U1 U2 S1 S2 Z1 Z2 ZZ1 ZZ2).goal e (Gives2 tup (add2 p r) e) :=
  cSub_goal fun _ H hH => cAdd_goal fun _ I0 hI0 => cSq_goal fun _ I hI => cMul_goal fun _ J hJ => cSub_goal fun _ r0 hr0 => cAdd_goal fun _ rr hrr => cMul_goal fun _ V hV => cSq_goal fun _ X0 hX0 => cSub_goal fun _ X1 hX1 => cSub_goal fun _ X2 hX2 => cSub_goal fun _ X3 hX3 => cSub_goal fun _ Y0 hY0 => cMul_goal fun _ Y1 hY1 =>
  cMul_goal fun _ s0 hs0 => cAdd_goal fun _ s hs' => cSub_goal fun _ Y3 hY3 => cAdd_goal fun _ W0 hW0 => cSq_goal fun _ W1 hW1 => cSub_goal fun _ W2 hW2 => cSub_goal fun _ W3 hW3 => cMul_goal fun _ Z3 hZ3 => by
    rw [h1, h2] at hH
    rw [h3, h4] at hr0
    have hz3 : g2 e Z3 = (p.1 * (Z * Z) - r.1 * (Z * Z)) * Z + (p.1 * (Z * Z) - r.1 * (Z * Z)) * Z := by rw [hZ3, hW3, hW2, hW1, hW0, h5, h6, cz3_eq, hH, ← hZ]
    by_cases hx : p.1 = r.1
    · have h0 : g2 e Z3 = 0 := by rw [hz3]; exact chz_eq _ _ _ hx
      exact aff2T_goal (fun _ => add2_none hp hr hx fun g => hne ⟨hx, g.1⟩) fun a ha => (cz_ne h0 ha).elim
    · refine aff2T_goal (fun g => absurd g (by rw [hz3]; exact ch_ne hx hZ0)) fun a ha => ?_
      rw [hz3] at ha
      have hI' : g2 e I = (p.1 * (Z * Z) - r.1 * (Z * Z) + (p.1 * (Z * Z) - r.1 * (Z * Z))) * (p.1 * (Z * Z) - r.1 * (Z * Z) + (p.1 * (Z * Z) - r.1 * (Z * Z))) := by rw [hI, hI0, hH]
      have hX : g2 e X3 = g2 e rr * g2 e rr - (p.1 * (Z * Z) - r.1 * (Z * Z)) * g2 e I - r.1 * (Z * Z) * g2 e I - r.1 * (Z * Z) * g2 e I := by rw [hX3, hX2, hX1, hX0, hV, hJ, hH, h1]
      have hs := cslope (y1 := p.2) (y2 := r.2) ha
      have hr5 : g2 e rr = p.2 * (Z * Z * Z) - r.2 * (Z * Z * Z) + (p.2 * (Z * Z * Z) - r.2 * (Z * Z * Z)) := by rw [hrr, hr0]
      rw [← hr5] at hs
      have hx3 := cchord_x ha hI' hX
      have hy3 := cchord_y (y2 := r.2) (r := g2 e rr) (X3 := g2 e X3) ha hI'
      have he := cend (x1 := p.1) (y1 := p.2) (x2 := r.1) (y2 := r.2) (X := g2 e X3 * (a * a)) hx hs.symm
      rw [add2_chord hp hr hx hs.symm rfl]
      simp only
      refine ⟨hx3, ?_⟩
      rw [hY3, hY1, hY0, hV, hs', hs0, hJ, hH, h1, h3, hy3, he, hx3]
def jadd2T (tup : Bool) (n : Nat) (X1 Y1 Z1 X2 Y2 Z2 : PN) : Tree Lf :=
  cSq n Z2 fun n a => cSq n Z1 fun n b => cMul n X2 b fun n U1 => cMul n X1 a fun n U2 => cMul n Y2 Z1 fun n s1 => cMul n s1 b fun n S1 => cMul n Y1 Z2 fun n s2 => cMul n s2 a fun n S2 =>
  cE U1 U2 (cE S1 S2 (jdbl2T tup n X1 Y1 Z1) (jch2T tup n U1 U2 S1 S2 Z1 Z2 b a)) (jch2T tup n U1 U2 S1 S2 Z1 Z2 b a)
def jsum2T (tup : Bool) (n : Nat) (X1 Y1 Z1 X2 Y2 Z2 : PN) : Tree Lf :=
  cZ Z1 (cZ Z2 (zer2T tup n) (ain2T tup n X2 Y2 Z2)) (cZ Z2 (ain2T tup n X1 Y1 Z1) (jadd2T tup n X1 Y1 Z1 X2 Y2 Z2))
theorem cu_eq (x z w : F2) : x * (z * z) * (w * w) = x * (w * z * (w * z)) := by (refine Prod.ext ?_ ?_ <;> simp only [fm1, fm2] <;> grind)
theorem cu_eq' (x z w : F2) : x * (w * w) * (z * z) = x * (w * z * (w * z)) := by (refine Prod.ext ?_ ?_ <;> simp only [fm1, fm2] <;> grind)
theorem cs_eq (y z w : F2) : y * (z * z * z) * w * (w * w) = y * (w * z * (w * z) * (w * z)) := by (refine Prod.ext ?_ ?_ <;> simp only [fm1, fm2] <;> grind)
theorem cs_eq' (y z w : F2) : y * (w * w * w) * z * (z * z) = y * (w * z * (w * z) * (w * z)) := by (refine Prod.ext ?_ ?_ <;> simp only [fm1, fm2] <;> grind)
theorem repK_nz {X Y Z : F2} {p : P2} (h : RepK X Y Z p) (g : Z ≠ 0) : p ≠ (0, 0) ∧ X = p.1 * (Z * Z) ∧ Y = p.2 * (Z * Z * Z) := by
  rcases h with h | h
  · exact absurd h.1 g
  · exact h.2
theorem repK_z {X Y Z : F2} {p : P2} (h : RepK X Y Z p) (g : Z = 0) : p = (0, 0) := by
  rcases h with h | h
  · exact h.2
  · exact absurd g h.1
theorem jsum2T_goal {tup : Bool} {n : Nat} {X1 Y1 Z1 X2 Y2 Z2 : PN} {e : Env} {p r : P2} (h1 : RepK (g2 e X1) (g2 e Y1) (g2 e Z1) p) (h2 : RepK (g2 e X2) (g2 e Y2) (g2 e Z2) r) : (jsum2T tup n X1 Y1 Z1 X2 Y2 Z2).goal e (Gives2 tup (add2 p r) e) := by
  refine cZ_goal (fun w1 => cZ_goal (fun w2 => ?_) fun w2 => ?_) fun w1 => cZ_goal (fun w2 => ?_) fun w2 => ?_
  · rw [repK_z h1 w1, repK_z h2 w2, add2_zero]
    exact zer2T_goal rfl
  · rw [repK_z h1 w1, add2_zero]
    obtain ⟨q2, q3, q4⟩ := repK_nz h2 w2
    exact ain2T_goal w2 fun a ha => repK_out q3 q4 ha
  · obtain ⟨q2, q3, q4⟩ := repK_nz h1 w1
    rw [repK_z h2 w2, add2_zero' q2]
    exact ain2T_goal w1 fun a ha => repK_out q3 q4 ha
  · obtain ⟨a2, a3, a4⟩ := repK_nz h1 w1
    obtain ⟨b2, b3, b4⟩ := repK_nz h2 w2
    refine cSq_goal fun _ a ha => cSq_goal fun _ b hb => cMul_goal fun _ U1 hU1 => cMul_goal fun _ U2 hU2 => cMul_goal fun _ s1 hs1 => cMul_goal fun _ S1 hS1 => cMul_goal fun _ s2 hs2 => cMul_goal fun _ S2 hS2 => ?_
    have hZ0 : g2 e Z1 * g2 e Z2 ≠ 0 := cmul_ne w1 w2
    have k1 : g2 e U1 = r.1 * (g2 e Z1 * g2 e Z2 * (g2 e Z1 * g2 e Z2)) := by rw [hU1, hb, b3, cu_eq]
    have k2 : g2 e U2 = p.1 * (g2 e Z1 * g2 e Z2 * (g2 e Z1 * g2 e Z2)) := by rw [hU2, ha, a3, cu_eq']
    have k3 : g2 e S1 = r.2 * (g2 e Z1 * g2 e Z2 * (g2 e Z1 * g2 e Z2) * (g2 e Z1 * g2 e Z2)) := by rw [hS1, hs1, hb, b4, cs_eq]
    have k4 : g2 e S2 = p.2 * (g2 e Z1 * g2 e Z2 * (g2 e Z1 * g2 e Z2) * (g2 e Z1 * g2 e Z2)) := by rw [hS2, hs2, ha, a4, cs_eq']
    have hx : g2 e U1 = g2 e U2 → p.1 = r.1 := fun h => by
      rw [k1, k2] at h
      exact (ccancel (cmul_ne hZ0 hZ0) h).symm
    have hy : g2 e S1 = g2 e S2 → p.2 = r.2 := fun h => by
      rw [k3, k4] at h
      exact (ccancel (cmul_ne (cmul_ne hZ0 hZ0) hZ0) h).symm
    have ch : ∀ m, ¬ (p.1 = r.1 ∧ p.2 = r.2) → (jch2T tup m U1 U2 S1 S2 Z1 Z2 b a).goal e (Gives2 tup (add2 p r) e) := fun m hne => jch2T_goal rfl hZ0 k1 k2 k3 k4 hb ha a2 b2 hne
    refine cE_goal (fun g => cE_goal (fun g' => ?_) fun g' => ch _ fun h => g' ?_) fun g => ch _ fun h => g ?_
    · have : r = p := Prod.ext (hx g).symm (hy g').symm
      rw [this]
      exact jdbl2T_goal h1
    · rw [k3, k4, h.2]
    · rw [k1, k2, h.1]
end Go.Sx
namespace Go.Sx
open Go
set_option maxRecDepth 100000
/-! ### The affine sums over numbers of two parts -/
theorem cmul11 (x : F2) : x * (1 * 1) = x := by rw [cmul_one, cmul_one]
theorem cmul111 (x : F2) : x * (1 * 1 * 1) = x := by rw [cmul_one, cmul_one, cmul_one]
theorem csub_swap (s a b : F2) : s - a - b = s - b - a := by (refine Prod.ext ?_ ?_ <;> simp only [fs1, fs2] <;> grind)
theorem cmix {p r : P2} {Z a H I rr X3 Y3 : F2} (hp : p ≠ (0, 0)) (hr : r ≠ (0, 0)) (hx : p.1 ≠ r.1) (hH : H = r.1 * (Z * Z) - p.1 * (Z * Z)) (ha : (H * Z + H * Z) * a = 1) (hI : I = (H + H) * (H + H))
    (hrr : rr = r.2 * (Z * Z * Z) - p.2 * (Z * Z * Z) + (r.2 * (Z * Z * Z) - p.2 * (Z * Z * Z))) (hX : X3 = rr * rr - H * I - p.1 * (Z * Z) * I - p.1 * (Z * Z) * I)
    (hY : Y3 = (p.1 * (Z * Z) * I - X3) * rr - (p.2 * (Z * Z * Z) * (H * I) + p.2 * (Z * Z * Z) * (H * I))) : X3 * (a * a) = (add2 p r).1 ∧ Y3 * (a * a) * a = (add2 p r).2 := by
  subst hH
  have hs := cslope' (y1 := r.2) (y2 := p.2) ha
  rw [← hrr] at hs
  have hx3 := cchord_x ha hI hX
  have hy3 := cchord_y (y2 := p.2) (r := rr) (X3 := X3) ha hI
  have hx3' : X3 * (a * a) = rr * a * (rr * a) - p.1 - r.1 := by rw [hx3]; exact csub_swap _ _ _
  rw [add2_chord hp hr hx hs.symm rfl]
  refine ⟨hx3', ?_⟩
  rw [hY, hy3, hx3']
theorem cmix1 {p r : P2} {a H I rr X3 Y3 : F2} (hp : p ≠ (0, 0)) (hr : r ≠ (0, 0)) (hx : p.1 ≠ r.1) (hH : H = r.1 - p.1) (ha : (H + H) * a = 1) (hI : I = (H + H) * (H + H))
    (hrr : rr = r.2 - p.2 + (r.2 - p.2)) (hX : X3 = rr * rr - H * I - p.1 * I - p.1 * I) (hY : Y3 = (p.1 * I - X3) * rr - (p.2 * (H * I) + p.2 * (H * I))) : X3 * (a * a) = (add2 p r).1 ∧ Y3 * (a * a) * a = (add2 p r).2 := by
  refine cmix (Z := 1) hp hr hx (H := H) (I := I) (rr := rr) ?_ ?_ hI ?_ ?_ ?_
  · rw [cmul11, cmul11, hH]
  · rw [cmul_one, ha]
  · rw [cmul111, cmul111, hrr]
  · rw [cmul11, hX]
  · rw [cmul11, cmul111, hY]
theorem ci4 (H : F2) : H * H + H * H + (H * H + H * H) = (H + H) * (H + H) := by (refine Prod.ext ?_ ?_ <;> simp only [fm1, fm2, fa1, fa2] <;> grind)
theorem cz3m (Z H : F2) : (Z + H) * (Z + H) - Z * Z - H * H = H * Z + H * Z := by (refine Prod.ext ?_ ?_ <;> simp only [fm1, fm2, fa1, fa2, fs1, fs2] <;> grind)
theorem cmul_sw {A J y : F2} : A - (J * y + J * y) = A - (y * J + y * J) := by (refine Prod.ext ?_ ?_ <;> simp only [fm1, fm2, fa1, fa2, fs1, fs2] <;> grind)
def dbl2T (tup : Bool) (n : Nat) (x y : PN) : Tree Lf :=
  cSq n x fun n A => cSq n y fun n B => cSq n B fun n C => cAdd n x B fun n D0 => cSq n D0 fun n D1 => cSub n D1 A fun n D2 => cSub n D2 C fun n D3 => cAdd n D3 D3 fun n S => cAdd n A A fun n E0 => cAdd n E0 A fun n M => cSq n M fun n T0 => cSub n T0 S fun n T1 => cSub n T1 S fun n T =>
  cSub n S T fun n Y0 => cMul n Y0 M fun n Y1 => cAdd n C C fun n t1 => cAdd n t1 t1 fun n t2 => cAdd n t2 t2 fun n t3 => cSub n Y1 t3 fun n Y3 => cAdd n y y fun n Z3 => aff2T tup n T Y3 Z3
theorem dbl2T_goal {tup : Bool} {n : Nat} {x y : PN} {e : Env} {p : P2} (hx : g2 e x = p.1) (hy : g2 e y = p.2) : (dbl2T tup n x y).goal e (Gives2 tup (add2 p p) e) :=
  cSq_goal fun _ A hA => cSq_goal fun _ B hB => cSq_goal fun _ C hC => cAdd_goal fun _ D0 hD0 => cSq_goal fun _ D1 hD1 => cSub_goal fun _ D2 hD2 => cSub_goal fun _ D3 hD3 => cAdd_goal fun _ S hS0 => cAdd_goal fun _ E0 hE0 => cAdd_goal fun _ M hM0 => cSq_goal fun _ T0 hT0 => cSub_goal fun _ T1 hT1 => cSub_goal fun _ T hT2 =>
  cSub_goal fun _ Y0 hY0 => cMul_goal fun _ Y1 hY1 => cAdd_goal fun _ t1 ht1 => cAdd_goal fun _ t2 ht2 => cAdd_goal fun _ t3 ht3 => cSub_goal fun _ Y3 hY3 => cAdd_goal fun _ Z3 hZ3 => by
    rw [hy] at hZ3
    by_cases h0 : p = (0, 0)
    · have hz : g2 e Z3 = 0 := by rw [hZ3, h0]; exact cadd0
      exact aff2T_goal (fun _ => by rw [h0]; exact add2_zero _) fun a ha => (cz_ne hz ha).elim
    · by_cases hy0 : p.2 = 0
      · have hz : g2 e Z3 = 0 := by rw [hZ3, hy0]; exact cadd0
        exact aff2T_goal (fun _ => add2_none h0 h0 rfl fun g => g.2 hy0) fun a ha => (cz_ne hz ha).elim
      · refine aff2T_goal (fun g => absurd g (by rw [hZ3]; exact ctwo_ne hy0)) fun a ha => ?_
        rw [hZ3] at ha
        have ha' : (p.2 * (1 * 1 * 1) * 1 + p.2 * (1 * 1 * 1) * 1) * a = 1 := by rw [cmul111, cmul_one, ha]
        have hM : g2 e M = p.1 * (1 * 1) * (p.1 * (1 * 1)) + p.1 * (1 * 1) * (p.1 * (1 * 1)) + p.1 * (1 * 1) * (p.1 * (1 * 1)) := by rw [hM0, hE0, hA, hx, cmul11]
        have hS : g2 e S = 4 * (p.1 * (1 * 1)) * (p.2 * (1 * 1 * 1) * (p.2 * (1 * 1 * 1))) := by rw [hS0, hD3, hD2, hD1, hD0, hC, hB, hA, hx, hy, cdblS, cmul11, cmul111]
        have hT : g2 e T = g2 e M * g2 e M - g2 e S - g2 e S := by rw [hT2, hT1, hT0]
        have hE8 : g2 e t3 = 8 * (p.2 * (1 * 1 * 1) * (p.2 * (1 * 1 * 1)) * (p.2 * (1 * 1 * 1) * (p.2 * (1 * 1 * 1)))) := by rw [ht3, ht2, ht1, hC, hB, hy, cdblE, cmul111]
        have hx3 := cdbl_x ha' hM hS hT (3 * (p.1 * p.1) * ((1 * 1 * (1 * 1)) * a)) rfl
        have hy3 := cdbl_y (T := g2 e T) ha' hM hS hE8 (3 * (p.1 * p.1) * ((1 * 1 * (1 * 1)) * a)) rfl
        have h1 : (1 * 1 * (1 * 1) : F2) * a = a := by rw [cmul11, cmul_one, cone_mul]
        rw [h1] at hx3 hy3
        rw [add2_dbl h0 h0 rfl rfl hy0 rfl rfl]
        simp only
        rw [cinv_of ha]
        refine ⟨hx3, ?_⟩
        rw [hY3, hY1, hY0, hy3, hx3]
def chord2T (tup : Bool) (n : Nat) (x1 y1 x2 y2 : PN) : Tree Lf :=
  cSub n x2 x1 fun n H => cSq n H fun n HH => cAdd n HH HH fun n I0 => cAdd n I0 I0 fun n I => cMul n H I fun n J => cSub n y2 y1 fun n r0 => cAdd n r0 r0 fun n r => cMul n x1 I fun n V => cSq n r fun n X0 => cSub n X0 J fun n X1 => cSub n X1 V fun n X2 => cSub n X2 V fun n X3 => cSub n V X3 fun n Y0 => cMul n Y0 r fun n Y1 =>
  cMul n y1 J fun n s0 => cAdd n s0 s0 fun n s => cSub n Y1 s fun n Y3 => cAdd n H H fun n Z3 => aff2T tup n X3 Y3 Z3
theorem chord2T_goal {tup : Bool} {n : Nat} {x1 y1 x2 y2 : PN} {e : Env} {p r : P2} (h1 : g2 e x1 = p.1) (h2 : g2 e y1 = p.2) (h3 : g2 e x2 = r.1) (h4 : g2 e y2 = r.2) (hp : p ≠ (0, 0)) (hr : r ≠ (0, 0)) (hne : p.1 ≠ r.1) : (chord2T tup n x1 y1 x2 y2).goal e (Gives2 tup (add2 p r) e) :=
  cSub_goal fun _ H hH => cSq_goal fun _ HH hHH => cAdd_goal fun _ I0 hI0 => cAdd_goal fun _ I hI => cMul_goal fun _ J hJ => cSub_goal fun _ r0 hr0 => cAdd_goal fun _ rr hrr => cMul_goal fun _ V hV => cSq_goal fun _ X0 hX0 => cSub_goal fun _ X1 hX1 => cSub_goal fun _ X2 hX2 => cSub_goal fun _ X3 hX3 => cSub_goal fun _ Y0 hY0 => cMul_goal fun _ Y1 hY1 =>
  cMul_goal fun _ s0 hs0 => cAdd_goal fun _ s hs => cSub_goal fun _ Y3 hY3 => cAdd_goal fun _ Z3 hZ3 => by
    rw [h1, h3] at hH
    rw [h2, h4] at hr0
    rw [h1] at hV
    rw [h2] at hs0
    refine aff2T_goal (fun g => absurd g (by rw [hZ3, hH]; exact ctwo_ne (csub_ne fun k => hne k.symm))) fun a ha => ?_
    rw [hZ3] at ha
    exact cmix1 (I := g2 e I) (rr := g2 e rr) hp hr hne hH ha (by rw [hI, hI0, hHH, ci4]) (by rw [hrr, hr0]) (by rw [hX3, hX2, hX1, hX0, hV, hJ]) (by rw [hY3, hY1, hY0, hV, hs, hs0, hJ])
/-! ### The affine functions: the first point at 0 .. 3, the second at 4 .. 7 -/
def neg2 (p : P2) : P2 := (p.1, -p.2)
abbrev aX : PN := (0, 1)
abbrev aY : PN := (2, 3)
abbrev bX : PN := (4, 5)
abbrev bY : PN := (6, 7)
def tDouble2 : Tree Lf := cI aX aY (dbl2T true 4 aX aY) (dbl2T true 4 aX aY)
def core2T (tup : Bool) (n : Nat) (y : PN) : Tree Lf := cE aX bX (cE aY y (dbl2T tup n aX aY) (zer2T tup n)) (chord2T tup n aX aY bX y)
def tAddR2 (tup : Bool) (n : Nat) (y : PN) : Tree Lf := cI bX y (out4 tup aX aY) (core2T tup n y)
def tAddP2 (tup : Bool) (n : Nat) (y : PN) : Tree Lf := cI aX aY (out4 tup bX y) (tAddR2 tup n y)
def tSubP2 : Tree Lf := cNeg 8 bY fun n y => tAddP2 true n y
def tNegP2 : Tree Lf := cNeg 4 aY fun _ y => out4 true aX y
section
variable {e : Env} {p r : P2}
theorem double2_goal (h0 : g2 e aX = p.1) (h1 : g2 e aY = p.2) : tDouble2.goal e (Gives2 true (add2 p p) e) :=
  cI_goal (fun _ _ => dbl2T_goal h0 h1) fun _ => dbl2T_goal h0 h1
theorem cne1 {p : P2} (h : p.1 ≠ 0) : p ≠ (0, 0) := fun g => h (by rw [g])
theorem cne2 {p : P2} (h : p.2 ≠ 0) : p ≠ (0, 0) := fun g => h (by rw [g])
theorem core2_goal {tup : Bool} {n : Nat} {y : PN} (h0 : g2 e aX = p.1) (h1 : g2 e aY = p.2) (h2 : g2 e bX = r.1) (h3 : g2 e y = r.2) (hp : p ≠ (0, 0)) (hr : r ≠ (0, 0)) : (core2T tup n y).goal e (Gives2 tup (add2 p r) e) := by
  refine cE_goal (fun g => cE_goal (fun k2 => ?_) fun k2 => zer2T_goal ?_) fun g => chord2T_goal h0 h1 h2 h3 hp hr ?_
  · have e1 : p.1 = r.1 := by rw [← h0, ← h2, g]
    have e2 : p.2 = r.2 := by rw [← h1, ← h3, k2]
    have : r = p := Prod.ext e1.symm e2.symm
    rw [this]
    exact dbl2T_goal h0 h1
  · refine add2_none hp hr (by rw [← h0, ← h2, g]) fun h => k2 ?_
    rw [h1, h3]
    exact h.1
  · rw [← h0, ← h2]
    exact g
theorem addR2_goal {tup : Bool} {n : Nat} {y : PN} (h0 : g2 e aX = p.1) (h1 : g2 e aY = p.2) (h2 : g2 e bX = r.1) (h3 : g2 e y = r.2) (hp : p ≠ (0, 0)) : (tAddR2 tup n y).goal e (Gives2 tup (add2 p r) e) := by
  refine cI_goal (fun g k2 => ?_) fun hn => core2_goal h0 h1 h2 h3 hp fun g => hn ?_
  · have hr : r = (0, 0) := Prod.ext (h2.symm.trans g) (h3.symm.trans k2)
    rw [hr, add2_zero' hp]
    exact out4_goal h0 h1
  · rw [h2, h3, g]; exact ⟨rfl, rfl⟩
theorem addP2_goal {tup : Bool} {n : Nat} {y : PN} (h0 : g2 e aX = p.1) (h1 : g2 e aY = p.2) (h2 : g2 e bX = r.1) (h3 : g2 e y = r.2) : (tAddP2 tup n y).goal e (Gives2 tup (add2 p r) e) := by
  refine cI_goal (fun g k2 => ?_) fun hn => addR2_goal h0 h1 h2 h3 fun g => hn ?_
  · have hp : p = (0, 0) := Prod.ext (h0.symm.trans g) (h1.symm.trans k2)
    rw [hp, add2_zero]
    exact out4_goal h2 h3
  · rw [h0, h1, g]; exact ⟨rfl, rfl⟩
theorem subP2_goal (h0 : g2 e aX = p.1) (h1 : g2 e aY = p.2) (h2 : g2 e bX = r.1) (h3 : g2 e bY = r.2) : tSubP2.goal e (Gives2 true (add2 p (neg2 r)) e) :=
  cNeg_goal fun _ _ hy => addP2_goal h0 h1 h2 (by rw [hy, h3]; rfl)
theorem negP2_goal (h0 : g2 e aX = p.1) (h1 : g2 e aY = p.2) : tNegP2.goal e (Gives2 true (neg2 p) e) :=
  cNeg_goal fun _ _ hy => out4_goal h0 (by rw [hy, h1]; rfl)
end
/-! ### The reference's functions -/
def sMul (n : Nat) (x y : PN) (k : KT) : Tree Lf :=
  .dn (.f n (.mul x.1 y.1)) <| .dn (.f (n + 1) (.mul x.2 y.2)) <| .dn (.f (n + 2) (.sub n (n + 1))) <| .dn (.f (n + 3) (.mul x.1 y.2)) <| .dn (.f (n + 4) (.mul x.2 y.1)) <| .dn (.f (n + 5) (.add (n + 3) (n + 4))) <| k (n + 6) (n + 2, n + 5)
def sInv (n : Nat) (x : PN) (k : KT) : Tree Lf :=
  .dn (.f n (.mul x.1 x.1)) <| .dn (.f (n + 1) (.mul x.2 x.2)) <| .dn (.f (n + 2) (.add n (n + 1))) <| .dn (.f (n + 3) (.fn 0 [n + 2])) <| .dn (.f (n + 4) (.mul x.1 (n + 3))) <| .dn (.f (n + 5) (.mul x.2 (n + 3))) <| .dn (.f (n + 6) (.k 0)) <| .dn (.f (n + 7) (.sub (n + 6) (n + 5))) <| k (n + 8) (n + 4, n + 7)
def sK3 (n : Nat) (k : KT) : Tree Lf := .dn (.f n (.k 3)) <| .dn (.f (n + 1) (.k 0)) <| k (n + 2) (n, n + 1)
section
variable {e : Env} {Φ : Lf → Prop} {n : Nat} {x y : PN} {k : KT}
theorem sMul_goal (h : ∀ m r, g2 e r = g2 e x * g2 e y → (k m r).goal e Φ) : (sMul n x y k).goal e Φ := fun d0 d1 d2 d3 d4 d5 => by
  have d0 : e.f n = e.f x.1 * e.f y.1 := d0
  have d1 : e.f (n + 1) = e.f x.2 * e.f y.2 := d1
  have d2 : e.f (n + 2) = e.f n - e.f (n + 1) := d2
  have d3 : e.f (n + 3) = e.f x.1 * e.f y.2 := d3
  have d4 : e.f (n + 4) = e.f x.2 * e.f y.1 := d4
  have d5 : e.f (n + 5) = e.f (n + 3) + e.f (n + 4) := d5
  refine h _ _ (Prod.ext ?_ ?_)
  · show e.f (n + 2) = e.f x.1 * e.f y.1 - e.f x.2 * e.f y.2
    rw [d2, d0, d1]
  · show e.f (n + 5) = e.f x.1 * e.f y.2 + e.f x.2 * e.f y.1
    rw [d5, d3, d4]
theorem sInv_goal (h : ∀ m r, g2 e r = F2.inv (g2 e x) → (k m r).goal e Φ) : (sInv n x k).goal e Φ := fun d0 d1 d2 d3 d4 d5 d6 d7 => by
  obtain ⟨h1, h2⟩ := inv_goal (e := e) (i := 0) (a := g2 e x) rfl rfl d0 d1 d2 (dfn0 d3) d4 d5 d6 d7
  exact h _ _ (Prod.ext h1 h2)
theorem sK3_goal (h : ∀ m r, g2 e r = 3 → (k m r).goal e Φ) : (sK3 n k).goal e Φ := fun d0 d1 => h _ _ (Prod.ext d0 d1)
end
def z16 : Tree Lf := .leaf (.one (.agg (List.replicate 16 (.int .u64 (.c 0)))), [])
theorem z16_goal {e : Env} {p : P2} (h : p = (0, 0)) : z16.goal e (Gives2 false p e) := by
  subst h
  exact ⟨fun β => rfl, rfl⟩
def send (n : Nat) (s p1 p2 r1 : PN) : Tree Lf := sMul n s s fun n s2 => cSub n s2 p1 fun n x0 => cSub n x0 r1 fun n x => cSub n p1 x fun n y0 => sMul n s y0 fun n y1 => cSub n y1 p2 fun _ y => out4 false x y
def sd2T : Tree Lf := sMul 8 aX aX fun n xx => sK3 n fun n k3 => sMul n k3 xx fun n m => cAdd n aY aY fun n yy => sInv n yy fun n v => sMul n m v fun n s => send n s aX aY bX
def sc2T : Tree Lf := cSub 8 bY aY fun n dy => cSub n bX aX fun n dx => sInv n dx fun n v => sMul n dy v fun n s => send n s aX aY bX
def sC12 : Tree Lf := cEs aX bX (cEs aY bY sd2T z16) sc2T
def sC22 : Tree Lf := cEs aX bX (cEs aY bY (cZs aY z16 sd2T) z16) sc2T
def sR12 : Tree Lf := cZs bX (cZs bY (out4 false aX aY) sC12) sC12
def sR22 : Tree Lf := cZs bX (cZs bY (out4 false aX aY) sC22) sC22
def tAddS2 : Tree Lf := cZs aX (cZs aY (out4 false bX bY) sR12) sR22
def tNegS2 : Tree Lf := cK0 4 fun n z => cSub n z aY fun _ y => out4 false aX y
section
variable {e : Env} {p r : P2}
theorem czsub (y : F2) : 0 - y = -y := by (refine Prod.ext ?_ ?_ <;> simp only [fs1, fs2, fg1, fg2, fz1, fz2] <;> grind)
theorem negS2_goal (h0 : g2 e aX = p.1) (h1 : g2 e aY = p.2) : tNegS2.goal e (Gives2 false (neg2 p) e) :=
  cK0_goal fun _ _ hz => cSub_goal fun _ _ hy => out4_goal h0 (by rw [hy, hz, h1]; exact czsub _)
theorem send_goal {n : Nat} {s : PN} {P : P2} {S : F2} (h0 : g2 e aX = p.1) (h1 : g2 e aY = p.2) (h2 : g2 e bX = r.1) (hs : g2 e s = S) (hP : P = (S * S - p.1 - r.1, S * (p.1 - (S * S - p.1 - r.1)) - p.2)) : (send n s aX aY bX).goal e (Gives2 false P e) :=
  sMul_goal fun _ _ e1 => cSub_goal fun _ _ e2 => cSub_goal fun _ _ e3 => cSub_goal fun _ _ e4 => sMul_goal fun _ _ e5 => cSub_goal fun _ _ e6 => by
    subst hP
    refine out4_goal ?_ ?_
    · rw [e3, e2, e1, hs, h0, h2]
    · rw [e6, e5, e4, e3, e2, e1, hs, h0, h1, h2]
theorem sd2_goal (h0 : g2 e aX = p.1) (h1 : g2 e aY = p.2) (h2 : g2 e bX = r.1) (hp : p ≠ (0, 0)) (hr : r ≠ (0, 0)) (e1 : p.1 = r.1) (e2 : p.2 = r.2) (hy : p.2 ≠ 0) : sd2T.goal e (Gives2 false (add2 p r) e) :=
  sMul_goal fun _ _ d1 => sK3_goal fun _ _ d2 => sMul_goal fun _ _ d3 => cAdd_goal fun _ _ d4 => sInv_goal fun _ _ d5 => sMul_goal fun _ _ d6 =>
    send_goal h0 h1 h2 (S := 3 * (p.1 * p.1) * F2.inv (p.2 + p.2)) (by rw [d6, d3, d2, d1, d5, d4, h0, h1]) (by rw [← e1]; exact add2_dbl hp hr e1 e2 hy rfl rfl)
theorem sc2_goal (h0 : g2 e aX = p.1) (h1 : g2 e aY = p.2) (h2 : g2 e bX = r.1) (h3 : g2 e bY = r.2) (hp : p ≠ (0, 0)) (hr : r ≠ (0, 0)) (hne : p.1 ≠ r.1) : sc2T.goal e (Gives2 false (add2 p r) e) :=
  cSub_goal fun _ _ d1 => cSub_goal fun _ _ d2 => sInv_goal fun _ _ d3 => sMul_goal fun _ _ d4 =>
    send_goal h0 h1 h2 (S := (r.2 - p.2) * F2.inv (r.1 - p.1)) (by rw [d4, d1, d3, d2, h0, h1, h2, h3]) (add2_chord hp hr hne rfl rfl)
theorem sC2_goal (b : Bool) (h0 : g2 e aX = p.1) (h1 : g2 e aY = p.2) (h2 : g2 e bX = r.1) (h3 : g2 e bY = r.2) (hp : p ≠ (0, 0)) (hr : r ≠ (0, 0)) (hb : b = true → p.2 ≠ 0) : (bif b then sC12 else sC22).goal e (Gives2 false (add2 p r) e) := by
  have c : g2 e aX ≠ g2 e bX → sc2T.goal e (Gives2 false (add2 p r) e) := fun g => sc2_goal h0 h1 h2 h3 hp hr (by rw [← h0, ← h2]; exact g)
  have z : g2 e aX = g2 e bX → g2 e aY ≠ g2 e bY → z16.goal e (Gives2 false (add2 p r) e) := fun g k2 => z16_goal (add2_none hp hr (by rw [← h0, ← h2, g]) fun h => k2 (by rw [h1, h3]; exact h.1))
  have s : g2 e aX = g2 e bX → g2 e aY = g2 e bY → p.2 ≠ 0 → sd2T.goal e (Gives2 false (add2 p r) e) := fun g k2 hy => sd2_goal h0 h1 h2 hp hr (by rw [← h0, ← h2, g]) (by rw [← h1, ← h3, k2]) hy
  cases b with
  | true => exact cEs_goal (fun g => cEs_goal (fun k2 => s g k2 (hb rfl)) fun k2 => z g k2) c
  | false =>
    refine cEs_goal (fun g => cEs_goal (fun k2 => cZs_goal (fun g3 => z16_goal (add2_none hp hr (by rw [← h0, ← h2, g]) fun h => h.2 ?_)) fun g3 => s g k2 ?_) fun k2 => z g k2) c
    · rw [← h1]; exact g3
    · rw [← h1]; exact g3
theorem sR2_goal (b : Bool) (h0 : g2 e aX = p.1) (h1 : g2 e aY = p.2) (h2 : g2 e bX = r.1) (h3 : g2 e bY = r.2) (hp : p ≠ (0, 0)) (hb : b = true → p.2 ≠ 0) : (bif b then sR12 else sR22).goal e (Gives2 false (add2 p r) e) := by
  have z : g2 e bX = 0 → g2 e bY = 0 → (out4 false aX aY).goal e (Gives2 false (add2 p r) e) := fun g k2 => by
    have hr : r = (0, 0) := Prod.ext (h2.symm.trans g) (h3.symm.trans k2)
    rw [hr, add2_zero' hp]
    exact out4_goal h0 h1
  have c : r ≠ (0, 0) → (bif b then sC12 else sC22).goal e (Gives2 false (add2 p r) e) := fun hr => sC2_goal b h0 h1 h2 h3 hp hr hb
  have n3 : g2 e bY ≠ 0 → r ≠ (0, 0) := fun g => cne2 (by rw [← h3]; exact g)
  have n2 : g2 e bX ≠ 0 → r ≠ (0, 0) := fun g => cne1 (by rw [← h2]; exact g)
  cases b with
  | true => exact cZs_goal (fun g => cZs_goal (z g) fun k2 => c (n3 k2)) fun g => c (n2 g)
  | false => exact cZs_goal (fun g => cZs_goal (z g) fun k2 => c (n3 k2)) fun g => c (n2 g)
theorem addS2_goal (h0 : g2 e aX = p.1) (h1 : g2 e aY = p.2) (h2 : g2 e bX = r.1) (h3 : g2 e bY = r.2) : tAddS2.goal e (Gives2 false (add2 p r) e) := by
  refine cZs_goal (fun g => cZs_goal (fun k2 => ?_) fun k2 => ?_) fun g => ?_
  · have hp : p = (0, 0) := Prod.ext (h0.symm.trans g) (h1.symm.trans k2)
    rw [hp, add2_zero]
    exact out4_goal h2 h3
  · have hy : p.2 ≠ 0 := by rw [← h1]; exact k2
    exact sR2_goal true h0 h1 h2 h3 (cne2 hy) fun _ => hy
  · exact sR2_goal false h0 h1 h2 h3 (cne1 (by rw [← h0]; exact g)) fun h => by cases h
end
/-! ### Contracts and tables -/
def elP2 (p : P2) : Value := elsV [p.1.1, p.1.2, p.2.1, p.2.2]
def outP2 (tup : Bool) (p : P2) : Value := outV tup [p.1.1, p.1.2, p.2.1, p.2.2]
def PP2C (P : Program) (f : FuncId) (tup : Bool) (op : P2 → P2 → P2) : Prop := ∀ (a b : P2) (w : World), QuietRun P (callFunc f #[elP2 a, elP2 b]) (outP2 tup (op a b)) w
def P1C2 (P : Program) (f : FuncId) (tup : Bool) (op : P2 → P2) : Prop := ∀ (a : P2) (w : World), QuietRun P (callFunc f #[elP2 a]) (outP2 tup (op a)) w
section
variable {P : Program} {qf pf : QSum}
abbrev pArg (i : Nat) : SV := .one (.agg (eps i ++ eps (i + 1) ++ eps (i + 2) ++ eps (i + 3)))
theorem pp2_of (hm : P.follows .mixedOrders = true) (hnum : NumOk P) (hq : QOk P qf) (hp : POk P pf) {f : FuncId} {tup : Bool} {t : Tree Lf} {op : P2 → P2 → P2} (h : sxCall P qf pf 5000 f [pArg 0, pArg 4] (hp0 [] 0 8) leafE = some t)
    (hbd : t.bd 0 0 8 = true) (law : ∀ (e : Env) (p r : P2), g2 e aX = p.1 → g2 e aY = p.2 → g2 e bX = r.1 → g2 e bY = r.2 → t.goal e (Gives2 tup (op p r) e)) : PP2C P f tup op := fun a b w => by
  have key := quiet_els (fs := fsOf [a.1.1, a.1.2, a.2.1, a.2.2, b.1.1, b.1.2, b.2.1, b.2.2]) (u := outP2 tup (op a b)) hm hnum hq hp h hbd rfl rfl
    (fun e he => law e a b (Prod.ext (he 0 (by omega)) (he 1 (by omega))) (Prod.ext (he 2 (by omega)) (he 3 (by omega))) (Prod.ext (he 4 (by omega)) (he 5 (by omega))) (Prod.ext (he 6 (by omega)) (he 7 (by omega)))) (vs := [elP2 a, elP2 b]) rfl w
  exact key
theorem p2_of (hm : P.follows .mixedOrders = true) (hnum : NumOk P) (hq : QOk P qf) (hp : POk P pf) {f : FuncId} {tup : Bool} {t : Tree Lf} {op : P2 → P2} (h : sxCall P qf pf 5000 f [pArg 0] (hp0 [] 0 4) leafE = some t)
    (hbd : t.bd 0 0 4 = true) (law : ∀ (e : Env) (p : P2), g2 e aX = p.1 → g2 e aY = p.2 → t.goal e (Gives2 tup (op p) e)) : P1C2 P f tup op := fun a w => by
  have key := quiet_els (fs := fsOf [a.1.1, a.1.2, a.2.1, a.2.2]) (u := outP2 tup (op a)) hm hnum hq hp h hbd rfl rfl
    (fun e he => law e a (Prod.ext (he 0 (by omega)) (he 1 (by omega))) (Prod.ext (he 2 (by omega)) (he 3 (by omega)))) (vs := [elP2 a]) rfl w
  exact key
end
def mkAdd2 : Nat → List (List Nat) → Option (List FD × List Nat) := fun n is => match is with
  | [[a, b, c, d], [a', b', c', d']] => some ([.fn 3 [a, b, c, d, a', b', c', d'], .fn 4 [a, b, c, d, a', b', c', d'], .fn 5 [a, b, c, d, a', b', c', d'], .fn 6 [a, b, c, d, a', b', c', d']], [n, n + 1, n + 2, n + 3])
  | _ => none
def mkSub2 : Nat → List (List Nat) → Option (List FD × List Nat) := fun n is => match is with
  | [[a, b, c, d], [a', b', c', d']] => some ([.neg c', .neg d', .fn 3 [a, b, c, d, a', b', n, n + 1], .fn 4 [a, b, c, d, a', b', n, n + 1], .fn 5 [a, b, c, d, a', b', n, n + 1], .fn 6 [a, b, c, d, a', b', n, n + 1]], [n + 2, n + 3, n + 4, n + 5])
  | _ => none
def mkDbl2 : Nat → List (List Nat) → Option (List FD × List Nat) := fun n is => match is with
  | [[a, b, c, d]] => some ([.fn 3 [a, b, c, d, a, b, c, d], .fn 4 [a, b, c, d, a, b, c, d], .fn 5 [a, b, c, d, a, b, c, d], .fn 6 [a, b, c, d, a, b, c, d]], [n, n + 1, n + 2, n + 3])
  | _ => none
def mkNeg2 : Nat → List (List Nat) → Option (List FD × List Nat) := fun n is => match is with
  | [[a, b, c, d]] => some ([.neg c, .neg d], [a, b, n, n + 1])
  | _ => none
section
variable {e : Env} {a b c d a' b' c' d' : Nat}
def at2 (e : Env) (a b c d : Nat) : P2 := ((e.f a, e.f b), (e.f c, e.f d))
theorem fn3 : (FD.fn 3 [a, b, c, d, a', b', c', d']).ev e = (add2 (at2 e a b c d) (at2 e a' b' c' d')).1.1 := rfl
theorem fn4 : (FD.fn 4 [a, b, c, d, a', b', c', d']).ev e = (add2 (at2 e a b c d) (at2 e a' b' c' d')).1.2 := rfl
theorem fn5 : (FD.fn 5 [a, b, c, d, a', b', c', d']).ev e = (add2 (at2 e a b c d) (at2 e a' b' c' d')).2.1 := rfl
theorem fn6 : (FD.fn 6 [a, b, c, d, a', b', c', d']).ev e = (add2 (at2 e a b c d) (at2 e a' b' c' d')).2.2 := rfl
end
section
variable {P : Program} {fn : FuncId} {tup : Bool}
theorem add2_q (hc : PP2C P fn tup add2) : QOk P (elG tup fn mkAdd2) := elG_q fun n is fd outs h e w hd => by
  unfold mkAdd2 at h
  split at h
  · rename_i a b c d a' b' c' d'
    cases h
    have d0 := hd 0 (.fn 3 [a, b, c, d, a', b', c', d']) rfl
    have d1 := hd 1 (.fn 4 [a, b, c, d, a', b', c', d']) rfl
    have d2 := hd 2 (.fn 5 [a, b, c, d, a', b', c', d']) rfl
    have d3 := hd 3 (.fn 6 [a, b, c, d, a', b', c', d']) rfl
    rw [fn3] at d0
    rw [fn4] at d1
    rw [fn5] at d2
    rw [fn6] at d3
    rw [Nat.add_zero] at d0
    simp only [List.map_cons, List.map_nil]
    rw [d0, d1, d2, d3]
    exact hc (at2 e a b c d) (at2 e a' b' c' d') w
  · cases h
theorem neg2_at {e : Env} {a b c d n m : Nat} (h1 : e.f n = -e.f c) (h2 : e.f m = -e.f d) : at2 e a b n m = neg2 (at2 e a b c d) := by
  unfold at2
  rw [h1, h2]
  rfl
theorem sub2_q (hc : PP2C P fn tup fun p r => add2 p (neg2 r)) : QOk P (elG tup fn mkSub2) := elG_q fun n is fd outs h e w hd => by
  unfold mkSub2 at h
  split at h
  · rename_i a b c d a' b' c' d'
    cases h
    have k0 : e.f n = - e.f c' := hd 0 (.neg c') rfl
    have k1 : e.f (n + 1) = - e.f d' := hd 1 (.neg d') rfl
    have d0 := hd 2 (.fn 3 [a, b, c, d, a', b', n, n + 1]) rfl
    have d1 := hd 3 (.fn 4 [a, b, c, d, a', b', n, n + 1]) rfl
    have d2 := hd 4 (.fn 5 [a, b, c, d, a', b', n, n + 1]) rfl
    have d3 := hd 5 (.fn 6 [a, b, c, d, a', b', n, n + 1]) rfl
    rw [fn3, neg2_at k0 k1] at d0
    rw [fn4, neg2_at k0 k1] at d1
    rw [fn5, neg2_at k0 k1] at d2
    rw [fn6, neg2_at k0 k1] at d3
    simp only [List.map_cons, List.map_nil]
    rw [d0, d1, d2, d3]
    exact hc (at2 e a b c d) (at2 e a' b' c' d') w
  · cases h
theorem dbl2_q (hc : P1C2 P fn tup fun p => add2 p p) : QOk P (elG tup fn mkDbl2) := elG_q fun n is fd outs h e w hd => by
  unfold mkDbl2 at h
  split at h
  · rename_i a b c d
    cases h
    have d0 := hd 0 (.fn 3 [a, b, c, d, a, b, c, d]) rfl
    have d1 := hd 1 (.fn 4 [a, b, c, d, a, b, c, d]) rfl
    have d2 := hd 2 (.fn 5 [a, b, c, d, a, b, c, d]) rfl
    have d3 := hd 3 (.fn 6 [a, b, c, d, a, b, c, d]) rfl
    rw [fn3] at d0
    rw [fn4] at d1
    rw [fn5] at d2
    rw [fn6] at d3
    rw [Nat.add_zero] at d0
    simp only [List.map_cons, List.map_nil]
    rw [d0, d1, d2, d3]
    exact hc (at2 e a b c d) w
  · cases h
theorem neg2_q (hc : P1C2 P fn tup neg2) : QOk P (elG tup fn mkNeg2) := elG_q fun n is fd outs h e w hd => by
  unfold mkNeg2 at h
  split at h
  · rename_i a b c d
    cases h
    have d0 : e.f n = - e.f c := hd 0 (.neg c) rfl
    have d1 : e.f (n + 1) = - e.f d := hd 1 (.neg d) rfl
    simp only [List.map_cons, List.map_nil]
    rw [d0, d1]
    exact hc (at2 e a b c d) w
  · cases h
end
end Go.Sx
