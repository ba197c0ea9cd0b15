import Derived.Test.YtolmolkcjoibiaaDoorSu
import Derived.Test.YtolmolkcjoibiaaDoorSt
/- Aids to the claim: what is shown here is said at each theorem. -/
namespace Go.Sx
open Go
set_option maxRecDepth 100000
/-! ### impl.jac2: a quiet function of words in Montgomery's form -/
def zero2 (p : P2) : Prop := ((p.1.1 = 0 ∧ p.1.2 = 0) ∧ p.2.1 = 0) ∧ p.2.2 = 0
instance (p : P2) : Decidable (zero2 p) := by unfold zero2; exact inferInstance
def kx (p : P2) : F2 := (if zero2 p then 1 else p.1.1, if zero2 p then 0 else p.1.2)
def ky (p : P2) : F2 := (if zero2 p then 1 else p.2.1, if zero2 p then 0 else p.2.2)
def kz (p : P2) : F2 := (if zero2 p then 0 else 1, 0)
theorem zero2_iff {p : P2} : zero2 p ↔ p = (0, 0) :=
  ⟨fun h => Prod.ext (Prod.ext h.1.1.1 h.1.1.2) (Prod.ext h.1.2 h.2), fun h => by subst h; exact ⟨⟨⟨rfl, rfl⟩, rfl⟩, rfl⟩⟩
theorem cm11 (x : F2) : x = x * (1 * 1) := (cmul11 x).symm
theorem cm111 (x : F2) : x = x * (1 * 1 * 1) := (cmul111 x).symm
theorem repK_jac (p : P2) : RepK (kx p) (ky p) (kz p) p := by
  unfold kx ky kz
  by_cases h : zero2 p
  · rw [if_pos h, if_pos h, if_pos h, if_pos h, if_pos h]
    exact .inl ⟨rfl, zero2_iff.1 h⟩
  · rw [if_neg h, if_neg h, if_neg h, if_neg h, if_neg h]
    exact .inr ⟨one_ne_c, fun g => h (zero2_iff.2 g), cm11 _, cm111 _⟩
/-- The words of a row of elements, in Montgomery's form. -/
abbrev emsV (l : List Fq) : Value := .agg ((l.map emV).flatten).toArray
def Jac2C (P : Program) (f : FuncId) : Prop := ∀ (p : P2) (w : World), QuietRun P (callFunc f #[emsV [p.1.1, p.1.2, p.2.1, p.2.2]]) (emsV [(kx p).1, (kx p).2, (ky p).1, (ky p).2, (kz p).1, (kz p).2]) w
def kL1 : Tree Lf := .leaf (.one (.agg (ems 0 ++ (ems 1 ++ (ems 2 ++ (ems 3 ++ (oneC ++ nulC)))))), [])
def kL0 : Tree Lf := .leaf (.one (.agg (oneC ++ (nulC ++ (oneC ++ (nulC ++ (nulC ++ nulC)))))), [])
def tJac2 : Tree Lf := cI (0, 1) (2, 3) kL0 kL1
theorem jac2_goal {e : Env} {p : P2} (h0 : g2 e (0, 1) = p.1) (h1 : g2 e (2, 3) = p.2) : tJac2.goal e fun l => (∀ β, l.1.den β e = emsV [(kx p).1, (kx p).2, (ky p).1, (ky p).2, (kz p).1, (kz p).2]) ∧ l.2 = [] := by
  have n : ¬ zero2 p → kL1.goal e fun l => (∀ β, l.1.den β e = emsV [(kx p).1, (kx p).2, (ky p).1, (ky p).2, (kz p).1, (kz p).2]) ∧ l.2 = [] := fun hn => by
    refine ⟨fun β => ?_, rfl⟩
    have e0 : e.f 0 = p.1.1 := congrArg Prod.fst h0
    have e1 : e.f 1 = p.1.2 := congrArg Prod.snd h0
    have e2 : e.f 2 = p.2.1 := congrArg Prod.fst h1
    have e3 : e.f 3 = p.2.2 := congrArg Prod.snd h1
    simp only [SV.den, SV1.den, List.map_append, ems_den, oneC_den, nulC_den, e0, e1, e2, e3, kx, ky, kz]
    rw [if_neg hn, if_neg hn, if_neg hn, if_neg hn, if_neg hn]
    rfl
  refine cI_goal (fun g g' => ?_) fun g => n fun h => g ?_
  · have hz : zero2 p := zero2_iff.2 (Prod.ext (h0.symm.trans g) (h1.symm.trans g'))
    refine ⟨fun β => ?_, rfl⟩
    simp only [SV.den, SV1.den, List.map_append, oneC_den, nulC_den, kx, ky, kz]
    rw [if_pos hz, if_pos hz, if_pos hz, if_pos hz, if_pos hz]
    rfl
  · rw [h0, h1, zero2_iff.1 h]; exact ⟨rfl, rfl⟩
theorem jac2C_of {P : Program} {qf pf : QSum} (hm : P.follows .mixedOrders = true) (hnum : NumOk P) (hq : QOk P qf) (hp : POk P pf) {f : FuncId} (h : sxCall P qf pf 5000 f [.one (.agg (ems 0 ++ (ems 1 ++ (ems 2 ++ ems 3))))] (hp0 [] 0 4) leafE = some tJac2) : Jac2C P f := fun p w => by
  have key := quiet_els (fs := fsOf [p.1.1, p.1.2, p.2.1, p.2.2]) (u := emsV [(kx p).1, (kx p).2, (ky p).1, (ky p).2, (kz p).1, (kz p).2]) hm hnum hq hp h (by decide +kernel) rfl rfl
    (fun e he => jac2_goal (Prod.ext (he 0 (by omega)) (he 1 (by omega))) (Prod.ext (he 2 (by omega)) (he 3 (by omega)))) (vs := [emsV [p.1.1, p.1.2, p.2.1, p.2.2]]) rfl w
  exact key
/-- A row of elements behind as many words in Montgomery's form. -/
def elMs (h : Hp) : List (List Atom) → Option (List Dn × List Nat × Hp)
  | [] => some ([], [], h)
  | l :: ls => match toW4 l with
    | some a => match elOf h a with
      | some (d, i, h1) => match elMs h1 ls with
        | some (ds, is, h2) => some (d ++ ds, i :: is, h2)
        | none => none
      | none => none
    | none => none
theorem elMs_sound {e : Env} {β : Nat → Nat} {n : Nat} : ∀ {ls : List (List Atom)} {h h' : Hp} {ds : List Dn} {is : List Nat}, elMs h ls = some (ds, is, h') → SameMem h h' ∧
    (Facts e h.facts → (∀ l ∈ ls, ∀ a ∈ l, a.ok n e) → (∀ d ∈ ds, d.holds e) → ls.map (fun l => l.map (Atom.den β e)) = is.map fun i => emV (e.f i))
  | [], h, h', ds, is, hh => by cases hh; exact ⟨SameMem.refl _, fun _ _ _ => rfl⟩
  | l :: ls, h, h', ds, is, hh => by
    unfold elMs at hh
    split at hh
    · rename_i a ha
      split at hh
      · rename_i d i h1 he
        split at hh
        · rename_i ds' is' h2 hr
          cases hh
          obtain ⟨m1, s1⟩ := elOf_sound he
          obtain ⟨m2, s2⟩ := elMs_sound (e := e) (β := β) (n := n) hr
          refine ⟨m1.trans m2, fun hf hok hd => ?_⟩
          have oa : a.ok e := W4.ok_of ha (hok l (by simp))
          have ia := s1 e hf oa fun x hx => hd x (by simp [hx])
          have ih := s2 (by rw [m1.2.2.2.2]; exact hf) (fun l hl => hok l (by simp [hl])) fun x hx => hd x (by simp [hx])
          rw [List.map_cons, List.map_cons, ih]
          congr 1
          rw [toW4_spec ha]
          exact is_words ia
        · cases hh
      · cases hh
    · cases hh
def jac2Ds (n a b c d : Nat) : List FD := [.fn 11 [a, b, c, d], .fn 12 [a, b, c, d], .fn 13 [a, b, c, d], .fn 14 [a, b, c, d], .fn 15 [a, b, c, d], .k 0]
def jac2F (fn : FuncId) : QSum := fun f args h =>
  bif Nat.beq f fn then match args with
    | [.one (.agg l)] => bif Nat.beq l.length (4 * (fours l).length) then match elMs h (fours l) with
        | some (ds, [a, b, c, d], h1) => some (ds ++ newEls h1.nf (jac2Ds h1.nf a b c d), .one (.agg (ems h1.nf ++ (ems (h1.nf + 1) ++ (ems (h1.nf + 2) ++ (ems (h1.nf + 3) ++ (ems (h1.nf + 4) ++ ems (h1.nf + 5))))))), { h1 with nf := h1.nf + 6 })
        | _ => none
      else none
    | _ => none
  else none
theorem jac2_defs {e : Env} {n a b c d : Nat} (hd : Defs e n (jac2Ds n a b c d)) : g2 e (n, n + 1) = kx (at2 e a b c d) ∧ g2 e (n + 2, n + 3) = ky (at2 e a b c d) ∧ g2 e (n + 4, n + 5) = kz (at2 e a b c d) := by
  have d0 := hd 0 (.fn 11 [a, b, c, d]) rfl
  have d1 := hd 1 (.fn 12 [a, b, c, d]) rfl
  have d2 := hd 2 (.fn 13 [a, b, c, d]) rfl
  have d3 := hd 3 (.fn 14 [a, b, c, d]) rfl
  have d4 := hd 4 (.fn 15 [a, b, c, d]) rfl
  have d5 := hd 5 (.k 0) rfl
  exact ⟨Prod.ext d0 d1, Prod.ext d2 d3, Prod.ext d4 d5⟩
theorem jac2F_q {P : Program} {fn : FuncId} (hc : Jac2C P fn) : QOk P (jac2F fn) := by
  intro f args h ds v h' hh
  unfold jac2F at hh
  cases hb : Nat.beq f fn with
  | false => rw [hb] at hh; cases hh
  | true =>
    rw [hb] at hh
    have hf := Nat.eq_of_beq_eq_true hb
    subst hf
    simp only [cond_true] at hh
    split at hh
    · rename_i l
      cases hl : Nat.beq l.length (4 * (fours l).length) with
      | false => rw [hl] at hh; cases hh
      | true =>
        rw [hl] at hh
        simp only [cond_true] at hh
        split at hh
        · rename_i ds' a b c d h1 he
          cases hh
          obtain ⟨m1, _⟩ := elMs_sound (e := elEnv fun _ => 0) (β := fun _ => 0) (n := 0) he
          refine ⟨m1.trans (SameMem.nf _ _), fun e β hf hok hds => ?_⟩
          obtain ⟨_, s1⟩ := elMs_sound (e := e) (β := β) (n := h.cnt) he
          have hall : ∀ x ∈ l, x.ok h.cnt e := hok (.one (.agg l)) (by simp)
          have hw := s1 hf (fun x hx a ha => hall a (fours_mem l hx ha)) fun x hx => hds x (by simp [hx])
          have hnew := newEls_holds (e := e) (ds := jac2Ds h1.nf a b c d) (n := h1.nf) fun d hd => hds d (by simp [hd])
          obtain ⟨k0, k1, k2⟩ := jac2_defs hnew
          refine ⟨fun x hx => ?_, fun w0 w _ => ?_⟩
          · simp only [List.mem_append] at hx
            rcases hx with hx | hx | hx | hx | hx | hx <;> exact ems_ok _ _ x hx
          · have ha : ([SV.one (.agg l)].map (SV.den β e)).toArray = #[emsV [e.f a, e.f b, e.f c, e.f d]] := by
              simp only [List.map_cons, List.map_nil, SV.den, SV1.den]
              rw [fours_den (e := e) (β := β) l (Nat.eq_of_beq_eq_true hl) hw]
              rfl
            have q0 : e.f h1.nf = (kx (at2 e a b c d)).1 := congrArg Prod.fst k0
            have q1 : e.f (h1.nf + 1) = (kx (at2 e a b c d)).2 := congrArg Prod.snd k0
            have q2 : e.f (h1.nf + 2) = (ky (at2 e a b c d)).1 := congrArg Prod.fst k1
            have q3 : e.f (h1.nf + 3) = (ky (at2 e a b c d)).2 := congrArg Prod.snd k1
            have q4 : e.f (h1.nf + 4) = (kz (at2 e a b c d)).1 := congrArg Prod.fst k2
            have q5 : e.f (h1.nf + 5) = (kz (at2 e a b c d)).2 := congrArg Prod.snd k2
            rw [ha]
            have hv : (SV.one (.agg (ems h1.nf ++ (ems (h1.nf + 1) ++ (ems (h1.nf + 2) ++ (ems (h1.nf + 3) ++ (ems (h1.nf + 4) ++ ems (h1.nf + 5)))))))).den β e = emsV [(kx (at2 e a b c d)).1, (kx (at2 e a b c d)).2, (ky (at2 e a b c d)).1, (ky (at2 e a b c d)).2, (kz (at2 e a b c d)).1, (kz (at2 e a b c d)).2] := by
              simp only [SV.den, SV1.den, List.map_append, ems_den, q0, q1, q2, q3, q4, q5]
              rfl
            rw [hv]
            exact hc (at2 e a b c d) w
        · cases hh
    · cases hh
/-- The coordinates of a point, before a tree. -/
def jac2D (n : Nat) (x y : PN) (k : Nat → PN → PN → PN → Tree Lf) : Tree Lf :=
  .dn (.f n (.fn 11 [x.1, x.2, y.1, y.2])) <| .dn (.f (n + 1) (.fn 12 [x.1, x.2, y.1, y.2])) <| .dn (.f (n + 2) (.fn 13 [x.1, x.2, y.1, y.2])) <| .dn (.f (n + 3) (.fn 14 [x.1, x.2, y.1, y.2])) <| .dn (.f (n + 4) (.fn 15 [x.1, x.2, y.1, y.2])) <| .dn (.f (n + 5) (.k 0)) <| k (n + 6) (n, n + 1) (n + 2, n + 3) (n + 4, n + 5)
theorem jac2D_goal {n : Nat} {x y : PN} {k : Nat → PN → PN → PN → Tree Lf} {e : Env} {p : P2} {Φ : Lf → Prop} (hx : g2 e x = p.1) (hy : g2 e y = p.2) (h : ∀ m X Y Z, RepK (g2 e X) (g2 e Y) (g2 e Z) p → (k m X Y Z).goal e Φ) : (jac2D n x y k).goal e Φ := fun d0 d1 d2 d3 d4 d5 => by
  obtain ⟨k0, k1, k2⟩ := jac2_defs (e := e) (n := n) (a := x.1) (b := x.2) (c := y.1) (d := y.2) fun j d hj => by
    match j, hj with
    | 0, hj => cases hj; exact d0
    | 1, hj => cases hj; exact d1
    | 2, hj => cases hj; exact d2
    | 3, hj => cases hj; exact d3
    | 4, hj => cases hj; exact d4
    | 5, hj => cases hj; exact d5
    | j + 6, hj => simp [jac2Ds] at hj
  have hp : at2 e x.1 x.2 y.1 y.2 = p := Prod.ext hx hy
  refine h _ _ _ _ ?_
  rw [k0, k1, k2, hp]
  exact repK_jac p
/-- The same, with what the coordinates of a point that is not infinite are. -/
theorem jac2D_goalx {n : Nat} {x y : PN} {k : Nat → PN → PN → PN → Tree Lf} {e : Env} {p : P2} {Φ : Lf → Prop} (hx : g2 e x = p.1) (hy : g2 e y = p.2) (h : ∀ m X Y Z, (p ≠ (0, 0) → g2 e X = p.1) → (p ≠ (0, 0) → g2 e Y = p.2) → RepK (g2 e X) (g2 e Y) (g2 e Z) p → (k m X Y Z).goal e Φ) : (jac2D n x y k).goal e Φ := fun d0 d1 d2 d3 d4 d5 => by
  obtain ⟨k0, k1, k2⟩ := jac2_defs (e := e) (n := n) (a := x.1) (b := x.2) (c := y.1) (d := y.2) fun j d hj => by
    match j, hj with
    | 0, hj => cases hj; exact d0
    | 1, hj => cases hj; exact d1
    | 2, hj => cases hj; exact d2
    | 3, hj => cases hj; exact d3
    | 4, hj => cases hj; exact d4
    | 5, hj => cases hj; exact d5
    | j + 6, hj => simp [jac2Ds] at hj
  have hp : at2 e x.1 x.2 y.1 y.2 = p := Prod.ext hx hy
  rw [hp] at k0 k1 k2
  refine h _ _ _ _ (fun hn => ?_) (fun hn => ?_) ?_
  · rw [k0, kx, if_neg fun g => hn (zero2_iff.1 g), if_neg fun g => hn (zero2_iff.1 g)]
  · rw [k1, ky, if_neg fun g => hn (zero2_iff.1 g), if_neg fun g => hn (zero2_iff.1 g)]
  · rw [k0, k1, k2]
    exact repK_jac p
theorem cneg0 : -(0 : F2) = 0 := by decide
theorem cneg_mul (y z : F2) : -(y * z) = -y * z := by (refine Prod.ext ?_ ?_ <;> simp only [fm1, fm2, fg1, fg2] <;> grind)
theorem repK_neg {X Y Z : F2} {p : P2} (h : RepK X Y Z p) : RepK X (-Y) Z (neg2 p) := by
  rcases h with ⟨h1, h2⟩ | ⟨h1, h2, h3, h4⟩
  · exact .inl ⟨h1, by rw [h2]; show ((0 : F2), -(0 : F2)) = (0, 0); rw [cneg0]⟩
  · refine .inr ⟨h1, fun g => h2 ?_, h3, ?_⟩
    · have g1 : p.1 = 0 := congrArg Prod.fst g
      have g2 : -p.2 = 0 := congrArg Prod.snd g
      refine Prod.ext g1 ?_
      show p.2 = 0
      have g3 : -p.2.1 = 0 := congrArg Prod.fst g2
      have g4 : -p.2.2 = 0 := congrArg Prod.snd g2
      exact Prod.ext (by show p.2.1 = 0; grind) (by show p.2.2 = 0; grind)
    · show -Y = -p.2 * (Z * Z * Z)
      rw [h4, cneg_mul]
def tDblJ2 : Tree Lf := jac2D 4 aX aY fun n X Y Z => jdbl2T true n X Y Z
def tAddJ2 : Tree Lf := jac2D 8 aX aY fun n X Y Z => jac2D n bX bY fun n X' Y' Z' => jsum2T true n X Y Z X' Y' Z'
def tSubJ2 : Tree Lf := jac2D 8 aX aY fun n X Y Z => jac2D n bX bY fun n X' Y' Z' => cNeg n Y' fun n Y' => jsum2T true n X Y Z X' Y' Z'
/-- The mixed sum's chord. -/
def mch2T (n : Nat) (X Y Z ZZ U S : PN) : Tree Lf :=
  cSub n U X fun n H => cSq n H fun n HH => cAdd n HH HH fun n I0 => cAdd n I0 I0 fun n I => cMul n H I fun n J => cSub n S Y fun n r0 => cAdd n r0 r0 fun n r => cMul n X I fun n V => cSq n r fun n X0 => cSub n X0 J fun n X1 => cSub n X1 V fun n X2 => cSub n X2 V fun n X3 =>
  cMul n J Y fun n s0 => cAdd n s0 s0 fun n s => cSub n V X3 fun n Y0 => cMul n Y0 r fun n Y1 => cSub n Y1 s fun n Y3 => cAdd n Z H fun n W0 => cSq n W0 fun n W1 => cSub n W1 ZZ fun n W2 => cSub n W2 HH fun n Z3 => aff2T true n X3 Y3 Z3
theorem mch2T_goal {n : Nat} {X Y Z ZZ U S : PN} {e : Env} {p r : P2} (hZ : g2 e Z ≠ 0) (hX : g2 e X = p.1 * (g2 e Z * g2 e Z)) (hY : g2 e Y = p.2 * (g2 e Z * g2 e Z * g2 e Z)) (hZZ : g2 e ZZ = g2 e Z * g2 e Z) (hU : g2 e U = r.1 * (g2 e Z * g2 e Z)) (hS : g2 e S = r.2 * (g2 e Z * g2 e Z * g2 e Z))
    (hp : p ≠ (0, 0)) (hr : r ≠ (0, 0)) (hne : ¬ (p.1 = r.1 ∧ p.2 = r.2)) : (mch2T n X Y Z ZZ U S).goal e (Gives2 true (add2 p r) e) :=
  cSub_goal fun _ H hH => cSq_goal fun _ HH hHH => cAdd_goal fun _ I0 hI0 => cAdd_goal fun _ I hI => cMul_goal fun _ J hJ => cSub_goal fun _ r0 hr0 => cAdd_goal fun _ rr hrr => cMul_goal fun _ V hV => cSq_goal fun _ X0 hX0 => cSub_goal fun _ X1 hX1 => cSub_goal fun _ X2 hX2 => cSub_goal fun _ X3 hX3 =>
  cMul_goal fun _ s0 hs0 => cAdd_goal fun _ s hs => cSub_goal fun _ Y0 hY0 => cMul_goal fun _ Y1 hY1 => cSub_goal fun _ Y3 hY3 => cAdd_goal fun _ W0 hW0 => cSq_goal fun _ W1 hW1 => cSub_goal fun _ W2 hW2 => cSub_goal fun _ Z3 hZ3 => by
    generalize hz0 : g2 e Z = z at *
    have hz3 : g2 e Z3 = g2 e H * z + g2 e H * z := by rw [hZ3, hW2, hW1, hW0, hZZ, hHH, cz3m]
    rw [hU, hX] at hH
    by_cases hx : p.1 = r.1
    · have h0 : g2 e Z3 = 0 := by rw [hz3, hH]; exact chz_eq _ _ _ hx.symm
      exact aff2T_goal (fun _ => add2_none hp hr hx fun g => hne ⟨hx, g.1⟩) fun a ha => (cz_ne h0 ha).elim
    · refine aff2T_goal (fun g => absurd g (by rw [hz3, hH]; exact ch_ne (fun g => hx g.symm) hZ)) fun a ha => ?_
      rw [hz3] at ha
      exact cmix (Z := z) (I := g2 e I) (rr := g2 e rr) hp hr hx hH ha (by rw [hI, hI0, hHH, ci4]) (by rw [hrr, hr0, hS, hY]) (by rw [hX3, hX2, hX1, hX0, hV, hJ, hX]) (by rw [hY3, hY1, hY0, hV, hs, hs0, hJ, hX, hY]; exact cmul_sw)
theorem cm3 (y z : F2) : y * z * (z * z) = y * (z * z * z) := by (refine Prod.ext ?_ ?_ <;> simp only [fm1, fm2] <;> grind)
def cK1 (n : Nat) (k : KT) : Tree Lf := .dn (.f n (.k 1)) <| .dn (.f (n + 1) (.k 0)) <| k (n + 2) (n, n + 1)
theorem cK1_goal {n : Nat} {k : KT} {e : Env} {Φ : Lf → Prop} (h : ∀ m r, g2 e r = 1 → (k m r).goal e Φ) : (cK1 n k).goal e Φ := fun d0 d1 => h _ _ (Prod.ext d0 d1)
/-- The inverse of one, by the way of the code. -/
def cInv1 (n : Nat) (k : KT) : Tree Lf :=
  .dn (.f n (.k 1)) <| .dn (.f (n + 1) (.mul n n)) <| .dn (.f (n + 2) (.k 0)) <| .dn (.f (n + 3) (.mul (n + 2) (n + 2))) <| .dn (.f (n + 4) (.add (n + 1) (n + 3))) <| .dn (.f (n + 5) (.fn 0 [n + 4])) <| .dn (.f (n + 6) (.k 1)) <| .dn (.f (n + 7) (.mul (n + 6) (n + 5))) <| .dn (.f (n + 8) (.k 0)) <| .dn (.f (n + 9) (.mul (n + 8) (n + 5))) <| .dn (.f (n + 10) (.neg (n + 9))) <| k (n + 11) (n + 7, n + 10)
theorem cInv1_goal {n : Nat} {k : KT} {e : Env} {Φ : Lf → Prop} (h : ∀ m r, g2 e r = F2.inv 1 → (k m r).goal e Φ) : (cInv1 n k).goal e Φ := fun d0 d1 d2 d3 d4 d5 d6 d7 d8 d9 d10 => by
  have d0 : e.f n = 1 := d0
  have d1 : e.f (n + 1) = e.f n * e.f n := d1
  have d2 : e.f (n + 2) = 0 := d2
  have d3 : e.f (n + 3) = e.f (n + 2) * e.f (n + 2) := d3
  have d4 : e.f (n + 4) = e.f (n + 1) + e.f (n + 3) := d4
  have d5 := dfn0 d5
  have d6 : e.f (n + 6) = 1 := d6
  have d7 : e.f (n + 7) = e.f (n + 6) * e.f (n + 5) := d7
  have d8 : e.f (n + 8) = 0 := d8
  have d9 : e.f (n + 9) = e.f (n + 8) * e.f (n + 5) := d9
  have d10 : e.f (n + 10) = - e.f (n + 9) := d10
  rw [d4, d1, d3, d0, d2] at d5
  refine h _ _ ?_
  rw [cinv_def]
  refine Prod.ext ?_ ?_
  · show e.f (n + 7) = 1 * finv (1 * 1 + 0 * 0)
    rw [d7, d6, d5]
  · show e.f (n + 10) = 0 - 0 * finv (1 * 1 + 0 * 0)
    rw [d10, d9, d8, d5, nmul]
def ainOneT (tup : Bool) (n : Nat) (X Y : PN) : Tree Lf := cInv1 n fun n a => cSq n a fun n b => cMul n X b fun n x => cMul n Y b fun n y1 => cMul n y1 a fun _ y => out4 tup x y
theorem ainOneT_goal {tup : Bool} {n : Nat} {X Y : PN} {e : Env} {p : P2} (h1 : g2 e X = p.1) (h2 : g2 e Y = p.2) : (ainOneT tup n X Y).goal e (Gives2 tup p e) :=
  cInv1_goal fun _ a ha => cSq_goal fun _ b hb => cMul_goal fun _ x hx => cMul_goal fun _ y1 hy1 => cMul_goal fun _ y hy => by
    have h := cmul_inv one_ne_c
    rw [← ha, cone_mul] at h
    exact out4_goal (by rw [hx, hb, h, cmul11, h1]) (by rw [hy, hy1, hb, h, cmul11, cmul_one, h2])
def mix2C (n : Nat) (X Y Z : PN) : Tree Lf := cSq n Z fun n ZZ => cMul n bX ZZ fun n U => cMul n bY Z fun n S0 => cMul n S0 ZZ fun n S => cE U X (cE S Y (dbl2T true n bX bY) (mch2T n X Y Z ZZ U S)) (mch2T n X Y Z ZZ U S)
def mix2W (n : Nat) (X Y Z : PN) : Tree Lf := cZ Z (ainOneT true n bX bY) (mix2C n X Y Z)
def tMix2 : Tree Lf := jac2D 8 aX aY fun n X Y Z => cI bX bY (aff2T true n X Y Z) (mix2W n X Y Z)
section
variable {e : Env} {p r : P2}
theorem dblJ2_goal (h0 : g2 e aX = p.1) (h1 : g2 e aY = p.2) : tDblJ2.goal e (Gives2 true (add2 p p) e) := jac2D_goal h0 h1 fun _ _ _ _ h => jdbl2T_goal h
theorem addJ2_goal (h0 : g2 e aX = p.1) (h1 : g2 e aY = p.2) (h2 : g2 e bX = r.1) (h3 : g2 e bY = r.2) : tAddJ2.goal e (Gives2 true (add2 p r) e) := jac2D_goal h0 h1 fun _ _ _ _ h => jac2D_goal h2 h3 fun _ _ _ _ h' => jsum2T_goal h h'
theorem subJ2_goal (h0 : g2 e aX = p.1) (h1 : g2 e aY = p.2) (h2 : g2 e bX = r.1) (h3 : g2 e bY = r.2) : tSubJ2.goal e (Gives2 true (add2 p (neg2 r)) e) := jac2D_goal h0 h1 fun _ _ _ _ h => jac2D_goal h2 h3 fun _ _ _ _ h' => cNeg_goal fun _ _ hn => by
  refine jsum2T_goal h ?_
  rw [hn]
  exact repK_neg h'
theorem mix2W_goal {n : Nat} {X Y Z : PN} (h2 : g2 e bX = r.1) (h3 : g2 e bY = r.2) (hr : r ≠ (0, 0)) (h : RepK (g2 e X) (g2 e Y) (g2 e Z) p) : (mix2W n X Y Z).goal e (Gives2 true (add2 p r) e) := by
  refine cZ_goal (fun w => ?_) fun w => cSq_goal fun _ ZZ hZZ => cMul_goal fun _ U hU => cMul_goal fun _ S0 hS0 => cMul_goal fun _ S hS => ?_
  · rw [repK_z h w, add2_zero]
    exact ainOneT_goal h2 h3
  · obtain ⟨a2, a3, a4⟩ := repK_nz h w
    have k8 : g2 e U = r.1 * (g2 e Z * g2 e Z) := by rw [hU, hZZ, h2]
    have k10 : g2 e S = r.2 * (g2 e Z * g2 e Z * g2 e Z) := by rw [hS, hS0, hZZ, h3]; exact cm3 _ _
    have ch : ∀ m, ¬ (p.1 = r.1 ∧ p.2 = r.2) → (mch2T m X Y Z ZZ U S).goal e (Gives2 true (add2 p r) e) := fun m hne => mch2T_goal w a3 a4 hZZ k8 k10 a2 hr hne
    refine cE_goal (fun w1 => cE_goal (fun w2 => ?_) fun w2 => ch _ fun hh => w2 ?_) fun w1 => ch _ fun hh => w1 ?_
    · have e1 : r.1 = p.1 := ccancel (cmul_ne w w) (by rw [← k8, ← a3]; exact w1)
      have e2 : r.2 = p.2 := ccancel (cmul_ne (cmul_ne w w) w) (by rw [← k10, ← a4]; exact w2)
      have : p = r := Prod.ext e1.symm e2.symm
      rw [this]
      exact dbl2T_goal h2 h3
    · rw [k10, a4, hh.2]
    · rw [k8, a3, hh.1]
theorem mix2_goal (h0 : g2 e aX = p.1) (h1 : g2 e aY = p.2) (h2 : g2 e bX = r.1) (h3 : g2 e bY = r.2) : tMix2.goal e (Gives2 true (add2 p r) e) := jac2D_goal h0 h1 fun _ X Y Z h => by
  refine cI_goal (fun w1 w2 => ?_) fun hn => mix2W_goal h2 h3 (fun g => hn (by rw [h2, h3, g]; exact ⟨rfl, rfl⟩)) h
  have hr : r = (0, 0) := Prod.ext (h2.symm.trans w1) (h3.symm.trans w2)
  rw [hr]
  refine aff2T_goal (fun w => by rw [repK_z h w, add2_zero]) fun a ha => ?_
  obtain ⟨a2, a3, a4⟩ := repK_nz h fun w => cz_ne w ha
  rw [add2_zero' a2]
  exact repK_out a3 a4 ha
end
end Go.Sx
namespace Go.Sx
open Go
set_option maxRecDepth 100000
/-! ### impl.told2, spec.One2(3): quiet tables -/
def ToldC (P : Program) (f : FuncId) : Prop := ∀ (a b : Fq) (w : World), QuietRun P (callFunc f #[emsV [a, b]]) (elsV [a, b]) w
theorem toldC_of {P : Program} {qf pf : QSum} (hm : P.follows .mixedOrders = true) (hnum : NumOk P) (hq : QOk P qf) (hp : POk P pf) {f : FuncId} (h : sxCall P qf pf 5000 f [.one (.agg (ems 0 ++ ems 1))] (hp0 [] 0 2) leafE = some (.leaf (.one (.agg (eps 0 ++ eps 1)), []))) : ToldC P f := fun a b w => by
  have key := quiet_els (fs := fsOf [a, b]) (u := elsV [a, b]) hm hnum hq hp h (by decide +kernel) rfl rfl
    (fun e he => (⟨fun β => by
      have h0 : e.f 0 = a := he 0 (by omega)
      have h1 : e.f 1 = b := he 1 (by omega)
      show elsV [e.f 0, e.f 1] = _
      rw [h0, h1], rfl⟩ : (∀ β, _) ∧ _)) (vs := [emsV [a, b]]) rfl w
  exact key
def toldF (fn : FuncId) : QSum := fun f args h =>
  bif Nat.beq f fn then match args with
    | [.one (.agg l)] => bif Nat.beq l.length (4 * (fours l).length) then match elMs h (fours l) with
        | some (ds, [a, b], h1) => some (ds, .one (.agg (([a, b].map eps).flatten)), h1)
        | _ => none
      else none
    | _ => none
  else none
theorem toldF_q {P : Program} {fn : FuncId} (hc : ToldC P fn) : QOk P (toldF fn) := by
  intro f args h ds v h' hh
  unfold toldF at hh
  cases hb : Nat.beq f fn with
  | false => rw [hb] at hh; cases hh
  | true =>
    rw [hb] at hh
    have hf := Nat.eq_of_beq_eq_true hb
    subst hf
    simp only [cond_true] at hh
    split at hh
    · rename_i l
      cases hl : Nat.beq l.length (4 * (fours l).length) with
      | false => rw [hl] at hh; cases hh
      | true =>
        rw [hl] at hh
        simp only [cond_true] at hh
        split at hh
        · rename_i ds' a b h1 he
          cases hh
          obtain ⟨m1, _⟩ := elMs_sound (e := elEnv fun _ => 0) (β := fun _ => 0) (n := 0) he
          refine ⟨m1, fun e β hf hok hds => ?_⟩
          obtain ⟨_, s1⟩ := elMs_sound (e := e) (β := β) (n := h.cnt) he
          have hall : ∀ x ∈ l, x.ok h.cnt e := hok (.one (.agg l)) (by simp)
          have hw := s1 hf (fun x hx a ha => hall a (fours_mem l hx ha)) fun x hx => hds x (by simp [hx])
          refine ⟨outS_ok (tup := false) (outs := [a, b]), fun w0 w _ => ?_⟩
          have ha : ([SV.one (.agg l)].map (SV.den β e)).toArray = #[emsV [e.f a, e.f b]] := by
            simp only [List.map_cons, List.map_nil, SV.den, SV1.den]
            rw [fours_den (e := e) (β := β) l (Nat.eq_of_beq_eq_true hl) hw]
            rfl
          rw [ha]
          have hv := outS_den (tup := false) (outs := [a, b]) (β := β) (e := e)
          have hv' : (SV.one (.agg (([a, b].map eps).flatten))).den β e = elsV [e.f a, e.f b] := hv
          rw [hv']
          exact hc (e.f a) (e.f b) w
        · cases hh
    · cases hh
def threeA : List Atom := [.int .u64 (.c 3), .int .u64 (.c 0), .int .u64 (.c 0), .int .u64 (.c 0), .int .u64 (.c 0), .int .u64 (.c 0), .int .u64 (.c 0), .int .u64 (.c 0)]
def threeV : Value := .agg #[.int .u64 3, .int .u64 0, .int .u64 0, .int .u64 0, .int .u64 0, .int .u64 0, .int .u64 0, .int .u64 0]
def ThreeC (P : Program) (f : FuncId) : Prop := ∀ w : World, QuietRun P (callFunc f #[.int .i64 3]) threeV w
theorem threeC_of {P : Program} {qf pf : QSum} (hm : P.follows .mixedOrders = true) (hnum : NumOk P) (hq : QOk P qf) (hp : POk P pf) {f : FuncId} (h : sxCall P qf pf 5000 f [.one (.at (.int .i64 (.c 3)))] (hp0 [] 0 0) leafE = some (.leaf (.one (.agg threeA), []))) : ThreeC P f := fun w => by
  have key := quiet_els (fs := fsOf []) (u := threeV) hm hnum hq hp h (by decide +kernel) rfl rfl
    (fun e _ => (⟨fun β => rfl, rfl⟩ : (∀ β, _) ∧ _)) (vs := [.int .i64 3]) rfl w
  exact key
def threeF (fn : FuncId) : QSum := fun f args h =>
  bif Nat.beq f fn then match args with
    | [.one (.at (.int .i64 (.c 3)))] => some ([], .one (.agg threeA), h)
    | _ => none
  else none
theorem threeF_q {P : Program} {fn : FuncId} (hc : ThreeC P fn) : QOk P (threeF fn) := by
  intro f args h ds v h' hh
  unfold threeF at hh
  cases hb : Nat.beq f fn with
  | false => rw [hb] at hh; cases hh
  | true =>
    rw [hb] at hh
    have hf := Nat.eq_of_beq_eq_true hb
    subst hf
    simp only [cond_true] at hh
    split at hh
    · cases hh
      refine ⟨SameMem.refl _, fun e β hf hok hds => ⟨fun a ha => ?_, fun w0 w _ => hc w⟩⟩
      have : (threeA.all Atom.elB) = true := rfl
      exact Atom.elB_ok (List.all_eq_true.1 this a ha) _ _
    · cases hh
end Go.Sx
namespace Go.Sx
open Go
set_option maxRecDepth 100000
/-! ### Tests of numbers of two parts behind pointers -/
def flatV (l : List Fq) : List Value := (l.map emV).flatten
def T1C (P : Program) (f : FuncId) (n k : Nat) : Prop := ∀ (w : World) (x : Addr) (l : List Fq), l.length = n → CellsAt w x (flatV l) → Does P f #[ptr x] (.bool (btab k l)) w w
def T2C (P : Program) (f : FuncId) (n k : Nat) : Prop := ∀ (w : World) (x y : Addr) (l r : List Fq), l.length = n → r.length = n → CellsAt w x (flatV l) → CellsAt w y (flatV r) → Does P f #[ptr x, ptr y] (.bool (btab k (l ++ r))) w w
/-- The elements whose words lie at a place. -/
def elsAt (h : Hp) (x : SA) (n : Nat) : Option (List Nat) :=
  match rd h x (4 * n) with
  | some l => match elMs h (fours l) with
    | some ([], is, _) => bif Nat.beq is.length n && Nat.beq l.length (4 * (fours l).length) then some is else none
    | _ => none
  | none => none
theorem elsAt_sound {w0 : World} {e : Env} {β : Nat → Nat} {h : Hp} {w : World} (hr : HRel w0 e β h w) {x : SA} {n : Nat} {is : List Nat} (hh : elsAt h x n = some is) : is.length = n ∧ CellsAt w (x.den β e) (flatV (is.map e.f)) := by
  unfold elsAt at hh
  split at hh
  · rename_i l hl
    split at hh
    · rename_i is' h1 he
      cases hb : (Nat.beq is'.length n && Nat.beq l.length (4 * (fours l).length)) with
      | false => rw [hb] at hh; cases hh
      | true =>
        rw [hb] at hh
        cases hh
        simp only [Bool.and_eq_true] at hb
        refine ⟨Nat.eq_of_beq_eq_true hb.1, ?_⟩
        obtain ⟨r1, r2, r3⟩ := rd_sound hr hl
        obtain ⟨_, s1⟩ := elMs_sound (e := e) (β := β) (n := h.cnt) he
        have hw := s1 hr.facts (fun x hx a ha => r2 a (fours_mem l hx ha)) (fun d hd => by cases hd)
        have hd := fours_den (e := e) (β := β) l (Nat.eq_of_beq_eq_true hb.2) hw
        have hfl : flatV (is.map e.f) = l.map (Atom.den β e) := by
          rw [hd]
          simp only [flatV, List.map_map]
          rfl
        rw [hfl]
        obtain ⟨r, o⟩ := x
        have had : ((⟨r, o⟩ : SA).den β e).spot = none := by cases r <;> rfl
        refine ⟨had, fun i v hi => ?_⟩
        rw [List.getElem?_map] at hi
        obtain ⟨c, hc, rfl⟩ := Option.map_eq_some_iff.1 hi
        have := r3 i c hc
        have hadd : (⟨((⟨r, o⟩ : SA).den β e).block, ((⟨r, o⟩ : SA).den β e).off + i, none⟩ : Addr) = (⟨r, o + i⟩ : SA).den β e := by cases r <;> simp only [SA.den] <;> simp [Nat.add_assoc]
        rw [hadd]
        exact this
    · cases hh
  · cases hh
def t1F (fn : FuncId) (n k : Nat) : QSum := fun f args h =>
  bif Nat.beq f fn then match args with
    | [.one (.at (.ptr x))] => match elsAt h x n with
      | some is => some ([], .one (.at (.bool (.fn k is))), h)
      | none => none
    | _ => none
  else none
def t2F (fn : FuncId) (n k : Nat) : QSum := fun f args h =>
  bif Nat.beq f fn then match args with
    | [.one (.at (.ptr x)), .one (.at (.ptr y))] => match elsAt h x n, elsAt h y n with
      | some is, some js => some ([], .one (.at (.bool (.fn k (is ++ js)))), h)
      | _, _ => none
    | _ => none
  else none
theorem t1F_p {P : Program} {fn : FuncId} {n k : Nat} (hc : T1C P fn n k) : POk P (t1F fn n k) := by
  intro f args h ds v h' hh
  unfold t1F at hh
  cases hb : Nat.beq f fn with
  | false => rw [hb] at hh; cases hh
  | true =>
    rw [hb] at hh
    have hf := Nat.eq_of_beq_eq_true hb
    subst hf
    simp only [cond_true] at hh
    split at hh
    · rename_i x
      split at hh
      · rename_i is hx
        cases hh
        refine ⟨rfl, fun w0 e β w hr hok hds => ?_⟩
        obtain ⟨hl, hcells⟩ := elsAt_sound hr hx
        obtain ⟨k1, k2⟩ := hc w (x.den β e) (is.map e.f) (by rw [List.length_map, hl]) hcells
        exact ⟨trivial, k1, k2.mono fun en w' ⟨h1, h2⟩ => ⟨h1, hr.grow h2, h2.size⟩⟩
      · cases hh
    · cases hh
theorem t2F_p {P : Program} {fn : FuncId} {n k : Nat} (hc : T2C P fn n k) : POk P (t2F fn n k) := by
  intro f args h ds v h' hh
  unfold t2F at hh
  cases hb : Nat.beq f fn with
  | false => rw [hb] at hh; cases hh
  | true =>
    rw [hb] at hh
    have hf := Nat.eq_of_beq_eq_true hb
    subst hf
    simp only [cond_true] at hh
    split at hh
    · rename_i x y
      split at hh
      · rename_i is js hx hy
        cases hh
        refine ⟨rfl, fun w0 e β w hr hok hds => ?_⟩
        obtain ⟨hl, hcx⟩ := elsAt_sound hr hx
        obtain ⟨hl', hcy⟩ := elsAt_sound hr hy
        obtain ⟨k1, k2⟩ := hc w (x.den β e) (y.den β e) (is.map e.f) (js.map e.f) (by rw [List.length_map, hl]) (by rw [List.length_map, hl']) hcx hcy
        refine ⟨trivial, k1, k2.mono fun en w' ⟨h1, h2⟩ => ⟨?_, hr.grow h2, h2.size⟩⟩
        rw [h1]
        show Ending.returned (Value.bool _) = Ending.returned (Value.bool (btab k ((is ++ js).map e.f)))
        rw [List.map_append]
      · cases hh
    · cases hh
/-! ### Their walks -/
def exEnv (fs : Nat → Fq) (ext : Nat → Addr) : Env := { i := fun _ => 0, b := fun _ => false, f := fs, ext := ext }
/-- A test behind pointers, out of its tree. -/
theorem test_of {P : Program} {qf pf : QSum} (hm : P.follows .mixedOrders = true) (hnum : NumOk P) (hq : QOk P qf) (hp : POk P pf) {f : FuncId} {js : List Nat} {exts : List (List Atom)} {nf : Nat} {t : Tree Lf} (h : sxCall P qf pf 5000 f (js.map pt) (hp0 ([] :: exts) 0 nf) leafE = some t)
    (hbd : t.bd 0 0 nf = true) (hel : exts.all (fun l => l.all Atom.elB) = true) (hlt : exts.all (fun l => l.all fun a => a.ltB 0 0 nf) = true) {w : World} (fs : Nat → Fq) (addr : Nat → Addr) (h0 : (addr 0).block < w.heap.size) (h0s : (addr 0).spot = none) (h0o : (addr 0).off = 0) (hspot : ∀ j ∈ js, (addr j).spot = none)
    (hcells : ∀ j c, exts[j]? = some c → (addr (j + 1)).block < w.heap.size ∧ CellsAt w (addr (j + 1)) (c.map (Atom.den (fun _ => 0) (exEnv fs addr)))) {b : Bool}
    (law : ∀ e, (∀ k, k < nf → e.f k = fs k) → t.goal e fun l => (∀ β, l.1.den β e = .bool b) ∧ l.2 = []) (hlen : ([] :: exts).length ≤ 7 := by decide) : Does P f (js.map fun j => ptr (addr j)).toArray (.bool b) w w := by
  have hargs : ∀ e', AgreeE 0 0 nf (exEnv fs addr) e' → (js.map pt).map (SV.den (fun _ => 0) e') = js.map fun j => ptr (addr j) := fun e' ha => by
    rw [List.map_map]
    refine List.map_congr_left fun j hj => ?_
    have hx : e'.ext = addr := ha.ext
    simp only [Function.comp, pt, SV.den, SV1.den, Atom.den, SA.den, hx]
    have hs := hspot j hj
    generalize addr j = A at hs
    obtain ⟨b, o, s⟩ := A
    simp only at hs
    subst hs
    rfl
  have key := fn_of_tree hm hnum hq hp h hbd (w := w) (e := exEnv fs addr) (β := fun _ => 0)
    (fun e' ha => by
      have hx : e'.ext = addr := ha.ext
      refine hp0_rel (fun j c hj => ?_) (fun c hc => by cases hc; exact fun i hi => by simp at hi) (fun j c c0 hj hc hc0 => by
        cases hc0
        refine .inr (.inr ?_)
        rw [hx, h0o]
        exact Nat.zero_le _) (hlen := hlen)
      rw [hx]
      match j, hj with
      | 0, hj => cases hj; exact ⟨h0, ⟨h0s, fun i v hi => by simp at hi⟩, fun a ha => by cases ha⟩
      | j + 1, hj =>
        have hj : exts[j]? = some c := hj
        obtain ⟨g1, g2⟩ := hcells j c hj
        have hmem := List.mem_of_getElem? hj
        refine ⟨g1, ?_, fun a hac => Atom.elB_ok (List.all_eq_true.1 (List.all_eq_true.1 hel c hmem) a hac) _ _⟩
        rw [(atoms_agreeE (n := 0) ha (List.all_eq_true.1 hlt c hmem)).1]
        exact g2)
    (fun e' ha s hs => by obtain ⟨j, _, rfl⟩ := List.mem_map.1 hs; trivial)
    (fun e' ha => by rw [hargs e' ha, hargs _ (AgreeE.refl _ _ _ _)])
    (fun e' l => (∀ β, l.1.den β e' = .bool b) ∧ l.2 = []) (fun e' ha => law e' fun k hk => ha.f k hk)
  rw [hargs _ (AgreeE.refl _ _ _ _)] at key
  refine ⟨key.1, key.2.mono fun en w' ⟨v, log, β', e', cnt, g1, g2, g3, g4, g5, g6⟩ => ?_⟩
  obtain ⟨g51, g52⟩ := g5
  simp only at g51 g52
  subst g52
  exact ⟨by rw [g1, g51], g6⟩
def lfX (b : BE) : Tree Lf := .leaf (.one (.at (.bool b)), [])
def lfN : Tree Lf := .leaf (.one (.at (.bool (.c false))), [])
def tZ2 : Tree Lf := .br (.fz 0) (lfX (.fz 1)) lfN
def tI4 : Tree Lf := .br (.fz 0) (.br (.fz 1) (.br (.fz 2) (lfX (.fz 3)) lfN) lfN) lfN
def tQ2 : Tree Lf := .br (.fe 0 2) (lfX (.fe 1 3)) lfN
theorem lfX_goal {e : Env} {x : BE} {b : Bool} (h : x.den e = b) : (lfX x).goal e fun l => (∀ β, l.1.den β e = .bool b) ∧ l.2 = [] := ⟨fun β => by rw [← h]; rfl, rfl⟩
theorem lfN_goal {e : Env} {b : Bool} (h : b = false) : lfN.goal e fun l => (∀ β, l.1.den β e = .bool b) ∧ l.2 = [] := ⟨fun β => by rw [h]; rfl, rfl⟩
theorem cells_flat {w : World} {x : Addr} {l : List Fq} (h : CellsAt w x (flatV l)) (hl : l ≠ []) : x.block < w.heap.size := by
  match l, hl with
  | a :: l, _ =>
    have := h.2 0 (.int .u64 (w4 (mont a) 0 : Nat)) rfl
    unfold World.cell? at this
    split at this
    · rename_i hb
      exact (Array.getElem?_eq_some_iff.1 hb).1
    · cases this
section
variable {P : Program} {qf pf : QSum} (hm : P.follows .mixedOrders = true) (hnum : NumOk P) (hq : QOk P qf) (hp : POk P pf) {f : FuncId}
include hm hnum hq hp
theorem z2_of (h : sxCall P qf pf 5000 f ([1].map pt) (hp0 [[], ems 0 ++ ems 1] 0 2) leafE = some tZ2) : T1C P f 2 4 := fun w x l hl hx => by
  match l, hl with
  | [a, b], _ =>
    have hb := cells_flat hx (by simp)
    have := test_of (b := btab 4 [a, b]) hm hnum hq hp (js := [1]) (exts := [ems 0 ++ ems 1]) h (by decide +kernel) rfl rfl (w := w) (fsOf [a, b]) (fun j => if j = 0 then ⟨x.block, 0, none⟩ else x) hb rfl rfl
      (fun j hj => by cases List.mem_singleton.1 hj; exact hx.1)
      (fun j c hj => by
        match j, hj with
        | 0, hj => cases hj; exact ⟨hb, hx⟩
        | j + 1, hj => simp at hj)
      (fun e he => by
        have e0 : e.f 0 = a := he 0 (by omega)
        have e1 : e.f 1 = b := he 1 (by omega)
        refine ⟨fun g => lfX_goal ?_, fun g => lfN_goal ?_⟩
        · have g := fz_t g
          rw [e0] at g
          show decide (e.f 1 = 0) = decide (a = 0 ∧ b = 0)
          rw [e1, decide_eq_decide]
          exact ⟨fun h => ⟨g, h⟩, fun h => h.2⟩
        · have g := fz_f g
          rw [e0] at g
          exact decide_eq_false fun h => g h.1)
    exact this
theorem i4_of (h : sxCall P qf pf 5000 f ([1].map pt) (hp0 [[], ems 0 ++ (ems 1 ++ (ems 2 ++ ems 3))] 0 4) leafE = some tI4) : T1C P f 4 3 := fun w x l hl hx => by
  match l, hl with
  | [a, b, c, d], _ =>
    have hb := cells_flat hx (by simp)
    have := test_of (b := btab 3 [a, b, c, d]) hm hnum hq hp (js := [1]) (exts := [ems 0 ++ (ems 1 ++ (ems 2 ++ ems 3))]) h (by decide +kernel) rfl rfl (w := w) (fsOf [a, b, c, d]) (fun j => if j = 0 then ⟨x.block, 0, none⟩ else x) hb rfl rfl
      (fun j hj => by cases List.mem_singleton.1 hj; exact hx.1)
      (fun j c hj => by
        match j, hj with
        | 0, hj => cases hj; exact ⟨hb, hx⟩
        | j + 1, hj => simp at hj)
      (fun e he => by
        have e0 : e.f 0 = a := he 0 (by omega)
        have e1 : e.f 1 = b := he 1 (by omega)
        have e2 : e.f 2 = c := he 2 (by omega)
        have e3 : e.f 3 = d := he 3 (by omega)
        refine ⟨fun g => ⟨fun g' => ⟨fun g'' => lfX_goal ?_, fun g'' => lfN_goal ?_⟩, fun g' => lfN_goal ?_⟩, fun g => lfN_goal ?_⟩
        · have g := fz_t g
          have g' := fz_t g'
          have g'' := fz_t g''
          rw [e0] at g
          rw [e1] at g'
          rw [e2] at g''
          show decide (e.f 3 = 0) = decide (((a = 0 ∧ b = 0) ∧ c = 0) ∧ d = 0)
          rw [e3, decide_eq_decide]
          exact ⟨fun h => ⟨⟨⟨g, g'⟩, g''⟩, h⟩, fun h => h.2⟩
        · have g := fz_f g''
          rw [e2] at g
          exact decide_eq_false fun h => g h.1.2
        · have g := fz_f g'
          rw [e1] at g
          exact decide_eq_false fun h => g h.1.1.2
        · have g := fz_f g
          rw [e0] at g
          exact decide_eq_false fun h => g h.1.1.1)
    exact this
theorem q2_of (h : sxCall P qf pf 5000 f ([1, 2].map pt) (hp0 [[], ems 0 ++ ems 1, ems 2 ++ ems 3] 0 4) leafE = some tQ2) : T2C P f 2 5 := fun w x y l r hl hr hx hy => by
  match l, hl, r, hr with
  | [a, b], _, [c, d], _ =>
    have hb := cells_flat hx (by simp)
    have hb' := cells_flat hy (by simp)
    have := test_of (b := btab 5 [a, b, c, d]) hm hnum hq hp (js := [1, 2]) (exts := [ems 0 ++ ems 1, ems 2 ++ ems 3]) h (by decide +kernel) rfl rfl (w := w) (fsOf [a, b, c, d]) (fun j => if j = 0 then ⟨x.block, 0, none⟩ else if j = 2 then y else x) hb rfl rfl
      (fun j hj => by
        simp only [List.mem_cons, List.not_mem_nil, or_false] at hj
        rcases hj with rfl | rfl
        · exact hx.1
        · exact hy.1)
      (fun j c hj => by
        match j, hj with
        | 0, hj => cases hj; exact ⟨hb, hx⟩
        | 1, hj => cases hj; exact ⟨hb', hy⟩
        | j + 2, hj => simp at hj)
      (fun e he => by
        have e0 : e.f 0 = a := he 0 (by omega)
        have e1 : e.f 1 = b := he 1 (by omega)
        have e2 : e.f 2 = c := he 2 (by omega)
        have e3 : e.f 3 = d := he 3 (by omega)
        refine ⟨fun g => lfX_goal ?_, fun g => lfN_goal ?_⟩
        · have g := fe_t g
          rw [e0, e2] at g
          show decide (e.f 1 = e.f 3) = decide (a = c ∧ b = d)
          rw [e1, e3, decide_eq_decide]
          exact ⟨fun h => ⟨g, h⟩, fun h => h.2⟩
        · have g := fe_f g
          rw [e0, e2] at g
          exact decide_eq_false fun h => g h.1)
    exact this
end
end Go.Sx
