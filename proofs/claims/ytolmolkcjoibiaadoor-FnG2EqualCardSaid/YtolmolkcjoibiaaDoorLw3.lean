import Derived.Test.YtolmolkcjoibiaaDoorElg
/- Aids to the claim: what is shown here is said at each theorem. -/
namespace Go.Sx
open Go
set_option maxRecDepth 100000
/-! ### The second curve's test -/
def on2B : List (List Nat) → Option BE
  | [[i, j, k, l]] => some (.fn 2 [i, j, k, l])
  | _ => none
def On2C (P : Program) (f : FuncId) : Prop := ∀ (x x' y y' : Fq) (w : World), QuietRun P (callFunc f #[elsV [x, x', y, y']]) (.bool (btab 2 [x, x', y, y'])) w
theorem on2_q {P : Program} {fn : FuncId} (hc : On2C P fn) : QOk P (tsF fn on2B) :=
  tsF_q fun is b h e w => by
    unfold on2B at h
    split at h
    · cases h; exact hc _ _ _ _ w
    · cases h
def On2P (x x' y y' : Fq) : Prop := (((x = 0 ∧ x' = 0) ∧ y = 0) ∧ y' = 0) ∨ F2.mul (y, y') (y, y') = F2.add (F2.mul (x, x') (F2.mul (x, x') (x, x'))) tw
instance (x x' y y' : Fq) : Decidable (On2P x x' y y') := inferInstanceAs (Decidable (_ ∨ _))
theorem btab2 (x x' y y' : Fq) : btab 2 [x, x', y, y'] = decide (On2P x x' y y') := rfl
def tOn2b : Tree Lf :=
  .dn (.f 4 (.mul 2 2)) <| .dn (.f 5 (.mul 3 3)) <| .dn (.f 6 (.sub 4 5)) <| .dn (.f 7 (.mul 2 3)) <| .dn (.f 8 (.mul 3 2)) <| .dn (.f 9 (.add 7 8)) <|
  .dn (.f 10 (.mul 0 0)) <| .dn (.f 11 (.mul 1 1)) <| .dn (.f 12 (.sub 10 11)) <| .dn (.f 13 (.mul 0 1)) <| .dn (.f 14 (.mul 1 0)) <| .dn (.f 15 (.add 13 14)) <|
  .dn (.f 16 (.mul 0 12)) <| .dn (.f 17 (.mul 1 15)) <| .dn (.f 18 (.sub 16 17)) <| .dn (.f 19 (.mul 0 15)) <| .dn (.f 20 (.mul 1 12)) <| .dn (.f 21 (.add 19 20)) <|
  .dn (.f 22 (.k TW1)) <| .dn (.f 23 (.k TW2)) <| .dn (.f 24 (.add 18 22)) <| .dn (.f 25 (.add 21 23)) <|
  .leaf (.one (.at (.bool (.and (.fe 6 24) (.fe 9 25)))), [])
def tOn2 : Tree Lf := .br (.fz 0) (.br (.fz 1) (.br (.fz 2) (.br (.fz 3) (.leaf (.one (.at (.bool (.c true))), [])) tOn2b) tOn2b) tOn2b) tOn2b
theorem f2mul (a b : F2) : F2.mul a b = (a.1 * b.1 - a.2 * b.2, a.1 * b.2 + a.2 * b.1) := rfl
theorem f2add (a b : F2) : F2.add a b = (a.1 + b.1, a.2 + b.2) := rfl
theorem tOn2b_law {e : Env} {x x' y y' : Fq} (h0 : e.f 0 = x) (h1 : e.f 1 = x') (h2 : e.f 2 = y) (h3 : e.f 3 = y') (hn : ¬ (((x = 0 ∧ x' = 0) ∧ y = 0) ∧ y' = 0)) : tOn2b.goal e fun l => (∀ β, l.1.den β e = .bool (btab 2 [x, x', y, y'])) ∧ l.2 = [] := by
  intro d4 d5 d6 d7 d8 d9 d10 d11 d12 d13 d14 d15 d16 d17 d18 d19 d20 d21 d22 d23 d24 d25
  have d4 : e.f 4 = e.f 2 * e.f 2 := d4
  have d5 : e.f 5 = e.f 3 * e.f 3 := d5
  have d6 : e.f 6 = e.f 4 - e.f 5 := d6
  have d7 : e.f 7 = e.f 2 * e.f 3 := d7
  have d8 : e.f 8 = e.f 3 * e.f 2 := d8
  have d9 : e.f 9 = e.f 7 + e.f 8 := d9
  have d10 : e.f 10 = e.f 0 * e.f 0 := d10
  have d11 : e.f 11 = e.f 1 * e.f 1 := d11
  have d12 : e.f 12 = e.f 10 - e.f 11 := d12
  have d13 : e.f 13 = e.f 0 * e.f 1 := d13
  have d14 : e.f 14 = e.f 1 * e.f 0 := d14
  have d15 : e.f 15 = e.f 13 + e.f 14 := d15
  have d16 : e.f 16 = e.f 0 * e.f 12 := d16
  have d17 : e.f 17 = e.f 1 * e.f 15 := d17
  have d18 : e.f 18 = e.f 16 - e.f 17 := d18
  have d19 : e.f 19 = e.f 0 * e.f 15 := d19
  have d20 : e.f 20 = e.f 1 * e.f 12 := d20
  have d21 : e.f 21 = e.f 19 + e.f 20 := d21
  have d22 : e.f 22 = F TW1 := d22
  have d23 : e.f 23 = F TW2 := d23
  have d24 : e.f 24 = e.f 18 + e.f 22 := d24
  have d25 : e.f 25 = e.f 21 + e.f 23 := d25
  refine ⟨fun β => ?_, rfl⟩
  rw [btab2]
  show Value.bool (decide (e.f 6 = e.f 24) && decide (e.f 9 = e.f 25)) = _
  congr 1
  rw [← Bool.decide_and, decide_eq_decide]
  unfold On2P
  rw [tw_val, d6, d9, d24, d25, d4, d5, d7, d8, d18, d21, d16, d17, d19, d20, d12, d15, d10, d11, d13, d14, d22, d23, h0, h1, h2, h3, f2mul, f2mul, f2mul, f2add, Prod.mk.injEq]
  exact ⟨.inr, fun h => h.resolve_left hn⟩
theorem tOn2_law {e : Env} {x x' y y' : Fq} (h0 : e.f 0 = x) (h1 : e.f 1 = x') (h2 : e.f 2 = y) (h3 : e.f 3 = y') : tOn2.goal e fun l => (∀ β, l.1.den β e = .bool (btab 2 [x, x', y, y'])) ∧ l.2 = [] := by
  refine ⟨fun g0 => ⟨fun g1 => ⟨fun g2 => ⟨fun g3 => ?_, fun g3 => tOn2b_law h0 h1 h2 h3 fun h => of_decide_eq_false g3 (h3.trans h.2)⟩, fun g2 => tOn2b_law h0 h1 h2 h3 fun h => of_decide_eq_false g2 (h2.trans h.1.2)⟩,
    fun g1 => tOn2b_law h0 h1 h2 h3 fun h => of_decide_eq_false g1 (h1.trans h.1.1.2)⟩, fun g0 => tOn2b_law h0 h1 h2 h3 fun h => of_decide_eq_false g0 (h0.trans h.1.1.1)⟩
  refine ⟨fun β => ?_, rfl⟩
  rw [btab2]
  have hp : On2P x x' y y' := .inl ⟨⟨⟨h0.symm.trans (of_decide_eq_true g0), h1.symm.trans (of_decide_eq_true g1)⟩, h2.symm.trans (of_decide_eq_true g2)⟩, h3.symm.trans (of_decide_eq_true g3)⟩
  rw [decide_eq_true hp]
  rfl
section
variable {P : Program} {qf pf : QSum}
theorem on2_of (hm : P.follows .mixedOrders = true) (hnum : NumOk P) (hq : QOk P qf) (hp : POk P pf) {f : FuncId} (h : sxCall P qf pf 5000 f [.one (.agg (eps 0 ++ eps 1 ++ eps 2 ++ eps 3))] (hp0 [] 0 4) leafE = some tOn2) : On2C P f := fun x x' y y' w => by
  have key := quiet_els (fs := fsOf [x, x', y, y']) (u := .bool (btab 2 [x, x', y, y'])) hm hnum hq hp h (by decide +kernel) rfl rfl (fun e he => tOn2_law (he 0 (by omega)) (he 1 (by omega)) (he 2 (by omega)) (he 3 (by omega))) (vs := [elsV [x, x', y, y']]) rfl w
  exact key
end
/-! ### FnG2Equal -/
def same4 : BE := .and (.and (.fe 0 4) (.fe 1 5)) (.and (.fe 2 6) (.fe 3 7))
def tEqual2 : Tree Lf :=
  .br (.fn 2 [0, 1, 2, 3]) (.br (.fn 2 [4, 5, 6, 7]) (.br (.fe 0 4) (.br (.fe 1 5) (.br (.fe 2 6)
    (lfB (.or (.and (.fe 3 7) same4) (.and (.not (.fe 3 7)) (.not same4))))
    (lfB (.not same4))) (lfB (.not same4))) (lfB (.not same4))) lfT) lfT
theorem equal2_law (e : Env) : tEqual2.goal e (IsTrue e) := by
  refine ⟨fun _ => ⟨fun _ => ⟨fun h0 => ⟨fun h1 => ⟨fun h2 => lfB_goal ?_, fun h => lfB_goal ?_⟩, fun h => lfB_goal ?_⟩, fun h => lfB_goal ?_⟩, fun _ => lfT_goal⟩, fun _ => lfT_goal⟩
  · simp only [BE.den, same4] at h0 h1 h2 ⊢
    rw [h0, h1, h2]
    cases decide (e.f 3 = e.f 7) <;> rfl
  · simp only [BE.den, same4] at h ⊢
    rw [h]
    cases decide (e.f 0 = e.f 4) <;> cases decide (e.f 1 = e.f 5) <;> rfl
  · simp only [BE.den, same4] at h ⊢
    rw [h]
    cases decide (e.f 0 = e.f 4) <;> rfl
  · simp only [BE.den, same4] at h ⊢
    rw [h]
    rfl
end Go.Sx
