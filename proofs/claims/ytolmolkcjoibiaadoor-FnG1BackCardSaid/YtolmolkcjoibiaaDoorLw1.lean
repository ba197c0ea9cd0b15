import Derived.Test.YtolmolkcjoibiaaDoorSk
/- Aids to the claim: what is shown here is said at each theorem. -/
namespace Go.Sx
open Go
set_option maxRecDepth 100000
/-! ### The first curve's test -/
def on1B : List (List Nat) → Option BE
  | [[i, j]] => some (.fn 1 [i, j])
  | _ => none
def On1C (P : Program) (f : FuncId) : Prop := ∀ (x y : Fq) (w : World), QuietRun P (callFunc f #[elsV [x, y]]) (.bool (btab 1 [x, y])) w
theorem on1_q {P : Program} {fn : FuncId} (hc : On1C P fn) : QOk P (tsF fn on1B) :=
  tsF_q fun is b h e w => by
    unfold on1B at h
    split at h
    · cases h; exact hc _ _ w
    · cases h
def tOn1b : Tree Lf :=
  .dn (.f 2 (.mul 1 1)) <| .dn (.f 3 (.mul 0 0)) <| .dn (.f 4 (.mul 0 3)) <| .dn (.f 5 (.k 3)) <| .dn (.f 6 (.add 4 5)) <| .leaf (.one (.at (.bool (.fe 2 6))), [])
def tOn1 : Tree Lf := .br (.fz 0) (.br (.fz 1) (.leaf (.one (.at (.bool (.c true))), [])) tOn1b) tOn1b
theorem tOn1b_law {e : Env} {x y : Fq} (hx : e.f 0 = x) (hy : e.f 1 = y) (hn : ¬ (x = 0 ∧ y = 0)) : tOn1b.goal e fun l => (∀ β, l.1.den β e = .bool (btab 1 [x, y])) ∧ l.2 = [] := by
  intro h2 h3 h4 h5 h6
  have h2 : e.f 2 = e.f 1 * e.f 1 := h2
  have h3 : e.f 3 = e.f 0 * e.f 0 := h3
  have h4 : e.f 4 = e.f 0 * e.f 3 := h4
  have h5 : e.f 5 = 3 := h5
  have h6 : e.f 6 = e.f 4 + e.f 5 := h6
  rw [h4, h3, h5, hx] at h6
  rw [hy] at h2
  refine ⟨fun β => ?_, rfl⟩
  show Value.bool (decide (e.f 2 = e.f 6)) = .bool (decide ((x = 0 ∧ y = 0) ∨ y * y = x * (x * x) + 3))
  congr 1
  rw [decide_eq_decide, h2, h6]
  exact ⟨.inr, fun h => h.resolve_left hn⟩
theorem tOn1_law {e : Env} {x y : Fq} (hx : e.f 0 = x) (hy : e.f 1 = y) : tOn1.goal e fun l => (∀ β, l.1.den β e = .bool (btab 1 [x, y])) ∧ l.2 = [] := by
  refine ⟨fun h0 => ⟨fun h1 => ?_, fun h1 => ?_⟩, fun h0 => ?_⟩
  · have h0 : e.f 0 = 0 := of_decide_eq_true h0
    have h1 : e.f 1 = 0 := of_decide_eq_true h1
    refine ⟨fun β => ?_, rfl⟩
    show Value.bool true = .bool (decide ((x = 0 ∧ y = 0) ∨ y * y = x * (x * x) + 3))
    rw [decide_eq_true]
    exact .inl ⟨by rw [← hx]; exact h0, by rw [← hy]; exact h1⟩
  · have h1 : ¬ e.f 1 = 0 := of_decide_eq_false h1
    exact tOn1b_law hx hy fun h => h1 (by rw [hy]; exact h.2)
  · have h0 : ¬ e.f 0 = 0 := of_decide_eq_false h0
    exact tOn1b_law hx hy fun h => h0 (by rw [hx]; exact h.1)
section
variable {P : Program} {qf pf : QSum}
theorem on1_of (hm : P.follows .mixedOrders = true) (hnum : NumOk P) (hq : QOk P qf) (hp : POk P pf) {f : FuncId} (h : sxCall P qf pf 5000 f [.one (.agg (eps 0 ++ eps 1))] (hp0 [] 0 2) leafE = some tOn1) : On1C P f := fun x y w =>
  quiet_els (fs := fun k => if k = 0 then x else y) hm hnum hq hp h (by decide) rfl rfl (fun e he => tOn1_law (he 0 (by omega)) (he 1 (by omega))) rfl w
end

/-! ### FnG1Equal -/
def lfT : Tree Lf := .leaf (.one (.at (.bool (.c true))), [])
def lfB (b : BE) : Tree Lf := .leaf (.one (.at (.bool b)), [])
def tEqual1 : Tree Lf :=
  .br (.fn 1 [0, 1]) (.br (.fn 1 [2, 3]) (.br (.fe 0 2)
    (lfB (.or (.and (.fe 1 3) (.and (.fe 0 2) (.fe 1 3))) (.and (.not (.fe 1 3)) (.not (.and (.fe 0 2) (.fe 1 3))))))
    (lfB (.not (.and (.fe 0 2) (.fe 1 3))))) lfT) lfT
theorem lfT_goal {e : Env} : lfT.goal e (IsTrue e) := ⟨fun _ => rfl, rfl⟩
theorem lfB_goal {e : Env} {b : BE} (h : b.den e = true) : (lfB b).goal e (IsTrue e) := ⟨fun _ => by simp only [SV.den, SV1.den, Atom.den, h], rfl⟩
theorem equal1_law (e : Env) : tEqual1.goal e (IsTrue e) := by
  refine ⟨fun _ => ⟨fun _ => ⟨fun h => lfB_goal ?_, fun h => lfB_goal ?_⟩, fun _ => lfT_goal⟩, fun _ => lfT_goal⟩
  · simp only [BE.den] at h ⊢
    rw [h]
    cases decide (e.f 1 = e.f 3) <;> rfl
  · simp only [BE.den] at h ⊢
    rw [h]
    rfl

/-! ### FnG1OnCurve -/
def tCur1b : Tree Lf :=
  .dn (.f 2 (.mul 1 1)) <| .dn (.f 3 (.mul 0 0)) <| .dn (.f 4 (.mul 3 0)) <| .dn (.f 5 (.k 19189087081672452771515617982829712558466570042205295677383279139847420703767)) <|
  .dn (.f 6 (.k 6350874878119819312338956282401532409788428879151445726012394534686998597021)) <| .dn (.f 7 (.mul 5 6)) <| .dn (.f 8 (.add 4 7)) <|
  lfB (.or (.and (.fe 2 8) (.fn 1 [0, 1])) (.and (.not (.fe 2 8)) (.not (.fn 1 [0, 1]))))
def tCur1 : Tree Lf := .br (.fz 0) (.br (.fz 1) lfT tCur1b) tCur1b
theorem cur1b_law {e : Env} (hn : ¬ (e.f 0 = 0 ∧ e.f 1 = 0)) : tCur1b.goal e (IsTrue e) := by
  intro h2 h3 h4 h5 h6 h7 h8
  have h2 : e.f 2 = e.f 1 * e.f 1 := h2
  have h3 : e.f 3 = e.f 0 * e.f 0 := h3
  have h4 : e.f 4 = e.f 3 * e.f 0 := h4
  have h5 : e.f 5 = F 19189087081672452771515617982829712558466570042205295677383279139847420703767 := h5
  have h6 : e.f 6 = F 6350874878119819312338956282401532409788428879151445726012394534686998597021 := h6
  have h7 : e.f 7 = e.f 5 * e.f 6 := h7
  have h8 : e.f 8 = e.f 4 + e.f 7 := h8
  have h3' : e.f 7 = 3 := by rw [h7, h5, h6]; decide +kernel
  refine lfB_goal ?_
  simp only [BE.den, btab, List.map_cons, List.map_nil]
  have key : decide (e.f 2 = e.f 8) = decide ((e.f 0 = 0 ∧ e.f 1 = 0) ∨ e.f 1 * e.f 1 = e.f 0 * (e.f 0 * e.f 0) + 3) := by
    rw [decide_eq_decide, h2, h8, h4, h3, h3']
    have hc : e.f 0 * e.f 0 * e.f 0 = e.f 0 * (e.f 0 * e.f 0) := by grind
    rw [hc]
    exact ⟨.inr, fun h => h.resolve_left hn⟩
  rw [key]
  cases decide ((e.f 0 = 0 ∧ e.f 1 = 0) ∨ e.f 1 * e.f 1 = e.f 0 * (e.f 0 * e.f 0) + 3) <;> rfl
theorem cur1_law (e : Env) : tCur1.goal e (IsTrue e) := by
  refine ⟨fun h0 => ⟨fun h1 => lfT_goal, fun h1 => cur1b_law fun h => ?_⟩, fun h0 => cur1b_law fun h => ?_⟩
  · exact of_decide_eq_false h1 h.2
  · exact of_decide_eq_false h0 h.1
end Go.Sx
