import Derived.Test.YtolmolkcjoibiaaDoorSj
/- Aids to the claim: what is shown here is said at each theorem. -/
namespace Go.Sx
open Go
/-- The walk of such a region. -/
theorem piece_two {P : Program} {qf pf : QSum} (hm : P.follows .mixedOrders = true) (hnum : NumOk P) (hq : QOk P qf) (hp : POk P pf) {g : Bool} {id : Nat} {ops : Array Oper} {i j : Nat} {l' : List Nat} (hB : twoB g ops i j l' = true) {p : Pat} {pp : Xt → Pat} {t t' : Tree VL} {cf : FuncId → List SV → Hp → (SV → Hp → Option (Tree VL)) → Option (Tree VL)}
    (hcf : ∀ w0 e Φ, CallOk P w0 e Φ cf)
    (hsx : sxOps P qf pf cf g ops.toList ops.toList p.st (fun st => kM pp .normal st) = some t) (hsx' : sxOps P qf pf cf g ops.toList (l'.filterMap fun i => ops[i]?) p.st (fun st => kM pp .normal st) = some t')
    (hs : p.self) (hbd : t.bd p.ni 0 0 = true) (hbd' : t'.bd p.ni 0 0 = true) {w0 : World} {x0 : Nat → Addr} {vals : Nat → Int} {a : Act} {w : World} (hat : At w0 x0 p vals a w) {Φ : Xt → (Nat → Int) → Prop}
    (law : ∀ e, AgreeE p.ni 0 0 (envOf vals x0) e → t.goal e fun l => Φ l.1 (VL.vals l e)) (law' : ∀ e, AgreeE p.ni 0 0 (envOf vals x0) e → t'.goal e fun l => Φ l.1 (VL.vals l e)) {R : Act → World → Prop} {Q : Exit → Act → World → Prop} (hc : Calm Q)
    (hF : ∀ x vals', Φ x vals' → Facts (envOf vals' x0) (pp x).facts) (hQ : ∀ vals' a' w', Φ .normal vals' → At w0 x0 (pp .normal) vals' a' w' → R a' w') : nest P [.region id ops true] R Q a w := by
  have one : ∀ (l : List Oper) (t : Tree VL), sxOps P qf pf cf g ops.toList l p.st (fun st => kM pp .normal st) = some t → t.bd p.ni 0 0 = true → (∀ e, AgreeE p.ni 0 0 (envOf vals x0) e → t.goal e fun l => Φ l.1 (VL.vals l e)) →
      wpL P ⟨g, w.heap.size⟩ ops (Exit.then R Q) l (fun _ => False) a { w with drawn := w.drawn + 1 } := fun l t hsx hbd law => by
    obtain ⟨β, hrel⟩ := hat.env hs
    obtain ⟨e', he, hmeet⟩ := t.meet (envOf vals x0) hbd
    have hh := hmeet _ (law e' he)
    have hr := hrel e' he
    have hg : Grow w ({ w with drawn := w.drawn + 1 } : World) := ⟨rfl, rfl, rfl, Nat.le_refl _, fun _ _ => rfl⟩
    have hr' : Rel w0 e' β p.st a { w with drawn := w.drawn + 1 } := ⟨hr.nd, hr.sz, hr.fr, hr.hp.grow hg⟩
    refine sxOps_sound hq hp (hcf w0 e' _) hr.hp.size l hsx hh hr' (fun _ k b hk' => .inl (by obtain ⟨_, _, ⟨_, h3⟩, _⟩ := hr.hp.blk k b hk'; exact (Array.getElem?_eq_some_iff.1 h3).1)) fun β' st' tree' a' w' g1 g2 g3 g4 g5 g6 => ?_
    unfold kM at g4
    split at g4
    · rename_i l hl
      cases g4
      exact hQ _ a' w' g5 (at_of_match hl g6 he.ext (hF .normal _ g5))
    · cases g4
  exact region_two (m := ⟨g, w.heap.size⟩) hm hc.then hB (Nat.le_refl _) (one _ t hsx hbd law) (one _ t' hsx' hbd' law')
end Go.Sx
