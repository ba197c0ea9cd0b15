import Derived.Test.YtolmolkcjoibiaaDoorSk
import Derived.Test.YtolmolkcjoibiaaDoorSxb
/- Aids to the claim: what is shown here is said at each theorem. -/
namespace Go.Sx
open Go Go.ChangeShapes Go.WideShapes Go.ChangeAt Go.RowKit
set_option maxRecDepth 100000
section
variable {H : Type} {enc : TypeId × Value → H} {P : Program}
/-- The contract that the statement's form asks for, where the law's call is known to be quiet at this world. -/
theorem law_contractW (hnum : NumOk P) {f : FuncId} {fn : Func} {body : Code} (hfn : P.funcs[f]? = some fn) (hb : fn.body = some body) {kss : List (List IntKind)} {s : ChangeSpec} {bt : TypeId}
    (hk : fn.params.toList.map (flatT P 8) = kss.map some) (ha : (fn.params.toList.all (aggT P)) = true) (hrt : fn.resultTypes = #[bt]) (hbt : P.underlying bt = some .bool)
    (hvar : ∀ n ∈ s.vars, ∀ g t, P.globalNamed n = some g → (P.globals[g]?).map (·.type) = some t → ∃ ms, P.underlying t = some (.interface ms))
    (hspec : ∀ ds gs : List (DataW H), ds.length = fn.params.toList.length → gs.length = s.vars.length → s.fn H (ds ++ gs) = { results := [.lit (.bool true)], args := ds, vars := gs })
    (W : World) (hlaw : ∀ vss, FitsAll kss vss → QuietRun P (callFunc f (vss.map fun vs => Value.agg vs.toArray).toArray) (.bool true) W)
    {apart fresh handsOn : Bool} (base : Nat) (args : Array Value) (ds gs : List (DataW H)) (before : List MemPlace)
    (hval : ∀ (j : Nat) t v, fn.params[j]? = some t → args[j]? = some v → Value.okWide P W .any base t v) (hW : DataW.Whole enc P fn.params.toList s.vars apart W args.toList ds gs before) :
    Calls P f args W fun e W' => ∃ v, e = .returned v ∧ s.post enc P fn apart fresh handsOn false W args v W' := by
  have hW' := hW
  obtain ⟨p, q, hA, hV, rfl, hfz, hnd⟩ := hW
  obtain ⟨g1, g2, ⟨vss, g3, g4⟩, g5⟩ := trodAll_flat hA hk ha (fun j t v hj hv => hval j t v (by simpa using hj) (by simpa using hv))
  subst g1
  have hargs : args = (vss.map fun vs => Value.agg vs.toArray).toArray := by
    rw [← g3]
  have := hlaw vss g4
  rw [← hargs] at this
  unfold QuietRun at this
  rw [run_enter hnum hfn hb] at this
  refine this.mono fun e W' ⟨he, hg⟩ => ⟨_, he, ?_⟩
  have hgs : gs.length = s.vars.length := (trodVars_grow (Grow.refl W) (s1 := fun _ => true) hvar hV).1
  obtain ⟨_, pv, hpv⟩ := trodVars_grow hg (s1 := fun b => decide (b < W.heap.size)) hvar hV
  have hsp := hspec ds gs g2 hgs
  refine ⟨ds, gs, _, [], [], pv, hW', ?_, ?_, ?_, kept_of_grow hg _, fun h => by cases h⟩
  · rw [hsp, hrt]
    exact trodAll_mk1 (shut_bool hbt true)
  · rw [hsp]
    exact g5 _ _ _ _
  · rw [hsp]
    exact hpv
end
end Go.Sx
namespace Go.Sx
open Go Go.ChangeShapes Go.WideShapes Go.ChangeAt Go.RowKit
set_option maxRecDepth 100000
/-! ### A law of 32 bytes, at a world whose first variable holds an error -/
def ErrAt (w : World) (ty : TypeId) : Prop := ∃ pe : Addr, CellsAt w ⟨0, 0, none⟩ [.iface ty (.pointer (some pe))] ∧ pe.spot = none ∧ pe.block < w.heap.size
section
variable {P : Program} {qf pf : QSum} (hm : P.follows .mixedOrders = true) (hnum : NumOk P) (hq : QOk P qf) (hp : POk P pf) {f : FuncId}
include hm hnum hq hp
theorem law_by {t : Tree Lf} {ty : TypeId} (h : sxCall P qf pf 5000 f [.one (.agg by32)] (hp0 (gl8 [] ty) 32 0) leafE = some t) (hbd : t.bd 32 0 0 = true) {w : World} (hw : ErrAt w ty) {g : Nat → Fq} (hg : ∀ j, j < 32 → (g j).val < 256)
    (law : ∀ e, Bys e g → t.goal e fun l => (∀ β, l.1.den β e = .bool true) ∧ l.2 = []) : QuietRun P (callFunc f #[.agg (byV g).toArray]) (.bool true) w := by
  obtain ⟨pe, hge, hps, hpb⟩ := hw
  have hgb : (0 : Nat) < w.heap.size := cell_block hge
  let ext : Nat → Addr := fun j => if j = 6 then pe else ⟨0, 0, none⟩
  have hby : ∀ e', AgreeE 32 0 0 (byEnv g ext) e' → Bys e' g := fun e' ha j hj => ⟨ha.i j hj, hg j hj⟩
  have hargs : ∀ e', AgreeE 32 0 0 (byEnv g ext) e' → [SV.one (.agg by32)].map (SV.den (fun _ => 0) e') = [.agg (byV g).toArray] := fun e' ha => by
    show [Value.agg (by32.map (Atom.den (fun _ => 0) e')).toArray] = _
    rw [by32_den fun j hj => (hby e' ha j hj).1]
  have key := fn_of_tree hm hnum hq hp h hbd (w := w) (e := byEnv g ext) (β := fun _ => 0)
    (fun e' ha => by
      have hx1 : e'.ext = ext := ha.ext
      refine hp0_relG (fun j c hj => ?_) rfl (fun k c hk => ?_)
      · rw [hx1]
        match j, hj with
        | 0, hj => cases hj; exact ⟨hgb, ⟨rfl, fun i v hi => by simp at hi⟩, fun a ha => by cases ha⟩
        | 1, hj => cases hj; exact ⟨hgb, ⟨rfl, fun i v hi => by simp at hi⟩, fun a ha => by cases ha⟩
        | 2, hj => cases hj; exact ⟨hgb, ⟨rfl, fun i v hi => by simp at hi⟩, fun a ha => by cases ha⟩
        | 3, hj => cases hj; exact ⟨hgb, ⟨rfl, fun i v hi => by simp at hi⟩, fun a ha => by cases ha⟩
        | 4, hj => cases hj; exact ⟨hgb, ⟨rfl, fun i v hi => by simp at hi⟩, fun a ha => by cases ha⟩
        | 5, hj => cases hj; exact ⟨hgb, ⟨rfl, fun i v hi => by simp at hi⟩, fun a ha => by cases ha⟩
        | 6, hj => cases hj; exact ⟨hpb, ⟨hps, fun i v hi => by simp at hi⟩, fun a ha => by cases ha⟩
        | 7, hj =>
          cases hj
          refine ⟨hgb, ?_, fun a ha => ?_⟩
          · have : ([Atom.iface ty (.ptr ⟨.ext 6, 0⟩)].map (Atom.den (fun _ => 0) e')) = [.iface ty (.pointer (some pe))] := by
              show [Value.iface ty (.pointer (some ⟨(e'.ext 6).block, (e'.ext 6).off + 0, none⟩))] = _
              rw [hx1]
              show [Value.iface ty (.pointer (some ⟨pe.block, pe.off + 0, none⟩))] = _
              obtain ⟨b, o, s⟩ := pe
              simp only at hps
              subst hps
              rfl
            rw [this]
            exact hge
          · cases List.mem_singleton.1 ha
            trivial
        | j + 8, hj => simp [gl8] at hj
      · rw [hx1]
        match k, hk with
        | 0, hk => rfl
        | k + 1, hk => simp [gl8] at hk)
    (fun e' ha s hs => by cases List.mem_singleton.1 hs; exact by32_ok fun j hj => hby e' ha j hj)
    (fun e' ha => by rw [hargs e' ha, hargs _ (AgreeE.refl _ _ _ _)])
    (fun e' l => (∀ β, l.1.den β e' = .bool true) ∧ l.2 = []) (fun e' ha => law e' (hby e' ha))
  rw [hargs _ (AgreeE.refl _ _ _ _)] at key
  unfold QuietRun
  rw [key.1]
  refine key.2.mono fun en w' ⟨v, log, β', e', cnt, g1, g2, g3, g4, g5, g6⟩ => ?_
  obtain ⟨g51, g52⟩ := g5
  simp only at g51 g52
  subst g52
  exact ⟨by rw [g1, g51], g6⟩
end
theorem fits_by {vss : List (List Value)} (h : FitsAll [List.replicate 32 .u8] vss) : ∃ g : Nat → Fq, (∀ j, j < 32 → (g j).val < 256) ∧ vss = [byV g] := by
  obtain ⟨ls, h1, h2, h3⟩ := h.ints
  obtain ⟨l, rfl⟩ : ∃ l, ls = [l] := by
    match ls, h1 with
    | [l], _ => exact ⟨l, rfl⟩
    | [], h1 => simp at h1
    | _ :: _ :: _, h1 => simp at h1
  · have hl : l.length = 32 := by simpa using h1
    have hr : ∀ j, j < 32 → 0 ≤ l.getD j 0 ∧ l.getD j 0 < 256 := fun j hj => by
      have := h3 j .u8 (by rw [List.flatten_cons, List.flatten_nil, List.append_nil, List.getElem?_replicate, if_pos hj])
      simp only [inR, IntKind.min, IntKind.max, IntKind.bits, IntKind.signed, List.flatten_cons, List.flatten_nil, List.append_nil] at this
      simp only [Bool.false_eq_true, if_false] at this
      have h8 : (2 : Int) ^ 8 = 256 := rfl
      omega
    have hv : ∀ j, j < 32 → ((Fin.ofNat q (l.getD j 0).toNat).val : Int) = l.getD j 0 ∧ (Fin.ofNat q (l.getD j 0).toNat).val < 256 := fun j hj => by
      have h := hr j hj
      have h2 : (Fin.ofNat q (l.getD j 0).toNat).val = (l.getD j 0).toNat := Nat.mod_eq_of_lt (by unfold q; omega)
      rw [h2]
      omega
    refine ⟨fun j => Fin.ofNat q (l.getD j 0).toNat, fun j hj => (hv j hj).2, ?_⟩
    rw [h2]
    show [List.zipWith Value.int (List.replicate 32 .u8) l] = _
    congr 1
    refine List.ext_getElem? fun i => ?_
    rw [byV, List.getElem?_map, List.getElem?_zipWith]
    rcases Nat.lt_or_ge i 32 with hi | hi
    · rw [List.getElem?_range hi, List.getElem?_replicate, if_pos hi, List.getElem?_eq_getElem (by omega : i < l.length)]
      have := (hv i hi).1
      rw [List.getD_eq_getElem?_getD, List.getElem?_eq_getElem (by omega : i < l.length), Option.getD_some] at this
      show some (Value.int .u8 l[i]) = some (Value.int .u8 _)
      rw [List.getD_eq_getElem?_getD, List.getElem?_eq_getElem (by omega : i < l.length), Option.getD_some, this]
    · rw [List.getElem?_eq_none (l := List.replicate 32 IntKind.u8) (by rw [List.length_replicate]; exact hi), List.getElem?_eq_none (l := List.range 32) (by rw [List.length_range]; exact hi)]
      rfl
end Go.Sx
