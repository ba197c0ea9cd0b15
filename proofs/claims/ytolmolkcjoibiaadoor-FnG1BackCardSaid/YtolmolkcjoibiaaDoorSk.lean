import Derived.Test.YtolmolkcjoibiaaDoorFlt
import Derived.Test.YtolmolkcjoibiaaDoorElq
/- Aids to the claim: what is shown here is said at each theorem. -/
namespace Go.Sx
open Go Go.ChangeShapes Go.WideShapes Go.ChangeAt Go.RowKit
set_option maxRecDepth 100000
/-! ### A law's arguments -/
def atomsFrom : Nat → List IntKind → List Atom
  | _, [] => []
  | o, k :: ks => .int k (.v o) :: atomsFrom (o + 1) ks
def argSVs : Nat → List (List IntKind) → List SV
  | _, [] => []
  | o, ks :: kss => .one (.agg (atomsFrom o ks)) :: argSVs (o + ks.length) kss
def FitsAll : List (List IntKind) → List (List Value) → Prop
  | [], [] => True
  | ks :: kss, vs :: vss => Fits ks vs ∧ FitsAll kss vss
  | _, _ => False
theorem Fits.ints : ∀ {ks : List IntKind} {vs : List Value}, Fits ks vs → ∃ l : List Int, l.length = ks.length ∧ vs = List.zipWith Value.int ks l ∧ ∀ (j : Nat) (k : IntKind), ks[j]? = some k → inR k (l.getD j 0)
  | [], [], _ => ⟨[], rfl, rfl, by simp⟩
  | [], _ :: _, h => h.elim
  | _ :: _, [], h => h.elim
  | k :: ks, v :: vs, ⟨⟨n, hv, hn⟩, h⟩ => by
    obtain ⟨l, h1, h2, h3⟩ := h.ints
    refine ⟨n :: l, by simp [h1], by rw [hv, h2]; rfl, fun j k' hj => ?_⟩
    cases j with
    | zero => simp at hj; subst hj; exact hn
    | succ j => simpa using h3 j k' (by simpa using hj)
theorem FitsAll.ints : ∀ {kss : List (List IntKind)} {vss : List (List Value)}, FitsAll kss vss → ∃ ls : List (List Int), ls.map List.length = kss.map List.length ∧ vss = List.zipWith (List.zipWith Value.int) kss ls ∧
    ∀ (j : Nat) (k : IntKind), kss.flatten[j]? = some k → inR k (ls.flatten.getD j 0)
  | [], [], _ => ⟨[], rfl, rfl, by simp⟩
  | [], _ :: _, h => h.elim
  | _ :: _, [], h => h.elim
  | ks :: kss, vs :: vss, ⟨h1, h2⟩ => by
    obtain ⟨l, a1, a2, a3⟩ := h1.ints
    obtain ⟨ls, b1, b2, b3⟩ := h2.ints
    refine ⟨l :: ls, by simp [a1, b1], by rw [a2, b2]; rfl, fun j k hj => ?_⟩
    rw [List.flatten_cons] at hj ⊢
    rw [List.getD_eq_getElem?_getD]
    rcases Nat.lt_or_ge j ks.length with h | h
    · rw [List.getElem?_append_left h] at hj
      rw [List.getElem?_append_left (by omega)]
      have := a3 j k hj
      rwa [List.getD_eq_getElem?_getD] at this
    · rw [List.getElem?_append_right h] at hj
      rw [List.getElem?_append_right (by omega), a1]
      have := b3 _ k hj
      rwa [List.getD_eq_getElem?_getD] at this
theorem atomsFrom_den {β : Nat → Nat} {e : Env} : ∀ {ks : List IntKind} {l : List Int} {o : Nat}, l.length = ks.length → (∀ j, j < ks.length → e.i (o + j) = l.getD j 0) → (atomsFrom o ks).map (Atom.den β e) = List.zipWith Value.int ks l
  | [], [], _, _, _ => rfl
  | [], _ :: _, _, h, _ => by simp at h
  | _ :: _, [], _, h, _ => by simp at h
  | k :: ks, n :: l, o, h, he => by
    have h0 := he 0 (by simp)
    rw [Nat.add_zero] at h0
    rw [atomsFrom, List.map_cons, List.zipWith_cons_cons, atomsFrom_den (l := l) (by simpa using h) fun j hj => by
      have := he (j + 1) (by simpa using hj)
      rw [show o + 1 + j = o + (j + 1) by omega, this]
      simp]
    simp only [Atom.den, IE.den, h0, List.getD_cons_zero]
theorem argSVs_den {β : Nat → Nat} {e : Env} : ∀ {kss : List (List IntKind)} {ls : List (List Int)} {o : Nat}, ls.map List.length = kss.map List.length → (∀ j, j < kss.flatten.length → e.i (o + j) = ls.flatten.getD j 0) →
    (argSVs o kss).map (SV.den β e) = (List.zipWith (List.zipWith Value.int) kss ls).map fun vs => .agg vs.toArray
  | [], [], _, _, _ => rfl
  | [], _ :: _, _, h, _ => by simp at h
  | _ :: _, [], _, h, _ => by simp at h
  | ks :: kss, l :: ls, o, h, he => by
    simp only [List.map_cons, List.cons.injEq] at h
    obtain ⟨h1, h2⟩ := h
    rw [argSVs, List.map_cons, List.zipWith_cons_cons, List.map_cons]
    congr 1
    · simp only [SV.den, SV1.den]
      rw [atomsFrom_den (β := β) h1 fun j hj => by
        rw [he j (by rw [List.flatten_cons, List.length_append]; omega), List.getD_eq_getElem?_getD, List.flatten_cons, List.getElem?_append_left (by omega), ← List.getD_eq_getElem?_getD]]
    · refine argSVs_den h2 fun j hj => ?_
      rw [Nat.add_assoc, he (ks.length + j) (by rw [List.flatten_cons, List.length_append]; omega), List.getD_eq_getElem?_getD, List.flatten_cons, List.getElem?_append_right (by omega), h1, Nat.add_sub_cancel_left, ← List.getD_eq_getElem?_getD]
theorem atomsFrom_ok {e : Env} {n : Nat} : ∀ {ks : List IntKind} {o : Nat}, (∀ (j : Nat) (k : IntKind), ks[j]? = some k → inR k (e.i (o + j))) → ∀ a ∈ atomsFrom o ks, a.ok n e
  | [], _, _, a, ha => by cases ha
  | k :: ks, o, h, a, ha => by
    rcases List.mem_cons.1 ha with ha | ha
    · subst ha
      have := h 0 k rfl
      rwa [Nat.add_zero] at this
    · exact atomsFrom_ok (ks := ks) (o := o + 1) (fun j k hj => by
        have := h (j + 1) k (by simpa using hj)
        rwa [show o + (j + 1) = o + 1 + j by omega] at this) a ha
theorem argSVs_ok {e : Env} {n : Nat} : ∀ {kss : List (List IntKind)} {o : Nat}, (∀ (j : Nat) (k : IntKind), kss.flatten[j]? = some k → inR k (e.i (o + j))) → ∀ s ∈ argSVs o kss, s.ok n e
  | [], _, _, s, hs => by cases hs
  | ks :: kss, o, h, s, hs => by
    rcases List.mem_cons.1 hs with hs | hs
    · subst hs
      exact atomsFrom_ok fun j k hj => h j k (by rw [List.flatten_cons, List.getElem?_append_left (List.getElem?_eq_some_iff.1 hj).1]; exact hj)
    · exact argSVs_ok (kss := kss) (o := o + ks.length) (fun j k hj => by
        have := h (ks.length + j) k (by rw [List.flatten_cons, List.getElem?_append_right (by omega), Nat.add_sub_cancel_left]; exact hj)
        rwa [← Nat.add_assoc] at this) s hs

section
variable {P : Program} {qf pf : QSum}
/-- A law whose tree ends in true. -/
theorem law_quiet (hm : P.follows .mixedOrders = true) (hnum : NumOk P) (hq : QOk P qf) (hp : POk P pf) {n : Nat} {f : FuncId} {kss : List (List IntKind)} {t : Tree Lf}
    (h : sxCall P qf pf n f (argSVs 0 kss) (hp0 [] kss.flatten.length 0) leafE = some t) (hbd : t.bd kss.flatten.length 0 0 = true)
    (law : ∀ e, (∀ (j : Nat) (k : IntKind), kss.flatten[j]? = some k → inR k (e.i j)) → t.goal e fun l => (∀ β, l.1.den β e = .bool true) ∧ l.2 = []) (vss : List (List Value)) (hv : FitsAll kss vss) (w : World) :
    QuietRun P (callFunc f (vss.map fun vs => .agg vs.toArray).toArray) (.bool true) w := by
  obtain ⟨ls, h1, h2, h3⟩ := hv.ints
  let e : Env := { i := fun j => ls.flatten.getD j 0, b := fun _ => false, f := fun _ => 0, ext := fun _ => ⟨0, 0, none⟩ }
  have hlt : ∀ (j : Nat) (k : IntKind), kss.flatten[j]? = some k → j < kss.flatten.length := fun j k hj => (List.getElem?_eq_some_iff.1 hj).1
  have hin : ∀ e', AgreeE kss.flatten.length 0 0 e e' → ∀ (j : Nat) (k : IntKind), kss.flatten[j]? = some k → inR k (e'.i j) := fun e' ha j k hj => by
    rw [ha.i j (hlt j k hj)]; exact h3 j k hj
  have hargs : ∀ e', AgreeE kss.flatten.length 0 0 e e' → (argSVs 0 kss).map (SV.den (fun _ => 0) e') = vss.map fun vs => .agg vs.toArray := fun e' ha => by
    rw [h2]
    exact argSVs_den h1 fun j hj => by rw [Nat.zero_add, ha.i j hj]
  have := quiet_of_tree (e := e) (β := fun _ => 0) hm hnum hq hp h hbd rfl
    (fun w e' ha => hp0_rel (fun j c hj => by simp at hj) (fun c hc => by simp at hc) (fun j c c0 _ hj => by simp at hj))
    (fun e' ha => argSVs_ok fun j k hj => by rw [Nat.zero_add]; exact hin e' ha j k hj)
    (fun e' ha => by rw [hargs e' ha, hargs e (AgreeE.refl _ _ _ _)])
    (fun e' ha => law e' (hin e' ha)) w
  rw [hargs e (AgreeE.refl _ _ _ _)] at this
  exact this
end

/-! ### The statement's form -/
section
variable {H : Type} {enc : TypeId × Value → H} {P : Program}
/-- An agregate by its type. -/
def aggT (P : Program) (t : TypeId) : Bool :=
  match P.underlying t with
  | some (.struct _) | some (.array _ _) => true
  | _ => false
theorem okWide_agg {r : Reach} {b : Nat} {w : World} {t : TypeId} {v : Value} (h : aggT P t = true) (hv : Value.okWide P w r b t v) : ∃ cs : Array Value, v = .agg cs := by
  unfold aggT at h
  split at h
  · rename_i fs hu
    obtain ⟨cs, rfl, _⟩ := okWide_struct hu hv
    exact ⟨cs, rfl⟩
  · rename_i n e hu
    simp only [Value.okWide, hu] at hv
    obtain ⟨cs, h1, _⟩ := hv
    exact ⟨cs, h1⟩
  · cases h
theorem trodAll_flat {W : World} {b0 : Nat} {s0 : Nat → Bool} {h0 : Bool} {base : Nat} {r : Reach} : ∀ {ts : List TypeId} {vs : List Value} {ds : List (DataW H)} {ps : List MemPlace} {kss : List (List IntKind)},
    DataW.TrodAll enc P W b0 s0 h0 ts vs ds ps → ts.map (flatT P 8) = kss.map some → (ts.all (aggT P)) = true → (∀ (j : Nat) t v, ts[j]? = some t → vs[j]? = some v → Value.okWide P W r base t v) →
    ps = [] ∧ ds.length = ts.length ∧ (∃ vss, vs = vss.map (fun vs => .agg vs.toArray) ∧ FitsAll kss vss) ∧ ∀ w b sp hd, DataW.TrodAll enc P w b sp hd ts vs ds []
  | [], [], [], ps, kss, h, hk, _, _ => by
    have : kss = [] := by simpa using hk.symm
    subst this
    have hps : ps = [] := h
    exact ⟨hps, rfl, ⟨[], rfl, trivial⟩, fun _ _ _ _ => rfl⟩
  | t :: ts, v :: vs, d :: ds, ps, kss, h, hk, ha, hval => by
    obtain ⟨p, q, ⟨fuel, h1⟩, h2, rfl⟩ := h
    cases kss with
    | nil => simp at hk
    | cons ks kss =>
      simp only [List.map_cons, List.cons.injEq] at hk
      simp only [List.all_cons, Bool.and_eq_true] at ha
      obtain ⟨g1, g2, g3⟩ := flatT_spec 8 fuel hk.1 h1
      obtain ⟨k1, k2, ⟨vss, k3, k4⟩, k5⟩ := trodAll_flat h2 hk.2 ha.2 fun j t v hj hv => hval (j + 1) t v (by simpa using hj) (by simpa using hv)
      obtain ⟨cs, rfl⟩ := okWide_agg ha.1 (hval 0 t v rfl rfl)
      simp only at g1
      subst g1; subst k1
      refine ⟨rfl, by simp [k2], ⟨cs.toList :: vss, by rw [k3]; simp, g2, k4⟩, fun w b sp hd => ⟨[], [], ⟨fuel, g3 w b sp hd⟩, k5 w b sp hd, rfl⟩⟩
  | [], _ :: _, _, _, _, h, _, _, _ => h.elim
  | [], [], _ :: _, _, _, h, _, _, _ => h.elim
  | _ :: _, [], _, _, _, h, _, _, _ => by cases h
  | _ :: _, _ :: _, [], _, _, h, _, _, _ => by cases h
theorem kept_of_grow {W W' : World} (h : Grow W W') (may : MemPlace → Prop) : W.keptBut W' may := by
  refine ⟨h.os, h.output, fun i hi => ?_⟩
  rw [h.same i hi]
  cases W.heap[i]? with
  | none => trivial
  | some o =>
    cases o with
    | cells c t fr => exact ⟨rfl, rfl, rfl, fun _ _ => rfl⟩
    | map es clock => exact .inr ⟨rfl, rfl⟩
    | _ => rfl
theorem var_grow {W W' : World} (h : Grow W W') {n : String} {cs : Array Value} (hv : W.var? P n = some cs) : W'.var? P n = some cs := by
  unfold World.var? at hv ⊢
  cases hg : P.globalNamed n with
  | none => rw [hg] at hv; cases hv
  | some g =>
    rw [hg] at hv
    simp only [Option.bind_some] at hv ⊢
    have hlt : g < W.heap.size := by
      rcases Nat.lt_or_ge g W.heap.size with h | h
      · exact h
      · rw [Array.getElem?_eq_none h] at hv; cases hv
    rw [h.same g hlt]
    exact hv
/-- Variables of an interface's type, read again. -/
theorem trodVars_grow {W W' : World} (h : Grow W W') {s0 s1 : Nat → Bool} : ∀ {ns : List String} {gs : List (DataW H)} {ps : List MemPlace},
    (∀ n ∈ ns, ∀ g t, P.globalNamed n = some g → (P.globals[g]?).map (·.type) = some t → ∃ ms, P.underlying t = some (.interface ms)) → DataW.TrodVars enc P W s0 ns gs ps → gs.length = ns.length ∧ ∃ ps', DataW.TrodVars enc P W' s1 ns gs ps'
  | [], [], ps, _, hh => ⟨rfl, [], rfl⟩
  | n :: ns, d :: ds, ps, hi, hh => by
    obtain ⟨g, t, cs, fuel, p, q, h1, h2, h3, h4, h5, h6⟩ := hh
    obtain ⟨k0, ps', k1⟩ := trodVars_grow h (s1 := s1) (fun m hm => hi m (by simp [hm])) h5
    obtain ⟨ms, hu⟩ := hi n (by simp) g t h1 h2
    have key : DataW.trod enc P W' 0 s1 true fuel t cs.toList = some (d, p) := by
      cases fuel with
      | zero => cases h4
      | succ fuel =>
        unfold DataW.trod at h4 ⊢
        rw [hu] at h4 ⊢
        split at h4 <;> (first | (rename_i heq; cases heq; done) | (rename_i heq _; cases heq; done) | skip)
        all_goals first
          | exact h4
          | (rename_i h7 h8; first | (cases h7; done) | (cases h8; done) | exact h4)
          | skip
    exact ⟨by simp [k0], _, g, t, cs, fuel, p, ps', h1, h2, var_grow h h3, key, k1, rfl⟩
  | [], _ :: _, _, _, hh => hh.elim
  | _ :: _, [], _, _, hh => hh.elim
/-- The contract that the statement's form asks for. -/
theorem law_contract (hnum : NumOk P) {f : FuncId} {fn : Func} {body : Code} (hfn : P.funcs[f]? = some fn) (hb : fn.body = some body) {kss : List (List IntKind)} {s : ChangeSpec} {bt : TypeId}
    (hk : fn.params.toList.map (flatT P 8) = kss.map some) (ha : (fn.params.toList.all (aggT P)) = true) (hrt : fn.resultTypes = #[bt]) (hbt : P.underlying bt = some .bool)
    (hvar : ∀ n ∈ s.vars, ∀ g t, P.globalNamed n = some g → (P.globals[g]?).map (·.type) = some t → ∃ ms, P.underlying t = some (.interface ms))
    (hspec : ∀ ds gs : List (DataW H), ds.length = fn.params.toList.length → gs.length = s.vars.length → s.fn H (ds ++ gs) = { results := [.lit (.bool true)], args := ds, vars := gs })
    (hlaw : ∀ vss, FitsAll kss vss → ∀ w, QuietRun P (callFunc f (vss.map fun vs => Value.agg vs.toArray).toArray) (.bool true) w)
    {apart fresh handsOn : Bool} (W : World) (base : Nat) (args : Array Value) (ds gs : List (DataW H)) (before : List MemPlace)
    (hval : ∀ (j : Nat) t v, fn.params[j]? = some t → args[j]? = some v → Value.okWide P W .any base t v) (hW : DataW.Whole enc P fn.params.toList s.vars apart W args.toList ds gs before) :
    Calls P f args W fun e W' => ∃ v, e = .returned v ∧ s.post enc P fn apart fresh handsOn false W args v W' := by
  have hW' := hW
  obtain ⟨p, q, hA, hV, rfl, hfz, hnd⟩ := hW
  obtain ⟨g1, g2, ⟨vss, g3, g4⟩, g5⟩ := trodAll_flat hA hk ha (fun j t v hj hv => hval j t v (by simpa using hj) (by simpa using hv))
  subst g1
  have hargs : args = (vss.map fun vs => Value.agg vs.toArray).toArray := by
    rw [← g3]
  have := hlaw vss g4 W
  rw [← hargs] at this
  unfold QuietRun at this
  rw [run_enter hnum hfn hb] at this
  refine this.mono fun e W' ⟨he, hg⟩ => ⟨_, he, ?_⟩
  have hgs : gs.length = s.vars.length := (trodVars_grow (Grow.refl W) (s1 := fun _ => true) hvar hV).1
  obtain ⟨_, pv, hpv⟩ := trodVars_grow hg (s1 := fun b => decide (b < W.heap.size)) hvar hV
  have hsp := hspec ds gs g2 hgs
  refine ⟨ds, gs, _, [], [], pv, hW', ?_, ?_, ?_, kept_of_grow hg _, fun h => by cases h⟩
  · rw [hsp, hrt]
    exact trodAll_mk1 (shut_bool hbt true)
  · rw [hsp]
    exact g5 _ _ _ _
  · rw [hsp]
    exact hpv
end
end Go.Sx
namespace Go.Sx
open Go
set_option maxRecDepth 100000
/-! ### A law over numbers: by the first of them that is not below the prime -/
/-- Number j: an element where it is known to be low, else its words. -/
def coA (k j : Nat) : List Atom := bif Nat.blt j k then eps j else ws (4 * j)
/-- Arguments of so many numbers each. -/
def coArgs (k : Nat) : Nat → List Nat → List SV
  | _, [] => []
  | o, n :: l => .one (.agg (((List.range n).map fun i => coA k (o + i)).flatten)) :: coArgs k (o + n) l
def tot (l : List Nat) : Nat := l.foldr (· + ·) 0
def coH (m k : Nat) : Hp := { hp0 [] (4 * m) k with facts := bif Nat.blt k m then [(.low (.v (4 * k)) (.v (4 * k + 1)) (.v (4 * k + 2)) (.v (4 * k + 3)), false)] else [] }
def Tree.allTrue : Tree Lf → Bool
  | .leaf (.one (.at (.bool (.c b))), []) => b
  | .leaf _ => false
  | .no => false
  | .dn _ t => t.allTrue
  | .br _ t f => t.allTrue && f.allTrue
abbrev IsTrue (e : Env) (l : Lf) : Prop := (∀ β, l.1.den β e = .bool true) ∧ l.2 = []
theorem Tree.allTrue_goal {e : Env} : ∀ {t : Tree Lf}, t.allTrue = true → t.goal e (IsTrue e)
  | .leaf (.one (.at (.bool (.c b))), []), h => by
    have h : b = true := h
    subst h
    exact ⟨fun _ => rfl, rfl⟩
  | .dn d t, h => fun _ => Tree.allTrue_goal (t := t) h
  | .br b t f, h => by
    simp only [Tree.allTrue, Bool.and_eq_true] at h
    exact ⟨fun _ => Tree.allTrue_goal h.1, fun _ => Tree.allTrue_goal h.2⟩
def okTrue (ni nf : Nat) : Option (Tree Lf) → Bool
  | some t => t.allTrue && t.bd ni 0 nf
  | none => false

/-- The words of some numbers. -/
def cells (N : Nat → Nat) : Nat → Nat → List Value
  | _, 0 => []
  | o, n + 1 => numV (N o) ++ cells N (o + 1) n
def coVals (N : Nat → Nat) : Nat → List Nat → List Value
  | _, [] => []
  | o, n :: l => .agg (cells N o n).toArray :: coVals N (o + n) l
theorem cells_eq (N : Nat → Nat) : ∀ (n o : Nat), cells N o n = ((List.range n).map fun i => numV (N (o + i))).flatten
  | 0, _ => rfl
  | n + 1, o => by
    rw [cells, cells_eq N n (o + 1), List.range_succ_eq_map, List.map_cons, List.flatten_cons, List.map_map]
    congr 3
    funext i
    simp only [Function.comp]
    congr 2
    omega
section
variable {P : Program} {qf pf : QSum}
/-- The environment: words of all, elements of the first k. -/
theorem co_run (hm : P.follows .mixedOrders = true) (hnum : NumOk P) (hq : QOk P qf) (hp : POk P pf) {n : Nat} {f : FuncId} {sh : List Nat} {k : Nat} (hkm : k ≤ tot sh) {t : Tree Lf} {u : Value}
    (h : sxCall P qf pf n f (coArgs k 0 sh) (coH (tot sh) k) leafE = some t) (hbd : t.bd (4 * tot sh) 0 k = true)
    (N : Nat → Nat) (hN : ∀ j, N j < RR) (hlow : ∀ j, j < k → N j < q) (hhigh : k < tot sh → q ≤ N k)
    (law : ∀ e, (∀ j, j < k → e.f j = F (N j)) → t.goal e fun l => (∀ β, l.1.den β e = u) ∧ l.2 = []) (w : World) : QuietRun P (callFunc f (coVals N 0 sh).toArray) u w := by
  let e : Env := { i := fun j => ((w4 (N (j / 4)) (j % 4) : Nat) : Int), b := fun _ => false, f := fun j => F (N j), ext := fun _ => ⟨0, 0, none⟩ }
  have wordsOf : ∀ e', AgreeE (4 * tot sh) 0 k e e' → ∀ j, j < tot sh → e'.i (4 * j) = w4 (N j) 0 ∧ e'.i (4 * j + 1) = w4 (N j) 1 ∧ e'.i (4 * j + 2) = w4 (N j) 2 ∧ e'.i (4 * j + 3) = w4 (N j) 3 := fun e' ha j hj => by
    refine ⟨?_, ?_, ?_, ?_⟩
    · rw [ha.i _ (by omega)]; show ((w4 (N (4 * j / 4)) (4 * j % 4) : Nat) : Int) = _; rw [show 4 * j / 4 = j by omega, show 4 * j % 4 = 0 by omega]
    · rw [ha.i _ (by omega)]; show ((w4 (N ((4 * j + 1) / 4)) ((4 * j + 1) % 4) : Nat) : Int) = _; rw [show (4 * j + 1) / 4 = j by omega, show (4 * j + 1) % 4 = 1 by omega]
    · rw [ha.i _ (by omega)]; show ((w4 (N ((4 * j + 2) / 4)) ((4 * j + 2) % 4) : Nat) : Int) = _; rw [show (4 * j + 2) / 4 = j by omega, show (4 * j + 2) % 4 = 2 by omega]
    · rw [ha.i _ (by omega)]; show ((w4 (N ((4 * j + 3) / 4)) ((4 * j + 3) % 4) : Nat) : Int) = _; rw [show (4 * j + 3) / 4 = j by omega, show (4 * j + 3) % 4 = 3 by omega]
  have coDen : ∀ e', AgreeE (4 * tot sh) 0 k e e' → ∀ j, j < tot sh → (coA k j).map (Atom.den (fun _ => 0) e') = numV (N j) ∧ ∀ a ∈ coA k j, a.ok 0 e' := fun e' ha j hj => by
    unfold coA
    cases hb : Nat.blt j k with
    | true =>
      have hjk := blt_lt hb
      simp only [cond_true]
      refine ⟨?_, eps_ok _ _ _⟩
      rw [eps_den, ha.f j hjk]
      show numV (N j % q) = _
      rw [Nat.mod_eq_of_lt (hlow j hjk)]
    | false =>
      obtain ⟨g0, g1, g2, g3⟩ := wordsOf e' ha j hj
      simp only [cond_false]
      refine ⟨?_, fun a ha' => ?_⟩
      · rw [ws_den, g0, g1, g2, g3]; rfl
      · simp only [ws, List.mem_cons, List.not_mem_nil, or_false] at ha'
        rcases ha' with rfl | rfl | rfl | rfl
        · show inR .u64 (e'.i (4 * j)); rw [g0]; exact wd_inR (w4_wd _ _)
        · show inR .u64 (e'.i (4 * j + 1)); rw [g1]; exact wd_inR (w4_wd _ _)
        · show inR .u64 (e'.i (4 * j + 2)); rw [g2]; exact wd_inR (w4_wd _ _)
        · show inR .u64 (e'.i (4 * j + 3)); rw [g3]; exact wd_inR (w4_wd _ _)
  have hargs : ∀ e', AgreeE (4 * tot sh) 0 k e e' → ∀ (l : List Nat) (o : Nat), o + tot l ≤ tot sh → (coArgs k o l).map (SV.den (fun _ => 0) e') = coVals N o l ∧ ∀ s ∈ coArgs k o l, s.ok 0 e' := fun e' ha l => by
    induction l with
    | nil => intro o _; exact ⟨rfl, fun s hs => by cases hs⟩
    | cons n l ih =>
      intro o ho
      have ho' : o + n + tot l ≤ tot sh := by simp only [tot, List.foldr_cons] at ho ⊢; omega
      obtain ⟨i1, i2⟩ := ih (o + n) ho'
      refine ⟨?_, fun s hs => ?_⟩
      · rw [coArgs, List.map_cons, coVals, i1]
        congr 1
        simp only [SV.den, SV1.den, List.map_flatten, List.map_map]
        rw [cells_eq]
        congr 3
        refine List.map_congr_left fun i hi => ?_
        exact (coDen e' ha (o + i) (by have := List.mem_range.1 hi; omega)).1
      · rcases List.mem_cons.1 hs with hs | hs
        · subst hs
          intro a ha'
          obtain ⟨x, hx, hax⟩ := List.mem_flatten.1 ha'
          obtain ⟨i, hi, rfl⟩ := List.mem_map.1 hx
          exact (coDen e' ha (o + i) (by have := List.mem_range.1 hi; omega)).2 a hax
        · exact i2 s hs
  have := quiet_of_tree (e := e) (β := fun _ => 0) hm hnum hq hp h hbd rfl
    (fun w e' ha => {
      hp0_rel (ext := []) (ni := 4 * tot sh) (nf := k) (w := w) (e := e') (β := fun _ => 0) (fun j c hj => by simp at hj) (fun c hc => by simp at hc) (fun j c c0 _ hj => by simp at hj) with
      facts := fun x hx => by
        simp only [coH] at hx
        cases hb : Nat.blt k (tot sh) with
        | false => rw [hb] at hx; cases hx
        | true =>
          rw [hb] at hx
          simp only [cond_true, List.mem_singleton] at hx
          subst hx
          obtain ⟨g0, g1, g2, g3⟩ := wordsOf e' ha k (blt_lt hb)
          simp only [BE.den, IE.den, g0, g1, g2, g3]
          rw [v4_w4 (hN k)]
          have := hhigh (blt_lt hb)
          exact decide_eq_false (by unfold q at this; omega) })
    (fun e' ha => (hargs e' ha sh 0 (by omega)).2)
    (fun e' ha => by rw [(hargs e' ha sh 0 (by omega)).1, (hargs e (AgreeE.refl _ _ _ _) sh 0 (by omega)).1])
    (fun e' ha => law e' fun j hj => ha.f j hj) w
  rw [(hargs e (AgreeE.refl _ _ _ _) sh 0 (by omega)).1] at this
  exact this

/-- A law over numbers, told at the first number that is not low; with all of them low. -/
theorem co_law (hm : P.follows .mixedOrders = true) (hnum : NumOk P) (hq : QOk P qf) (hp : POk P pf) {n : Nat} {f : FuncId} {sh : List Nat}
    (hk : (List.range (tot sh)).all (fun k => okTrue (4 * tot sh) k (sxCall P qf pf n f (coArgs k 0 sh) (coH (tot sh) k) leafE)) = true)
    {t : Tree Lf} (h : sxCall P qf pf n f (coArgs (tot sh) 0 sh) (coH (tot sh) (tot sh)) leafE = some t) (hbd : t.bd (4 * tot sh) 0 (tot sh) = true)
    (law : ∀ e : Env, t.goal e (IsTrue e)) (N : Nat → Nat) (hN : ∀ j, N j < RR) (w : World) : QuietRun P (callFunc f (coVals N 0 sh).toArray) (.bool true) w := by
  by_cases hall : ∀ j, j < tot sh → N j < q
  · exact co_run hm hnum hq hp (Nat.le_refl _) h hbd N hN hall (fun h => absurd h (Nat.lt_irrefl _)) (fun e _ => law e) w
  · have hex : ∃ k, k < tot sh ∧ q ≤ N k := by
      by_cases hne : ∃ k, k < tot sh ∧ q ≤ N k
      · exact hne
      · exact absurd (fun j hj => Nat.lt_of_not_le fun hle => hne ⟨j, hj, hle⟩) hall
    obtain ⟨k0, hk0⟩ := hex
    obtain ⟨k, ⟨hk1, hk2⟩, _, hmin⟩ := least (q := fun k => k < tot sh ∧ q ≤ N k) k0 hk0
    have hb := List.all_eq_true.1 hk k (List.mem_range.2 hk1)
    unfold okTrue at hb
    split at hb
    · rename_i t' ht'
      rw [Bool.and_eq_true] at hb
      exact co_run hm hnum hq hp (Nat.le_of_lt hk1) ht' hb.2 N hN (fun j hj => Nat.lt_of_not_le fun hle => hmin j hj ⟨by omega, hle⟩) (fun _ => hk2) (fun e _ => Tree.allTrue_goal hb.1) w
    · cases hb
end

/-- Cells of words are words of numbers. -/
theorem words_num {a b c d : Int} (ha : inR .u64 a) (hb : inR .u64 b) (hc : inR .u64 c) (hd : inR .u64 d) : ∃ n : Nat, n < RR ∧ wordsV a b c d = numV n := by
  have wa := inR_wd ha
  have wb := inR_wd hb
  have wc := inR_wd hc
  have wd := inR_wd hd
  obtain ⟨n, hn⟩ := nat_of (v4_nonneg wa.1 wb.1 wc.1 wd.1)
  have hlt := v4_lt wa wb wc wd
  rw [hn] at hlt
  obtain ⟨h0, h1, h2, h3⟩ := w4_of wa wb wc wd hn
  refine ⟨n, by unfold RR; omega, ?_⟩
  rw [h0, h1, h2, h3]
  rfl
def kind4 (n : Nat) : List IntKind := (List.replicate n [IntKind.u64, .u64, .u64, .u64]).flatten
theorem fits4 : ∀ (n : Nat) {vs : List Value}, Fits (kind4 n) vs → ∃ l : List Nat, l.length = n ∧ (∀ x ∈ l, x < RR) ∧ vs = (l.map numV).flatten
  | 0, vs, h => by
    cases vs with
    | nil => exact ⟨[], rfl, by simp, rfl⟩
    | cons => exact h.elim
  | n + 1, vs, h => by
    have h : Fits (.u64 :: .u64 :: .u64 :: .u64 :: kind4 n) vs := h
    match vs with
    | [] => exact h.elim
    | [_] => exact h.2.elim
    | [_, _] => exact h.2.2.elim
    | [_, _, _] => exact h.2.2.2.elim
    | a :: b :: c :: d :: vs =>
      obtain ⟨⟨x, rfl, hx⟩, ⟨y, rfl, hy⟩, ⟨z, rfl, hz⟩, ⟨t, rfl, ht⟩, h⟩ := h
      obtain ⟨l, h1, h2, h3⟩ := fits4 n h
      obtain ⟨m, hm, hw⟩ := words_num hx hy hz ht
      refine ⟨m :: l, by simp [h1], fun x hx => ?_, ?_⟩
      · rcases List.mem_cons.1 hx with hx | hx
        · subst hx; exact hm
        · exact h2 x hx
      · rw [List.map_cons, List.flatten_cons, ← h3, ← hw]
        rfl
theorem cells_list (N : Nat → Nat) : ∀ (l : List Nat) (o : Nat), (∀ j, j < l.length → N (o + j) = l.getD j 0) → cells N o l.length = (l.map numV).flatten
  | [], _, _ => rfl
  | n :: l, o, h => by
    have h0 := h 0 (by simp)
    rw [Nat.add_zero] at h0
    rw [List.length_cons, cells, List.map_cons, List.flatten_cons, cells_list N l (o + 1) fun j hj => by
      have := h (j + 1) (by simpa using hj)
      rw [show o + 1 + j = o + (j + 1) by omega, this]; rfl]
    rw [h0]
    rfl
theorem fitsAll4 : ∀ (sh : List Nat) {vss : List (List Value)}, FitsAll (sh.map kind4) vss → ∃ l : List Nat, l.length = tot sh ∧ (∀ x ∈ l, x < RR) ∧
    ∀ (N : Nat → Nat) (o : Nat), (∀ j, j < l.length → N (o + j) = l.getD j 0) → vss.map (fun vs => Value.agg vs.toArray) = coVals N o sh
  | [], vss, h => by
    cases vss with
    | nil => exact ⟨[], rfl, by simp, fun _ _ _ => rfl⟩
    | cons => exact h.elim
  | n :: sh, vss, h => by
    cases vss with
    | nil => exact h.elim
    | cons vs vss =>
      obtain ⟨h1, h2⟩ := h
      obtain ⟨l1, a1, a2, a3⟩ := fits4 n h1
      obtain ⟨l2, b1, b2, b3⟩ := fitsAll4 sh h2
      refine ⟨l1 ++ l2, by simp [a1, b1, tot], fun x hx => ?_, fun N o hN => ?_⟩
      · rcases List.mem_append.1 hx with hx | hx
        · exact a2 x hx
        · exact b2 x hx
      · rw [List.map_cons, coVals, b3 N (o + n) fun j hj => by
          have := hN (n + j) (by rw [List.length_append]; omega)
          rw [← Nat.add_assoc] at this
          rw [this, List.getD_eq_getElem?_getD, List.getElem?_append_right (by omega), a1, Nat.add_sub_cancel_left, ← List.getD_eq_getElem?_getD]]
        congr 2
        rw [a3, ← a1, cells_list N l1 o fun j hj => by
          have := hN j (by rw [List.length_append]; omega)
          rw [this, List.getD_eq_getElem?_getD, List.getElem?_append_left hj, ← List.getD_eq_getElem?_getD]]
/-- What the statement's form wants of such a law. -/
theorem co_fits {P : Program} {f : FuncId} {sh : List Nat} (h : ∀ N : Nat → Nat, (∀ j, N j < RR) → ∀ w, QuietRun P (callFunc f (coVals N 0 sh).toArray) (.bool true) w) (vss : List (List Value)) (hv : FitsAll (sh.map kind4) vss) (w : World) :
    QuietRun P (callFunc f (vss.map fun vs => Value.agg vs.toArray).toArray) (.bool true) w := by
  obtain ⟨l, h1, h2, h3⟩ := fitsAll4 sh hv
  rw [h3 (fun j => l.getD j 0) 0 fun j _ => by rw [Nat.zero_add]]
  refine h _ (fun j => ?_) w
  rw [List.getD_eq_getElem?_getD]
  cases hj : l[j]? with
  | none => exact (by decide : 0 < RR)
  | some x => exact h2 x (List.mem_of_getElem? hj)
end Go.Sx
