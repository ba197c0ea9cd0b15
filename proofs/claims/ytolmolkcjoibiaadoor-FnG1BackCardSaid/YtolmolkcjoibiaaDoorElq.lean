import Derived.Test.YtolmolkcjoibiaaDoorSj
import Derived.Test.YtolmolkcjoibiaaDoorFie
/- Aids to the claim: what is shown here is said at each theorem. -/
namespace Go.Sx
open Go
set_option maxRecDepth 100000
/-! ### Quiet functions of elements -/
def Atom.elB : Atom → Bool
  | .int .u64 (.ep _ _) => true
  | .int .u64 (.em _ _) => true
  | .int k (.c n) => inRb k n
  | .bool _ => true
  | _ => false
def SV.elB : SV → Bool
  | .one (.at a) => a.elB
  | .one (.agg l) => l.all Atom.elB
  | .tup _ => false
theorem Atom.elB_ok {a : Atom} (h : a.elB = true) (n : Nat) (e : Env) : a.ok n e := by
  unfold Atom.elB at h
  split at h
  · exact wd_inR (w4_wd _ _)
  · exact wd_inR (w4_wd _ _)
  · exact inRb_spec h
  · trivial
  · cases h
theorem SV.elB_ok {s : SV} (h : s.elB = true) (n : Nat) (e : Env) : s.ok n e := by
  unfold SV.elB at h
  split at h
  · exact Atom.elB_ok h n e
  · exact fun a ha => Atom.elB_ok (List.all_eq_true.1 h a ha) n e
  · cases h
def elEnv (fs : Nat → Fq) : Env := { i := fun _ => 0, b := fun _ => false, f := fs, ext := fun _ => ⟨0, 0, none⟩ }
section
variable {P : Program} {qf pf : QSum}
theorem quiet_els (hm : P.follows .mixedOrders = true) (hnum : NumOk P) (hq : QOk P qf) (hp : POk P pf) {n nf : Nat} {f : FuncId} {args : List SV} {t : Tree Lf}
    (h : sxCall P qf pf n f args (hp0 [] 0 nf) leafE = some t) (hbd : t.bd 0 0 nf = true) (hel : args.all SV.elB = true) (hlt : (args.all fun s => s.ltB 0 0 nf) = true) (fs : Nat → Fq) {u : Value}
    (law : ∀ e, (∀ k, k < nf → e.f k = fs k) → t.goal e fun l => (∀ β, l.1.den β e = u) ∧ l.2 = []) {vs : List Value} (hvs : args.map (SV.den (fun _ => 0) (elEnv fs)) = vs) (w : World) : QuietRun P (callFunc f vs.toArray) u w := by
  have := quiet_of_tree (e := elEnv fs) (β := fun _ => 0) hm hnum hq hp h hbd rfl
    (fun w e' ha => hp0_rel (fun j c hj => by simp at hj) (fun c hc => by simp at hc) (fun j c c0 _ hj => by simp at hj))
    (fun e' ha s hs => SV.elB_ok (List.all_eq_true.1 hel s hs) _ _)
    (fun e' ha => List.map_congr_left fun s hs => (SV.agreeE (n := 0) ha (List.all_eq_true.1 hlt s hs)).1)
    (fun e' ha => law e' fun k hk => ha.f k hk) w
  rw [hvs] at this
  exact this
end

/-! ### Tables of elements by their plain words -/
theorem eps_den {β : Nat → Nat} {e : Env} (k : Nat) : (eps k).map (Atom.den β e) = epV (e.f k) := rfl
theorem eps_ok (k n : Nat) (e : Env) : ∀ a ∈ eps k, a.ok n e := fun a ha => by
  simp only [eps, List.mem_cons, List.not_mem_nil, or_false] at ha
  rcases ha with rfl | rfl | rfl | rfl <;> exact wd_inR (w4_wd _ _)
/-- A row of elements behind as many words. -/
def elPs (h : Hp) : List (List Atom) → Option (List Dn × List Nat × Hp)
  | [] => some ([], [], h)
  | l :: ls => match toW4 l with
    | some a => match elP h a with
      | some (d, i, h1) => match elPs h1 ls with
        | some (ds, is, h2) => some (d ++ ds, i :: is, h2)
        | none => none
      | none => none
    | none => none
/-- Words by fours. -/
def fours : List Atom → List (List Atom)
  | a :: b :: c :: d :: l => [a, b, c, d] :: fours l
  | _ => []
theorem elPs_sound {e : Env} {β : Nat → Nat} {n : Nat} : ∀ {ls : List (List Atom)} {h h' : Hp} {ds : List Dn} {is : List Nat}, elPs h ls = some (ds, is, h') → SameMem h h' ∧
    (Facts e h.facts → (∀ l ∈ ls, ∀ a ∈ l, a.ok n e) → (∀ d ∈ ds, d.holds e) → ls.map (fun l => l.map (Atom.den β e)) = is.map fun i => epV (e.f i))
  | [], h, h', ds, is, hh => by cases hh; exact ⟨SameMem.refl _, fun _ _ _ => rfl⟩
  | l :: ls, h, h', ds, is, hh => by
    unfold elPs at hh
    split at hh
    · rename_i a ha
      split at hh
      · rename_i d i h1 he
        split at hh
        · rename_i ds' is' h2 hr
          cases hh
          obtain ⟨m1, s1⟩ := elP_sound he
          obtain ⟨m2, s2⟩ := elPs_sound (e := e) (β := β) (n := n) hr
          refine ⟨m1.trans m2, fun hf hok hd => ?_⟩
          have oa : a.ok e := W4.ok_of ha (hok l (by simp))
          have ia := s1 e hf oa fun x hx => hd x (by simp [hx])
          have ih := s2 (by rw [m1.2.2.2.2]; exact hf) (fun l hl => hok l (by simp [hl])) fun x hx => hd x (by simp [hx])
          rw [List.map_cons, List.map_cons, ih]
          congr 1
          rw [toW4_spec ha]
          exact is_words ia
        · cases hh
      · cases hh
    · cases hh
theorem fours_den {e : Env} {β : Nat → Nat} : ∀ (l : List Atom) {vs : List (List Value)}, l.length = 4 * (fours l).length → (fours l).map (fun x => x.map (Atom.den β e)) = vs → l.map (Atom.den β e) = vs.flatten
  | [], vs, _, h => by cases h; rfl
  | [_], vs, hl, h => by simp [fours] at hl
  | [_, _], vs, hl, h => by simp [fours] at hl
  | [_, _, _], vs, hl, h => by simp [fours] at hl
  | a :: b :: c :: d :: l, vs, hl, h => by
    subst h
    simp only [fours, List.length_cons] at hl
    have := fours_den (e := e) (β := β) l (by omega) rfl
    simp only [fours, List.map_cons, List.flatten_cons, List.map_nil, List.cons_append, List.nil_append, this]
theorem fours_mem : ∀ (l : List Atom) {x : List Atom} {a : Atom}, x ∈ fours l → a ∈ x → a ∈ l
  | [], x, a, h, _ => by simp [fours] at h
  | [_], x, a, h, _ => by simp [fours] at h
  | [_, _], x, a, h, _ => by simp [fours] at h
  | [_, _, _], x, a, h, _ => by simp [fours] at h
  | p :: q :: r :: s :: l, x, a, h, ha => by
    rcases List.mem_cons.1 h with h | h
    · subst h
      simp only [List.mem_cons, List.not_mem_nil, or_false] at ha
      rcases ha with rfl | rfl | rfl | rfl <;> simp
    · have := fours_mem l h ha
      simp [this]
def aggOf : SV → Option (List Atom)
  | .one (.agg l) => some l
  | _ => none
/-- The elements of all arguments. -/
def argEls (h : Hp) : List SV → Option (List Dn × List (List Nat) × Hp)
  | [] => some ([], [], h)
  | s :: ss => match aggOf s with
    | some l => bif Nat.beq l.length (4 * (fours l).length) then match elPs h (fours l) with
        | some (d, i, h1) => match argEls h1 ss with
          | some (ds, is, h2) => some (d ++ ds, i :: is, h2)
          | none => none
        | none => none
      else none
    | none => none
abbrev elsV (l : List Fq) : Value := .agg ((l.map epV).flatten).toArray
theorem argEls_sound {e : Env} {β : Nat → Nat} {n : Nat} : ∀ {ss : List SV} {h h' : Hp} {ds : List Dn} {is : List (List Nat)}, argEls h ss = some (ds, is, h') → SameMem h h' ∧
    (Facts e h.facts → (∀ s ∈ ss, s.ok n e) → (∀ d ∈ ds, d.holds e) → ss.map (SV.den β e) = is.map fun l => elsV (l.map e.f))
  | [], h, h', ds, is, hh => by cases hh; exact ⟨SameMem.refl _, fun _ _ _ => rfl⟩
  | s :: ss, h, h', ds, is, hh => by
    unfold argEls at hh
    split at hh
    · rename_i l hl
      have hs : s = .one (.agg l) := by
        unfold aggOf at hl
        split at hl
        · cases hl; rfl
        · cases hl
      subst hs
      cases hb : Nat.beq l.length (4 * (fours l).length) with
      | false => rw [hb] at hh; cases hh
      | true =>
        rw [hb] at hh
        simp only [cond_true] at hh
        split at hh
        · rename_i d i h1 he
          split at hh
          · rename_i ds' is' h2 hr
            cases hh
            obtain ⟨m1, s1⟩ := elPs_sound (e := e) (β := β) (n := n) he
            obtain ⟨m2, s2⟩ := argEls_sound (e := e) (β := β) (n := n) hr
            refine ⟨m1.trans m2, fun hf hok hd => ?_⟩
            have hl4 : ∀ a ∈ l, a.ok n e := hok (.one (.agg l)) (by simp)
            have i1 := s1 hf (fun x hx a ha => hl4 a (fours_mem l hx ha)) fun x hx => hd x (by simp [hx])
            have ih := s2 (by rw [m1.2.2.2.2]; exact hf) (fun l hl => hok l (by simp [hl])) fun x hx => hd x (by simp [hx])
            rw [List.map_cons, List.map_cons, ih]
            congr 1
            simp only [SV.den, SV1.den]
            rw [fours_den (e := e) (β := β) l (Nat.eq_of_beq_eq_true hb) i1]
            simp [elsV, List.map_map, Function.comp_def]
          · cases hh
        · cases hh
    · cases hh
/-- New elements from old ones: definitions from number n on. -/
def newEls (n : Nat) : List FD → List Dn
  | [] => []
  | d :: ds => .f n d :: newEls (n + 1) ds
theorem newEls_holds {e : Env} : ∀ {ds : List FD} {n : Nat}, (∀ d ∈ newEls n ds, d.holds e) → ∀ (j : Nat) (d : FD), ds[j]? = some d → e.f (n + j) = d.ev e
  | [], n, _, j, d, hj => by simp at hj
  | d0 :: ds, n, h, j, d, hj => by
    cases j with
    | zero =>
      simp only [List.getElem?_cons_zero, Option.some.injEq] at hj
      subst hj
      exact h (.f n d0) (by simp [newEls])
    | succ j =>
      simp only [List.getElem?_cons_succ] at hj
      have := newEls_holds (n := n + 1) (fun x hx => h x (by simp [newEls, hx])) j d hj
      rw [← this]
      congr 1
      omega
/-- A quiet function of elements to elements: 'mk' gives the new ones out of the numbers of the old ones. -/
def elF (fn : FuncId) (mk : List (List Nat) → Option (List FD)) : QSum := fun f args h =>
  bif Nat.beq f fn then match argEls h args with
    | some (ds, is, h1) => match mk is with
      | some fd => some (ds ++ newEls h1.nf fd, .one (.agg (((List.range fd.length).map fun j => eps (h1.nf + j)).flatten)), { h1 with nf := h1.nf + fd.length })
      | none => none
    | none => none
  else none
/-- A test of elements. -/
def tsF (fn : FuncId) (mk : List (List Nat) → Option BE) : QSum := fun f args h =>
  bif Nat.beq f fn then match argEls h args with
    | some (ds, is, h1) => match mk is with
      | some b => some (ds, .one (.at (.bool b)), h1)
      | none => none
    | none => none
  else none
section
variable {P : Program}
theorem elF_q {fn : FuncId} {mk : List (List Nat) → Option (List FD)}
    (hc : ∀ (is : List (List Nat)) (fd : List FD), mk is = some fd → ∀ (e : Env) (w : World), QuietRun P (callFunc fn (is.map fun l => elsV (l.map e.f)).toArray) (elsV (fd.map fun d => d.ev e)) w) : QOk P (elF fn mk) := by
  intro f args h ds v h' hh
  unfold elF at hh
  cases hb : Nat.beq f fn with
  | false => rw [hb] at hh; cases hh
  | true =>
    rw [hb] at hh
    have hf := Nat.eq_of_beq_eq_true hb
    subst hf
    simp only [cond_true] at hh
    split at hh
    · rename_i ds' is h1 ha
      split at hh
      · rename_i fd hfd
        cases hh
        obtain ⟨m1, _⟩ := argEls_sound (e := elEnv fun _ => 0) (β := fun _ => 0) (n := 0) ha
        refine ⟨m1.trans (SameMem.nf _ _), fun e β hf hok hds => ?_⟩
        obtain ⟨_, s1⟩ := argEls_sound (e := e) (β := β) (n := h.cnt) ha
        have hargs := s1 hf hok fun d hd => hds d (by simp [hd])
        have hnew := newEls_holds (e := e) (ds := fd) (n := h1.nf) fun d hd => hds d (by simp [hd])
        refine ⟨fun a ha => ?_, fun w0 w _ => ?_⟩
        · obtain ⟨x, hx, hax⟩ := List.mem_flatten.1 ha
          obtain ⟨j, _, rfl⟩ := List.mem_map.1 hx
          exact eps_ok _ _ _ a hax
        · rw [hargs]
          have hv : (SV.one (.agg (((List.range fd.length).map fun j => eps (h1.nf + j)).flatten))).den β e = elsV (fd.map fun d => d.ev e) := by
            simp only [SV.den, SV1.den, elsV, List.map_flatten, List.map_map]
            congr 3
            apply List.ext_getElem
            · simp
            · intro j h1' h2'
              simp only [List.getElem_map, List.getElem_range, Function.comp, eps_den]
              have hj : j < fd.length := by simpa using h2'
              rw [hnew j fd[j] (List.getElem?_eq_getElem hj)]
          rw [hv]
          exact hc is fd hfd e w
      · cases hh
    · cases hh
theorem tsF_q {fn : FuncId} {mk : List (List Nat) → Option BE}
    (hc : ∀ (is : List (List Nat)) (b : BE), mk is = some b → ∀ (e : Env) (w : World), QuietRun P (callFunc fn (is.map fun l => elsV (l.map e.f)).toArray) (.bool (b.den e)) w) : QOk P (tsF fn mk) := by
  intro f args h ds v h' hh
  unfold tsF at hh
  cases hb : Nat.beq f fn with
  | false => rw [hb] at hh; cases hh
  | true =>
    rw [hb] at hh
    have hf := Nat.eq_of_beq_eq_true hb
    subst hf
    simp only [cond_true] at hh
    split at hh
    · rename_i ds' is h1 ha
      split at hh
      · rename_i b hfd
        cases hh
        obtain ⟨m1, _⟩ := argEls_sound (e := elEnv fun _ => 0) (β := fun _ => 0) (n := 0) ha
        refine ⟨m1, fun e β hf hok hds => ?_⟩
        obtain ⟨_, s1⟩ := argEls_sound (e := e) (β := β) (n := h.cnt) ha
        have hargs := s1 hf hok hds
        refine ⟨trivial, fun w0 w _ => ?_⟩
        rw [hargs]
        exact hc is b hfd e w
      · cases hh
    · cases hh
end
/-- Two numbers, modulo the prime. -/
def Op2C (P : Program) (f : FuncId) (op : Fq → Fq → Fq) : Prop := ∀ (a b : Fq) (w : World), QuietRun P (callFunc f #[elsV [a], elsV [b]]) (elsV [op a b]) w
def two (mk : Nat → Nat → FD) : List (List Nat) → Option (List FD)
  | [[i], [j]] => some [mk i j]
  | _ => none
theorem two_q {P : Program} {fn : FuncId} {mk : Nat → Nat → FD} {op : Fq → Fq → Fq} (hmk : ∀ e i j, (mk i j).ev e = op (e.f i) (e.f j)) (hc : Op2C P fn op) : QOk P (elF fn (two mk)) :=
  elF_q fun is fd h e w => by
    unfold two at h
    split at h
    · rename_i i j
      cases h
      simp only [List.map_cons, List.map_nil, hmk]
      exact hc (e.f i) (e.f j) w
    · cases h
/-- Two numbers and the prime. -/
def op3F (fn : FuncId) (mk : Nat → Nat → FD) : QSum := fun f args h =>
  bif Nat.beq f fn then match args with
    | [a, b, .one (.agg lc)] => match toW4 lc with
      | some c => match c.c? with
        | some n => bif decide (n = 21888242871839275222246405745257275088696311157297823662689037894645226208583) then match argEls h [a, b] with
            | some (ds, [[i], [j]], h1) => some (ds ++ [.f h1.nf (mk i j)], .one (.agg (eps h1.nf)), { h1 with nf := h1.nf + 1 })
            | _ => none
          else none
        | none => none
      | none => none
    | _ => none
  else none
theorem op3F_q {P : Program} {fn : FuncId} {mk : Nat → Nat → FD} {op : Fq → Fq → Fq} (hmk : ∀ e i j, (mk i j).ev e = op (e.f i) (e.f j)) (hc : Op3C P fn op) : QOk P (op3F fn mk) := by
  intro f args h ds v h' hh
  unfold op3F at hh
  cases hb : Nat.beq f fn with
  | false => rw [hb] at hh; cases hh
  | true =>
    rw [hb] at hh
    have hf := Nat.eq_of_beq_eq_true hb
    subst hf
    simp only [cond_true] at hh
    split at hh
    · rename_i a b lc
      split at hh
      · rename_i c hlc
        split at hh
        · rename_i n hn
          cases hq : decide (n = 21888242871839275222246405745257275088696311157297823662689037894645226208583) with
          | false => rw [hq] at hh; cases hh
          | true =>
            rw [hq] at hh
            have hq := of_decide_eq_true hq
            simp only [cond_true] at hh
            split at hh
            · rename_i ds' i j h1 ha
              cases hh
              obtain ⟨m1, _⟩ := argEls_sound (e := elEnv fun _ => 0) (β := fun _ => 0) (n := 0) ha
              refine ⟨m1.trans (SameMem.nf _ _), fun e β hf hok hds => ?_⟩
              obtain ⟨_, s1⟩ := argEls_sound (e := e) (β := β) (n := h.cnt) ha
              have hargs := s1 hf (fun s hs => hok s (by
                simp only [List.mem_cons, List.not_mem_nil, or_false] at hs
                rcases hs with rfl | rfl <;> simp)) fun d hd => hds d (by simp [hd])
              have hnew : e.f h1.nf = op (e.f i) (e.f j) := by
                have : e.f h1.nf = (mk i j).ev e := hds (.f h1.nf (mk i j)) (by simp)
                rw [this, hmk]
              refine ⟨eps_ok _ _ _, fun w0 w _ => ?_⟩
              simp only [List.map_cons, List.map_nil, List.cons.injEq, and_true] at hargs
              obtain ⟨g1, g2⟩ := hargs
              have oc : c.ok e := W4.ok_of hlc (hok (.one (.agg lc)) (by simp))
              have ic : c.is e q := W4.is_of oc (by rw [W4.c?_spec hn e, hq]; rfl)
              simp only [List.map_cons, List.map_nil]
              rw [g1, g2, W4.agg_den hlc, is_words ic]
              have hv : (SV.one (.agg (eps h1.nf))).den β e = agN (op (e.f i) (e.f j)).val := by
                rw [← hnew]; rfl
              rw [hv]
              have := hc (e.f i) (e.f j) w
              simpa [elsV] using this
            · cases hh
        · cases hh
      · cases hh
    · cases hh
section
variable {P : Program} {qf pf : QSum}
/-- spec.mul and its like. -/
theorem op2_of (hm : P.follows .mixedOrders = true) (hnum : NumOk P) (hq : QOk P qf) (hp : POk P pf) {f : FuncId} {mk : Nat → Nat → FD} {op : Fq → Fq → Fq} (hmk : ∀ e i j, (mk i j).ev e = op (e.f i) (e.f j))
    (h : sxCall P qf pf 5000 f [.one (.agg (eps 0)), .one (.agg (eps 1))] (hp0 [] 0 2) leafE = some (.dn (.f 2 (mk 0 1)) (.leaf (.one (.agg (eps 2)), [])))) (hbd : (mk 0 1).bd 0 0 2 = true) : Op2C P f op := fun a b w =>
  quiet_els (fs := fun k => if k = 0 then a else b) hm hnum hq hp h (by simp [Tree.bd, Dn.bd, hbd]) rfl rfl
    (fun e he => fun hd => by
      have hd : e.f 2 = (mk 0 1).ev e := hd
      rw [hmk, he 0 (by omega), he 1 (by omega)] at hd
      refine ⟨fun β => ?_, rfl⟩
      show elsV [e.f 2] = _
      rw [hd]
      rfl) rfl w
end
end Go.Sx
