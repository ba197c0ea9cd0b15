import Derived.Test.YtolmolkcjoibiaaDoorSi
/- Aids to the claim: what is shown here is said at each theorem. -/
namespace Go.Sx
open Go

/-! ### Loops by an invariant -/
section
variable {P : Program}
theorem loop_wp {b : Code} {Q : Exit → Act → World → Prop} {I : Nat → Act → World → Prop}
    (h : ∀ n a w, I n a w → b.wp P (Exit.then (fun a' w' => ∃ m, m < n ∧ I m a' w') Q) a w) (n : Nat) (a : Act) (w : World) (hI : I n a w) : (Code.loop b).wp P Q a w := by
  refine wp_of_LP ?_
  induction n using Nat.strongRecOn generalizing a w with
  | ind n ih =>
    refine LP_step (Code.wp_mono ?_ (h n a w hI))
    intro e a' w' hq
    cases e with
    | normal =>
      obtain ⟨m, hm, hI'⟩ := hq
      exact ih m hm a' w' hI'
    | _ => exact hq

/-- Tables by lists. -/
def tmOf : List (Nat × SV) → T SV
  | [] => .leaf
  | (t, s) :: l => (tmOf l).set t s
def blkOf : List (Nat × Blk) → T Blk
  | [] => .leaf
  | (t, s) :: l => (blkOf l).set t s
theorem tmOf_mem : ∀ {l : List (Nat × SV)} {t : Nat} {s : SV}, (tmOf l).get t = some s → (t, s) ∈ l
  | [], t, s, h => by cases t <;> simp [tmOf, T.get] at h
  | (u, r) :: l, t, s, h => by
    rw [tmOf, T.get_set] at h
    by_cases hu : u = t
    · rw [if_pos hu] at h; cases h; subst hu; simp
    · rw [if_neg hu] at h; exact List.mem_cons_of_mem _ (tmOf_mem h)
theorem blkOf_mem : ∀ {l : List (Nat × Blk)} {t : Nat} {s : Blk}, (blkOf l).get t = some s → (t, s) ∈ l
  | [], t, s, h => by cases t <;> simp [blkOf, T.get] at h
  | (u, r) :: l, t, s, h => by
    rw [blkOf, T.get_set] at h
    by_cases hu : u = t
    · rw [if_pos hu] at h; cases h; subst hu; simp
    · rw [if_neg hu] at h; exact List.mem_cons_of_mem _ (blkOf_mem h)

/-- A state at the head of a loop: some temporaries, some blocks. -/
def headSt (n : Nat) (tms : List (Nat × SV)) (bs : List (Nat × Blk)) (cnt ni : Nat) : St :=
  { tm := tmOf tms, n := n, h := { blk := blkOf bs, cnt := cnt, ni := ni, nb := 0, nf := 0, ext := [], log := [], facts := [] } }

/-- Seen anew: by another environment, with less in sight. -/
theorem recast {w0 : World} {e e2 : Env} {β : Nat → Nat} {st : St} {a : Act} {w : World} (hr : Rel w0 e β st a w) (hlog : st.h.log = []) {n : Nat} {tms : List (Nat × SV)} {bs : List (Nat × Blk)} {cnt ni : Nat} (hn : n = st.n)
    (htm : ∀ p ∈ tms, ∃ s', st.tm.get p.1 = some s' ∧ p.2.den β e2 = s'.den β e ∧ p.2.ok cnt e2)
    (hbs : ∀ p ∈ bs, p.1 < cnt ∧ ∃ b', st.h.blk.get p.1 = some b' ∧ p.2.ty = b'.ty ∧ p.2.cells.map (Atom.den β e2) = b'.cells.map (Atom.den β e) ∧ ∀ c ∈ p.2.cells, c.ok cnt e2) :
    Rel w0 e2 β (headSt n tms bs cnt ni) a w where
  nd := hr.nd
  sz := by rw [hr.sz]; exact hn.symm
  fr := fun t s hs => by
    obtain ⟨s', h1, h2, h3⟩ := htm (t, s) (tmOf_mem hs)
    obtain ⟨g1, g2⟩ := hr.fr t s' h1
    exact ⟨by rw [g1]; exact h2.symm, h3⟩
  hp := {
    tape := hr.hp.tape
    os := hr.hp.os
    output := hr.hp.output
    size := hr.hp.size
    blk := fun k b hk => by
      obtain ⟨h0, b', h1, h2, h3, h4⟩ := hbs (k, b) (blkOf_mem hk)
      obtain ⟨g1, g2, g3, g4⟩ := hr.hp.blk k b' h1
      simp only at h2 h3
      refine ⟨h0, g2, ?_, h4⟩
      rw [h3, h2]; exact g3
    inj := fun k k' b b' hk hk' he => by
      obtain ⟨_, c, h1, _⟩ := hbs (k, b) (blkOf_mem hk)
      obtain ⟨_, c', h1', _⟩ := hbs (k', b') (blkOf_mem hk')
      exact hr.hp.inj k k' c c' h1 h1' he
    old := fun j hj => by
      have := hr.hp.old j hj
      rw [hlog] at this
      exact this
    logok := fun x hx => by simp [headSt] at hx
    extb := fun j c hj => by simp [headSt] at hj
    ext := fun j c hj => by simp [headSt] at hj
    frz := fun c hc => by simp [headSt] at hc
    dis := fun j c c0 _ hj => by simp [headSt] at hj
    gl := fun g c hj => by simp [headSt] at hj
    facts := fun x hx => by simp [headSt] at hx }
end
end Go.Sx
namespace Go.Sx
open Go
/-- What is seen of a state where a piece of code ends. -/
structure Snap where
  x : Xt
  tms : List (Option SV)
  bs : List (Option Blk)
  log : List (Nat × Atom)
  n : Nat
def snapK (ts js : List Nat) : Xt → St → Option (Tree Snap) := fun x st =>
  some (.leaf ⟨x, ts.map fun t => st.tm.get t, js.map fun j => st.h.blk.get j, st.h.log, st.n⟩)
/-- Ways into a code. -/
def cl : Code → Code
  | .seq a _ => a
  | c => c
def cr : Code → Code
  | .seq _ b => b
  | c => c
def cb : Code → Code
  | .block _ b => b
  | .loop b => b
  | c => c
end Go.Sx
namespace Go.Sx
open Go

/-! ### Patterns: a state az a list of whole numbers -/
structure Pat where
  n : Nat
  tms : List (Nat × SV)
  bs : List (Nat × Blk)
  cnt : Nat
  ni : Nat
  ext : List (List Atom)
  facts : List (BE × Bool) := []
def Pat.st (p : Pat) : St := { tm := tmOf p.tms, n := p.n, h := { blk := blkOf p.bs, cnt := p.cnt, ni := p.ni, nb := 0, nf := 0, ext := p.ext, log := [], facts := p.facts } }

def rootB (n : Nat) : Root → Bool
  | .own k => Nat.blt k n
  | _ => true
/-- An atom of a pattern held against what is there: the numbers that it takes, from number c on. -/
def mA (cnt c : Nat) : Atom → Atom → Option (List IE)
  | .int k (.v j), .int k' x => bif decide (k = k') && Nat.beq j c then some [x] else none
  | .int k (.c n), .int k' (.c m) => bif decide (k = k') && decide (n = m) then some [] else none
  | .ptr a, .ptr b => bif sameS a b && rootB cnt a.root then some [] else none
  | .slice a l m, .slice b l' m' => bif sameS a b && rootB cnt a.root && Nat.beq l l' && Nat.beq m m' then some [] else none
  | .bool (.c b), .bool (.c b') => bif b == b' then some [] else none
  | _, _ => none
def mAs (cnt : Nat) : Nat → List Atom → List Atom → Option (List IE)
  | _, [], [] => some []
  | c, p :: ps, a :: az => match mA cnt c p a with
    | some l => match mAs cnt (c + l.length) ps az with
      | some l' => some (l ++ l')
      | none => none
    | none => none
  | _, _, _ => none
def mS (cnt c : Nat) : SV → SV → Option (List IE)
  | .one (.at p), .one (.at a) => mA cnt c p a
  | .one (.agg p), .one (.agg a) => mAs cnt c p a
  | _, _ => none
def mTm (cnt : Nat) (tm : T SV) : Nat → List (Nat × SV) → Option (List IE)
  | _, [] => some []
  | c, (t, p) :: ps => match tm.get t with
    | some s => match mS cnt c p s with
      | some l => match mTm cnt tm (c + l.length) ps with
        | some l' => some (l ++ l')
        | none => none
      | none => none
    | none => none
def mBs (cnt : Nat) (bt : T Blk) : Nat → List (Nat × Blk) → Option (List IE)
  | _, [] => some []
  | c, (k, p) :: ps => match bt.get k with
    | some b => bif Nat.blt k cnt && Nat.beq p.ty b.ty then match mAs cnt c p.cells b.cells with
        | some l => match mBs cnt bt (c + l.length) ps with
          | some l' => some (l ++ l')
          | none => none
        | none => none
      else none
    | none => none
def mEx (cnt : Nat) : Nat → List (List Atom) → List (List Atom) → Option (List IE)
  | _, [], [] => some []
  | c, p :: ps, a :: az => match mAs cnt c p a with
    | some l => match mEx cnt (c + l.length) ps az with
      | some l' => some (l ++ l')
      | none => none
    | none => none
  | _, _, _ => none
def matchSt (p : Pat) (st : St) : Option (List IE) :=
  bif Nat.beq p.n st.n && st.h.log.isEmpty then
    match mTm p.cnt st.tm 0 p.tms with
    | some l1 => match mBs p.cnt st.h.blk l1.length p.bs with
      | some l2 => match mEx p.cnt (l1.length + l2.length) p.ext st.h.ext with
        | some l3 => let l := l1 ++ (l2 ++ l3); bif Nat.beq l.length p.ni then some l else none
        | none => none
      | none => none
    | none => none
  else none

section
variable {e e2 : Env} {β : Nat → Nat} {cnt : Nat}
theorem rootB_ok {n : Nat} {r : Root} (h : rootB n r = true) : r.ok n := by
  cases r with
  | own k => exact blt_lt h
  | _ => trivial
theorem sa_ext (hext : e2.ext = e.ext) (a : SA) : a.den β e2 = a.den β e := by
  obtain ⟨r, o⟩ := a
  cases r <;> simp only [SA.den, hext]
theorem mA_sound (hext : e2.ext = e.ext) {c : Nat} {p a : Atom} {l : List IE} (h : mA cnt c p a = some l) {n : Nat} (hok : a.ok n e) (he : ∀ j x, l[j]? = some x → e2.i (c + j) = x.den e) :
    p.den β e2 = a.den β e ∧ p.ok cnt e2 := by
  unfold mA at h
  split at h
  · rename_i k j k' x
    cases hb : (decide (k = k') && Nat.beq j c) with
    | false => rw [hb] at h; cases h
    | true =>
      rw [hb] at h; cases h
      simp only [Bool.and_eq_true, decide_eq_true_eq] at hb
      obtain ⟨rfl, hj⟩ := hb
      have hj := Nat.eq_of_beq_eq_true hj
      subst hj
      have h1 := he 0 x rfl
      rw [Nat.add_zero] at h1
      refine ⟨by simp only [Atom.den, den_v, h1], ?_⟩
      show inR k (e2.i j)
      rw [h1]; exact hok
  · rename_i k n' k' m
    cases hb : (decide (k = k') && decide (n' = m)) with
    | false => rw [hb] at h; cases h
    | true =>
      rw [hb] at h; cases h
      simp only [Bool.and_eq_true, decide_eq_true_eq] at hb
      obtain ⟨rfl, rfl⟩ := hb
      exact ⟨rfl, hok⟩
  · rename_i x y
    cases hb : (sameS x y && rootB cnt x.root) with
    | false => rw [hb] at h; cases h
    | true =>
      rw [Bool.and_eq_true] at hb
      have := sameS_spec hb.1
      subst this
      exact ⟨by simp only [Atom.den, sa_ext hext], rootB_ok hb.2⟩
  · rename_i x l1 m1 y l2 m2
    cases hb : (sameS x y && rootB cnt x.root && Nat.beq l1 l2 && Nat.beq m1 m2) with
    | false => rw [hb] at h; cases h
    | true =>
      simp only [Bool.and_eq_true] at hb
      have := sameS_spec hb.1.1.1
      subst this
      have g1 := Nat.eq_of_beq_eq_true hb.1.2
      have g2 := Nat.eq_of_beq_eq_true hb.2
      subst g1; subst g2
      exact ⟨by simp only [Atom.den, sa_ext hext], rootB_ok hb.1.1.2⟩
  · rename_i x y
    cases hb : (x == y) with
    | false => rw [hb] at h; cases h
    | true =>
      have := eq_of_beq hb
      subst this
      exact ⟨rfl, trivial⟩
  · cases h

theorem get_app1 {l l' : List IE} {j : Nat} {x : IE} (h : l[j]? = some x) : (l ++ l')[j]? = some x := by
  rw [List.getElem?_append_left (List.getElem?_eq_some_iff.1 h).1]; exact h
theorem get_app2 {l l' : List IE} {j : Nat} {x : IE} (h : l'[j]? = some x) : (l ++ l')[l.length + j]? = some x := by
  rw [List.getElem?_append_right (by omega), Nat.add_sub_cancel_left]; exact h

theorem mAs_sound (hext : e2.ext = e.ext) {n : Nat} : ∀ (ps az : List Atom) {c : Nat} {l : List IE}, mAs cnt c ps az = some l → (∀ a ∈ az, a.ok n e) → (∀ j x, l[j]? = some x → e2.i (c + j) = x.den e) →
    ps.map (Atom.den β e2) = az.map (Atom.den β e) ∧ ∀ p ∈ ps, p.ok cnt e2
  | [], [], c, l, _, _, _ => ⟨rfl, by simp⟩
  | [], _ :: _, c, l, h, _, _ => by cases h
  | _ :: _, [], c, l, h, _, _ => by cases h
  | p :: ps, a :: az, c, l, h, hok, he => by
    unfold mAs at h
    split at h
    · rename_i l1 h1
      split at h
      · rename_i l2 h2
        cases h
        obtain ⟨g1, g2⟩ := mA_sound (β := β) hext h1 (hok a (by simp)) fun j x hj => he j x (get_app1 hj)
        obtain ⟨g3, g4⟩ := mAs_sound hext ps az h2 (fun b hb => hok b (by simp [hb])) fun j x hj => by
          have := he _ x (get_app2 hj)
          rw [← Nat.add_assoc] at this
          exact this
        refine ⟨by rw [List.map_cons, List.map_cons, g1, g3], fun q hq => ?_⟩
        rcases List.mem_cons.1 hq with hq | hq
        · subst hq; exact g2
        · exact g4 q hq
      · cases h
    · cases h
theorem mS_sound (hext : e2.ext = e.ext) {n c : Nat} {p s : SV} {l : List IE} (h : mS cnt c p s = some l) (hok : s.ok n e) (he : ∀ j x, l[j]? = some x → e2.i (c + j) = x.den e) :
    p.den β e2 = s.den β e ∧ p.ok cnt e2 := by
  unfold mS at h
  split at h
  · exact mA_sound hext h hok he
  · obtain ⟨g1, g2⟩ := mAs_sound (β := β) hext _ _ h hok he
    exact ⟨by simp only [SV.den, SV1.den, g1], g2⟩
  · cases h
theorem mTm_sound (hext : e2.ext = e.ext) {n : Nat} {tm : T SV} (hok : ∀ t s, tm.get t = some s → s.ok n e) : ∀ (ps : List (Nat × SV)) {c : Nat} {l : List IE}, mTm cnt tm c ps = some l → (∀ j x, l[j]? = some x → e2.i (c + j) = x.den e) →
    ∀ p ∈ ps, ∃ s', tm.get p.1 = some s' ∧ p.2.den β e2 = s'.den β e ∧ p.2.ok cnt e2
  | [], c, l, _, _ => by simp
  | (t, p) :: ps, c, l, h, he => by
    unfold mTm at h
    split at h
    · rename_i s hs
      split at h
      · rename_i l1 h1
        split at h
        · rename_i l2 h2
          cases h
          obtain ⟨g1, g2⟩ := mS_sound (β := β) hext h1 (hok t s hs) fun j x hj => he j x (get_app1 hj)
          have g3 := mTm_sound hext hok ps h2 fun j x hj => by
            have := he _ x (get_app2 hj)
            rw [← Nat.add_assoc] at this
            exact this
          intro q hq
          rcases List.mem_cons.1 hq with hq | hq
          · subst hq; exact ⟨s, hs, g1, g2⟩
          · exact g3 q hq
        · cases h
      · cases h
    · cases h
theorem mBs_sound (hext : e2.ext = e.ext) {n : Nat} {bt : T Blk} (hok : ∀ k b, bt.get k = some b → ∀ a ∈ b.cells, a.ok n e) : ∀ (ps : List (Nat × Blk)) {c : Nat} {l : List IE}, mBs cnt bt c ps = some l → (∀ j x, l[j]? = some x → e2.i (c + j) = x.den e) →
    ∀ p ∈ ps, p.1 < cnt ∧ ∃ b', bt.get p.1 = some b' ∧ p.2.ty = b'.ty ∧ p.2.cells.map (Atom.den β e2) = b'.cells.map (Atom.den β e) ∧ ∀ a ∈ p.2.cells, a.ok cnt e2
  | [], c, l, _, _ => by simp
  | (k, p) :: ps, c, l, h, he => by
    unfold mBs at h
    split at h
    · rename_i b hb
      cases hc : (Nat.blt k cnt && Nat.beq p.ty b.ty) with
      | false => rw [hc] at h; cases h
      | true =>
        rw [hc] at h
        simp only [cond_true] at h
        rw [Bool.and_eq_true] at hc
        split at h
        · rename_i l1 h1
          split at h
          · rename_i l2 h2
            cases h
            obtain ⟨g1, g2⟩ := mAs_sound (β := β) hext _ _ h1 (hok k b hb) fun j x hj => he j x (get_app1 hj)
            have g3 := mBs_sound hext hok ps h2 fun j x hj => by
              have := he _ x (get_app2 hj)
              rw [← Nat.add_assoc] at this
              exact this
            intro q hq
            rcases List.mem_cons.1 hq with hq | hq
            · subst hq; exact ⟨blt_lt hc.1, b, hb, Nat.eq_of_beq_eq_true hc.2, g1, g2⟩
            · exact g3 q hq
          · cases h
        · cases h
    · cases h
theorem mEx_sound (hext : e2.ext = e.ext) {n : Nat} : ∀ (ps az : List (List Atom)) {c : Nat} {l : List IE}, mEx cnt c ps az = some l → (∀ a ∈ az, ∀ x ∈ a, x.ok n e) → (∀ j x, l[j]? = some x → e2.i (c + j) = x.den e) →
    ∀ (j : Nat) (p : List Atom), ps[j]? = some p → ∃ a : List Atom, az[j]? = some a ∧ p.map (Atom.den β e2) = a.map (Atom.den β e) ∧ ∀ x ∈ p, x.ok cnt e2
  | [], [], c, l, _, _, _ => by simp
  | [], _ :: _, c, l, h, _, _ => by cases h
  | _ :: _, [], c, l, h, _, _ => by cases h
  | p :: ps, a :: az, c, l, h, hok, he => by
    unfold mEx at h
    split at h
    · rename_i l1 h1
      split at h
      · rename_i l2 h2
        cases h
        obtain ⟨g1, g2⟩ := mAs_sound (β := β) hext _ _ h1 (hok a (by simp)) fun j x hj => he j x (get_app1 hj)
        have g3 := mEx_sound hext ps az h2 (fun b hb => hok b (by simp [hb])) fun j x hj => by
          have := he _ x (get_app2 hj)
          rw [← Nat.add_assoc] at this
          exact this
        intro j q hq
        cases j with
        | zero =>
          simp only [List.getElem?_cons_zero, Option.some.injEq] at hq
          subst hq
          exact ⟨a, rfl, g1, g2⟩
        | succ j =>
          simp only [List.getElem?_cons_succ] at hq
          obtain ⟨b, hb, g4⟩ := g3 j q hq
          exact ⟨b, by simpa using hb, g4⟩
      · cases h
    · cases h

theorem matchSt_sound {w0 : World} {p : Pat} {st : St} {l : List IE} {a : Act} {w : World} (h : matchSt p st = some l) (hr : Rel w0 e β st a w) (he : ∀ j x, l[j]? = some x → e2.i j = x.den e) (hext : e2.ext = e.ext) (hf : Facts e2 p.facts) :
    Rel w0 e2 β p.st a w ∧ l.length = p.ni := by
  unfold matchSt at h
  cases hb : (Nat.beq p.n st.n && st.h.log.isEmpty) with
  | false => rw [hb] at h; cases h
  | true =>
    rw [hb] at h
    simp only [cond_true] at h
    rw [Bool.and_eq_true] at hb
    obtain ⟨hb1, hb2⟩ := hb
    have hn := Nat.eq_of_beq_eq_true hb1
    have hlog : st.h.log = [] := List.isEmpty_iff.1 hb2
    split at h
    · rename_i l1 h1
      split at h
      · rename_i l2 h2
        split at h
        · rename_i l3 h3
          cases hl : Nat.beq (l1 ++ (l2 ++ l3)).length p.ni with
          | false => rw [hl] at h; cases h
          | true =>
            rw [hl] at h
            simp only [cond_true, Option.some.injEq] at h
            subst h
            have htm := mTm_sound (β := β) hext (fun t s hs => (hr.fr t s hs).2) p.tms h1 (fun j x hj => by rw [Nat.zero_add]; exact he j x (get_app1 hj))
            have hbs := mBs_sound (β := β) hext (fun k b hk => (hr.hp.blk k b hk).2.2.2) p.bs h2 (fun j x hj => he _ x (get_app2 (get_app1 hj)))
            have hex := mEx_sound (β := β) (n := st.h.cnt) hext p.ext st.h.ext h3 (fun a ha x hx => by
                obtain ⟨j, hj⟩ := List.getElem?_of_mem ha
                obtain ⟨i, hi⟩ := List.getElem?_of_mem hx
                exact (hr.hp.ext j a hj i x hi).2)
              (fun j x hj => by
                have := he _ x (get_app2 (get_app2 hj))
                rw [← Nat.add_assoc] at this
                exact this)
            have hlen : ∀ {p r : List Atom}, p.map (Atom.den β e2) = r.map (Atom.den β e) → p.length = r.length := fun h => by
              have := congrArg List.length h
              simpa using this
            refine ⟨⟨hr.nd, by rw [hr.sz]; exact hn.symm, fun t s hs => ?_, ?_⟩, Nat.eq_of_beq_eq_true hl⟩
            · obtain ⟨s', k1, k2, k3⟩ := htm (t, s) (tmOf_mem hs)
              obtain ⟨g1, g2⟩ := hr.fr t s' k1
              exact ⟨by rw [g1]; exact k2.symm, k3⟩
            · exact {
                tape := hr.hp.tape
                os := hr.hp.os
                output := hr.hp.output
                size := hr.hp.size
                blk := fun k b hk => by
                  obtain ⟨h0, b', h1, h2, h3, h4⟩ := hbs (k, b) (blkOf_mem hk)
                  obtain ⟨g1, g2, g3, g4⟩ := hr.hp.blk k b' h1
                  simp only at h2 h3
                  refine ⟨h0, g2, ?_, h4⟩
                  rw [h3, h2]; exact g3
                inj := fun k k' b b' hk hk' he => by
                  obtain ⟨_, c, h1, _⟩ := hbs (k, b) (blkOf_mem hk)
                  obtain ⟨_, c', h1', _⟩ := hbs (k', b') (blkOf_mem hk')
                  exact hr.hp.inj k k' c c' h1 h1' he
                old := fun j hj => by
                  have := hr.hp.old j hj
                  rw [hlog] at this
                  exact this
                logok := fun x hx => by simp [Pat.st] at hx
                extb := fun j c hj => by
                  obtain ⟨c', g1, g2, g3⟩ := hex j c hj
                  rw [hext]; exact hr.hp.extb j c' g1
                ext := fun j c hj i x hx => by
                  obtain ⟨c', g1, g2, g3⟩ := hex j c hj
                  have hl := hlen g2
                  have hi : i < c'.length := by rw [← hl]; exact (List.getElem?_eq_some_iff.1 hx).1
                  have h5 : c'[i]? = some c'[i] := List.getElem?_eq_getElem hi
                  obtain ⟨k1, k2⟩ := hr.hp.ext j c' g1 i _ h5
                  refine ⟨?_, g3 x (List.mem_of_getElem? hx)⟩
                  rw [hext, k1]
                  have h6 := congrArg (fun l => l[i]?) g2
                  simp only [List.getElem?_map, hx, h5, Option.map_some, Option.some.injEq] at h6
                  rw [h6]
                frz := fun c hc i hi => by
                  obtain ⟨c', g1, g2, g3⟩ := hex 0 c hc
                  rw [hext]
                  exact hr.hp.frz c' g1 i (by rw [← hlen g2]; exact hi)
                dis := fun j c c0 hj hc hc0 i i' hi hi' => by
                  obtain ⟨c', g1, g2, g3⟩ := hex j c hc
                  obtain ⟨c0', g1', g2', g3'⟩ := hex 0 c0 hc0
                  rw [hext]
                  exact hr.hp.dis j c' c0' hj g1 g1' i i' (by rw [← hlen g2]; exact hi) (by rw [← hlen g2']; exact hi')
                gl := fun g c hg => by
                  obtain ⟨c', g1, _, _⟩ := hex (g + 7) c hg
                  rw [hext]; exact hr.hp.gl g c' g1
                facts := hf }
        · cases h
      · cases h
    · cases h
end

/-- The environment of some values. -/
def envOf (vals : Nat → Int) (x0 : Nat → Addr) : Env := { i := vals, b := fun _ => false, f := fun _ => 0, ext := x0 }
/-- A state that fits a pattern with some values. -/
def At (w0 : World) (x0 : Nat → Addr) (p : Pat) (vals : Nat → Int) (a : Act) (w : World) : Prop := ∃ β, Rel w0 (envOf vals x0) β p.st a w
abbrev VL := Xt × List IE
def VL.vals (l : VL) (e : Env) : Nat → Int := fun j => (l.2.getD j (.c 0)).den e
def kM (pp : Xt → Pat) : Xt → St → Option (Tree VL) := fun x st => match matchSt (pp x) st with
  | some l => some (.leaf (x, l))
  | none => none
def Atom.ltB (ni nb nf : Nat) : Atom → Bool
  | .int _ x => x.lt ni nb nf
  | .bool x => x.bd ni nb nf
  | .iface _ a => a.ltB ni nb nf
  | _ => true
def SV1.ltB (ni nb nf : Nat) : SV1 → Bool
  | .at a => a.ltB ni nb nf
  | .agg l => l.all fun a => a.ltB ni nb nf
def SV.ltB (ni nb nf : Nat) : SV → Bool
  | .one x => x.ltB ni nb nf
  | .tup l => l.all fun x => x.ltB ni nb nf
section
variable {ni nb nf : Nat} {e e' : Env} {β : Nat → Nat} {n : Nat}
theorem Atom.agreeE (ha : AgreeE ni nb nf e e') : ∀ {a : Atom}, a.ltB ni nb nf = true → a.den β e' = a.den β e ∧ (a.ok n e → a.ok n e')
  | .int k x, h => by
    have := IE.den_agree ha h
    refine ⟨by simp only [Atom.den, this], fun ho => ?_⟩
    show inR k (x.den e')
    rw [this]; exact ho
  | .bool x, h => ⟨by simp only [Atom.den, BE.den_agree ha h], fun _ => trivial⟩
  | .ptr a, _ => ⟨by simp only [Atom.den, sa_ext ha.ext], fun ho => ho⟩
  | .slice a _ _, _ => ⟨by simp only [Atom.den, sa_ext ha.ext], fun ho => ho⟩
  | .slc a _ _ _, _ => ⟨by simp only [Atom.den, sa_ext ha.ext], fun ho => ho⟩
  | .lit v, _ => ⟨rfl, fun ho => ho⟩
  | .iface t a, h => by
    obtain ⟨h1, h2⟩ := Atom.agreeE ha (a := a) h
    exact ⟨by simp only [Atom.den, h1], h2⟩
theorem atoms_agreeE (ha : AgreeE ni nb nf e e') {l : List Atom} (h : (l.all fun a => a.ltB ni nb nf) = true) : l.map (Atom.den β e') = l.map (Atom.den β e) ∧ ((∀ a ∈ l, a.ok n e) → ∀ a ∈ l, a.ok n e') :=
  ⟨List.map_congr_left fun a hm => (Atom.agreeE (n := n) ha (List.all_eq_true.1 h a hm)).1, fun ho a hm => (Atom.agreeE (β := fun _ => 0) ha (List.all_eq_true.1 h a hm)).2 (ho a hm)⟩
theorem SV1.agreeE (ha : AgreeE ni nb nf e e') {x : SV1} (h : x.ltB ni nb nf = true) : x.den β e' = x.den β e ∧ (x.ok n e → x.ok n e') := by
  cases x with
  | «at» a => exact Atom.agreeE ha h
  | agg l =>
    obtain ⟨h1, h2⟩ := atoms_agreeE (β := β) (n := n) ha h
    exact ⟨by simp only [SV1.den, h1], h2⟩
theorem SV.agreeE (ha : AgreeE ni nb nf e e') {x : SV} (h : x.ltB ni nb nf = true) : x.den β e' = x.den β e ∧ (x.ok n e → x.ok n e') := by
  cases x with
  | one x => exact SV1.agreeE ha h
  | tup l =>
    exact ⟨by simp only [SV.den]; rw [List.map_congr_left fun a hm => (SV1.agreeE (n := n) ha (List.all_eq_true.1 h a hm)).1], fun ho a hm => (SV1.agreeE (β := fun _ => 0) ha (List.all_eq_true.1 h a hm)).2 (ho a hm)⟩
end
/-- A pattern that speaks of its own numbers alone. -/
def Pat.self (p : Pat) : Prop :=
  ((p.tms.all fun x => x.2.ltB p.ni 0 0) && (p.bs.all fun x => x.2.cells.all fun a => a.ltB p.ni 0 0) && (p.ext.all fun c => c.all fun a => a.ltB p.ni 0 0) && (p.facts.all fun x => x.1.bd p.ni 0 0)) = true

theorem at_of_match {w0 : World} {e : Env} {β : Nat → Nat} {p : Pat} {st : St} {l : List IE} {a : Act} {w : World} (h : matchSt p st = some l) (hr : Rel w0 e β st a w) {x0 : Nat → Addr} (hx : e.ext = x0) (hf : Facts (envOf (fun j => (l.getD j (.c 0)).den e) x0) p.facts) :
    At w0 x0 p (fun j => (l.getD j (.c 0)).den e) a w := by
  refine ⟨β, (matchSt_sound h hr (fun j x hj => ?_) (by rw [hx]; rfl) hf).1⟩
  simp [envOf, List.getD_eq_getElem?_getD, hj]

theorem At.env {w0 : World} {x0 : Nat → Addr} {p : Pat} {vals : Nat → Int} {a : Act} {w : World} (hs : p.self) (h : At w0 x0 p vals a w) : ∃ β, ∀ e', AgreeE p.ni 0 0 (envOf vals x0) e' → Rel w0 e' β p.st a w := by
  obtain ⟨β, hr⟩ := h
  refine ⟨β, fun e' ha => ?_⟩
  unfold Pat.self at hs
  simp only [Bool.and_eq_true] at hs
  obtain ⟨⟨⟨h1, h2⟩, h3⟩, h4⟩ := hs
  have hbs : ∀ k b, p.st.h.blk.get k = some b → (b.cells.all fun a => a.ltB p.ni 0 0) = true := fun k b hk => List.all_eq_true.1 h2 (k, b) (blkOf_mem hk)
  have hex : ∀ (j : Nat) (c : List Atom), p.st.h.ext[j]? = some c → (c.all fun a => a.ltB p.ni 0 0) = true := fun j c hc => List.all_eq_true.1 h3 c (List.mem_of_getElem? hc)
  refine ⟨hr.nd, hr.sz, fun t s hs => ?_, ?_⟩
  · obtain ⟨g1, g2⟩ := hr.fr t s hs
    obtain ⟨k1, k2⟩ := SV.agreeE (β := β) (n := p.st.h.cnt) ha (List.all_eq_true.1 h1 (t, s) (tmOf_mem hs))
    exact ⟨by rw [g1]; exact k1.symm, k2 g2⟩
  · exact {
      tape := hr.hp.tape
      os := hr.hp.os
      output := hr.hp.output
      size := hr.hp.size
      blk := fun k b hk => by
        obtain ⟨g1, g2, g3, g4⟩ := hr.hp.blk k b hk
        obtain ⟨k1, k2⟩ := atoms_agreeE (β := β) (n := p.st.h.cnt) ha (hbs k b hk)
        exact ⟨g1, g2, by rw [k1]; exact g3, k2 g4⟩
      inj := hr.hp.inj
      old := hr.hp.old
      logok := fun x hx => by simp [Pat.st] at hx
      extb := fun j c hj => by rw [ha.ext]; exact hr.hp.extb j c hj
      ext := fun j c hj i x hx => by
        obtain ⟨g1, g2⟩ := hr.hp.ext j c hj i x hx
        obtain ⟨k1, k2⟩ := Atom.agreeE (β := β) (n := p.st.h.cnt) ha (List.all_eq_true.1 (hex j c hj) x (List.mem_of_getElem? hx))
        rw [ha.ext, k1]
        exact ⟨g1, k2 g2⟩
      frz := fun c hc i hi => by rw [ha.ext]; exact hr.hp.frz c hc i hi
      dis := fun j c c0 hj hc hc0 i i' hi hi' => by rw [ha.ext]; exact hr.hp.dis j c c0 hj hc hc0 i i' hi hi'
      gl := fun g c hg => by rw [ha.ext]; exact hr.hp.gl g c hg
      facts := fun x hx => by
        rw [BE.den_agree ha (List.all_eq_true.1 h4 x hx)]
        exact hr.hp.facts x hx }

/-! ### Codes one behind the other -/
def flat : Code → List Code
  | .seq a b => flat a ++ flat b
  | c => [c]
def sxs {L : Type} (P : Program) (qf pf : QSum) (n : Nat) : List Code → St → (Xt → St → Option (Tree L)) → Option (Tree L)
  | [], st, k => k .normal st
  | c :: cs, st, k => sx P qf pf n c st fun x st' => match x with
    | .normal => sxs P qf pf n cs st' k
    | x => k x st'
section
variable (P : Program)
def nest : List Code → (Act → World → Prop) → (Exit → Act → World → Prop) → Act → World → Prop
  | [], R, _ => R
  | c :: cs, R, Q => c.wp P (Exit.then (nest cs R Q) Q)
end
section
variable {P : Program} {qf pf : QSum}
theorem then_then (N N' : Act → World → Prop) (Q : Exit → Act → World → Prop) : Exit.then N (Exit.then N' Q) = Exit.then N Q := by
  funext e a w
  cases e <;> rfl
theorem nest_append (cs cs' : List Code) (R : Act → World → Prop) (Q : Exit → Act → World → Prop) : nest P (cs ++ cs') R Q = nest P cs (nest P cs' R Q) Q := by
  induction cs with
  | nil => rfl
  | cons c cs ih => rw [List.cons_append, nest, nest, ih]
theorem nest_flat (c : Code) : ∀ {R : Act → World → Prop} {Q : Exit → Act → World → Prop} {a : Act} {w : World}, nest P (flat c) R Q a w → c.wp P (Exit.then R Q) a w := by
  induction c with
  | seq x y ihx ihy =>
    intro R Q a w h
    rw [flat, nest_append] at h
    have h1 := ihx h
    refine wp_seq (Code.wp_mono ?_ h1)
    intro e a' w' hq
    cases e with
    | normal => exact ihy hq
    | _ => exact hq
  | _ => intro R Q a w h; exact h
theorem wp_flat {c : Code} {Q : Exit → Act → World → Prop} {a : Act} {w : World} (h : nest P (flat c) (Q .normal) Q a w) : c.wp P Q a w := by
  have h1 := nest_flat c h
  have : Exit.then (Q .normal) Q = Q := by funext e a w; cases e <;> rfl
  rw [this] at h1
  exact h1
theorem sxs_sound {L : Type} {w0 : World} {e : Env} {Φ : L → Prop} (hm : P.follows .mixedOrders = true) (hnum : NumOk P) (hq : QOk P qf) (hp : POk P pf) (n : Nat) : ∀ (cs : List Code) {st : St} {k : Xt → St → Option (Tree L)} {tree : Tree L} {β : Nat → Nat} {a : Act} {w : World}
    {R : Act → World → Prop} {Q : Exit → Act → World → Prop}, sxs P qf pf n cs st k = some tree → tree.holds e Φ → Rel w0 e β st a w → Calm Q → KOk w0 e Φ st β w k (Exit.then R Q) → nest P cs R Q a w
  | [], st, k, tree, β, a, w, R, Q, hd, ht, hr, _, hk => hk β .normal st tree a w (Agree.refl _ _) (Nat.le_refl _) (Nat.le_refl _) hd ht hr
  | c :: cs, st, k, tree, β, a, w, R, Q, hd, ht, hr, hc, hk => by
    refine (sx_sound hm hnum hq hp n hd ht hr hc.then fun β' x st' tree' a' w' g1 g2 g3 g4 g5 g6 => ?_).1
    cases x with
    | normal => exact sxs_sound hm hnum hq hp n cs g4 g5 g6 hc fun β2 x2 st2 tree2 a2 w2 k1 k2 k3 k4 k5 k6 => hk β2 x2 st2 tree2 a2 w2 (g1.trans g2 k1) (Nat.le_trans g2 k2) (Nat.le_trans g3 k3) k4 k5 k6
    | exit id => exact hk β' (.exit id) st' tree' a' w' g1 g2 g3 g4 g5 g6
    | ret => exact hk β' .ret st' tree' a' w' g1 g2 g3 g4 g5 g6

/-- A piece of code between two patterns. -/
theorem piece (hm : P.follows .mixedOrders = true) (hnum : NumOk P) (hq : QOk P qf) (hp : POk P pf) {n : Nat} {cs : List Code} {p : Pat} {pp : Xt → Pat} {t : Tree VL} (hsx : sxs P qf pf n cs p.st (kM pp) = some t)
    (hs : p.self) (hbd : t.bd p.ni 0 0 = true) {w0 : World} {x0 : Nat → Addr} {vals : Nat → Int} {a : Act} {w : World} (hat : At w0 x0 p vals a w) {Φ : Xt → (Nat → Int) → Prop}
    (law : ∀ e, AgreeE p.ni 0 0 (envOf vals x0) e → t.goal e fun l => Φ l.1 (VL.vals l e)) {R : Act → World → Prop} {Q : Exit → Act → World → Prop} (hc : Calm Q)
    (hF : ∀ x vals', Φ x vals' → Facts (envOf vals' x0) (pp x).facts) (hQ : ∀ x vals' a' w', Φ x vals' → At w0 x0 (pp x) vals' a' w' → Exit.then R Q x.ex a' w') : nest P cs R Q a w := by
  obtain ⟨β, hrel⟩ := hat.env hs
  obtain ⟨e', he, hmeet⟩ := t.meet (envOf vals x0) hbd
  have hh := hmeet _ (law e' he)
  refine sxs_sound hm hnum hq hp n cs hsx hh (hrel e' he) hc fun β' x st' tree' a' w' g1 g2 g3 g4 g5 g6 => ?_
  unfold kM at g4
  split at g4
  · rename_i l hl
    cases g4
    exact hQ x _ a' w' g5 (at_of_match hl g6 he.ext (hF x _ g5))
  · cases g4

/-- The last piece of a function. -/
def kR (P : Program) (fn : Func) : Xt → St → Option (Tree Lf) := fun x st => match x with
  | .exit _ => none
  | _ => match resVs P st.tm st.h fn.results.toList with
    | some l => some (.leaf (resS l, st.h.log))
    | none => none
theorem last {fn : Func} (hm : P.follows .mixedOrders = true) (hnum : NumOk P) (hq : QOk P qf) (hp : POk P pf) {n : Nat} {cs : List Code} {st : St} {t : Tree Lf} (hsx : sxs P qf pf n cs st (kR P fn) = some t)
    {ni nb nf : Nat} (hbd : t.bd ni nb nf = true) {w0 : World} {e : Env} {β : Nat → Nat} {a : Act} {w : World} (hrel : ∀ e', AgreeE ni nb nf e e' → Rel w0 e' β st a w) {Φ : Env → Lf → Prop}
    (law : ∀ e', AgreeE ni nb nf e e' → t.goal e' (Φ e')) {R : Ending → World → Prop} (hRc : ∀ en w, R en w → ∃ v, en = .returned v)
    (hR : ∀ e' β' v log w', AgreeE ni nb nf e e' → Φ e' (v, log) → Grow (apLog β' e' log w0) w' → R (.returned (v.den β' e')) w') : nest P cs (bodyPost P fn R .normal) (bodyPost P fn R) a w := by
  obtain ⟨e', he, hmeet⟩ := t.meet e hbd
  have hh := hmeet _ (law e' he)
  refine sxs_sound hm hnum hq hp n cs hsx hh (hrel e' he) ⟨fun c a w hq => ?_, fun a w hq => ?_⟩ fun β' x st' tree' a' w' g1 g2 g3 g4 g5 g6 => ?_
  · obtain ⟨_, hR'⟩ := hq
    obtain ⟨v, he⟩ := hRc _ _ hR'
    cases he
  · obtain ⟨v, he⟩ := hRc _ _ hq
    cases he
  · have fin : ∀ l, resVs P st'.tm st'.h fn.results.toList = some l → tree' = .leaf (resS l, st'.h.log) →
        a'.defers = [] ∧ ∃ v, (results fn a'.tmps).run P w' = .ok v w' ∧ R (.returned v) w' := fun l hl ht => by
      subst ht
      obtain ⟨h1, h2⟩ := results_sound g6 hl
      obtain ⟨m1, m2, m3, m4⟩ := apLog_meta (β := β') (e := e') st'.h.log w0
      exact ⟨g6.nd, _, h1, hR e' β' _ _ w' he g5 ⟨by rw [m1]; exact g6.hp.tape, by rw [m2]; exact g6.hp.os, by rw [m3]; exact g6.hp.output, by rw [m4]; exact g6.hp.size, fun j hj => g6.hp.old j (by rw [m4] at hj; exact hj)⟩⟩
    cases x with
    | exit id => cases g4
    | normal =>
      simp only [kR] at g4
      split at g4
      · rename_i l hl; cases g4; exact fin l hl rfl
      · cases g4
    | ret =>
      simp only [kR] at g4
      split at g4
      · rename_i l hl; cases g4; exact fin l hl rfl
      · cases g4

/-- A function's head. -/
theorem enter_at {fn : Func} {args : List SV} {h0 : Hp} {p : Pat} {l : List IE} (hmatch : matchSt p { tm := argsT args 0 .leaf, n := max fn.ntmps args.length, h := h0 } = some l)
    {w : World} {e : Env} {β : Nat → Nat} (hr : HRel w e β h0 w) (ha : ∀ s ∈ args, s.ok h0.cnt e) (hf : Facts (envOf (fun j => (l.getD j (.c 0)).den e) e.ext) p.facts) :
    At w e.ext p (fun j => (l.getD j (.c 0)).den e) { tmps := (args.map (SV.den β e)).toArray ++ Array.replicate (fn.ntmps - (args.map (SV.den β e)).toArray.size) undef, defers := [] } w :=
  at_of_match hmatch (enter_rel hr ha fn.ntmps) rfl hf
/-- A bounded number of rounds of a loop within a block. -/
theorem block_loop {id : Nat} {b : Code} {R : Act → World → Prop} {Q : Exit → Act → World → Prop} {I : Nat → Act → World → Prop}
    (h : ∀ n a w, I n a w → nest P (flat b) (fun a' w' => ∃ m, m < n ∧ I m a' w') (Exit.inBlock id (Exit.then R Q)) a w) (n : Nat) (a : Act) (w : World) (hI : I n a w) : nest P [.block id (.loop b)] R Q a w := by
  show (Code.block id (.loop b)).wp P (Exit.then R Q) a w
  refine wp_block (loop_wp (I := I) (fun n a w hi => ?_) n a w hI)
  exact nest_flat b (h n a w hi)
end
end Go.Sx
namespace Go.Sx
open Go
set_option maxRecDepth 100000
/-! ### Aids to functions told by pieces -/
section
variable {P : Program}
theorem range_get {α : Type} {n : Nat} {f g : Nat → α} (h : (List.range n).map f = (List.range n).map g) {i : Nat} (hi : i < n) : f i = g i :=
  List.map_inj_left.1 h i (List.mem_range.2 hi)
theorem split3 (l : List Code) (k : Nat) (h : Nat.blt k l.length = true) : l = l.take k ++ ([l.getD k .skip] ++ l.drop (k + 1)) := by
  have hk : k < l.length := blt_lt h
  have h1 : l.getD k .skip = l[k] := by simp [List.getD_eq_getElem?_getD, hk]
  rw [h1, List.singleton_append, ← List.drop_eq_getElem_cons hk, List.take_append_drop]
theorem calm_body {fn : Func} {R : Ending → World → Prop} (hRc : ∀ en w, R en w → ∃ v, en = .returned v) : Calm (bodyPost P fn R) := by
  refine ⟨fun c a w hq => ?_, fun a w hq => ?_⟩
  · obtain ⟨_, hR'⟩ := hq
    obtain ⟨v, he⟩ := hRc _ _ hR'
    cases he
  · obtain ⟨v, he⟩ := hRc _ _ hq
    cases he
theorem calm_then {N : Act → World → Prop} {Q : Exit → Act → World → Prop} (h : Calm Q) : Calm (Exit.then N Q) := h.then
/-- A quiet function by its body. -/
theorem quiet_of_body (hnum : NumOk P) {f : FuncId} {fn : Func} {body : Code} (hfn : P.funcs[f]? = some fn) (hb : fn.body = some body) {args : Array Value} {v : Value} {w : World}
    (h : nest P (flat body) (bodyPost P fn (fun en w' => en = .returned v ∧ Grow w w') .normal) (bodyPost P fn fun en w' => en = .returned v ∧ Grow w w') { tmps := args ++ Array.replicate (fn.ntmps - args.size) undef, defers := [] } w) :
    QuietRun P (callFunc f args) v w := by
  unfold QuietRun
  rw [run_enter hnum hfn hb]
  exact calls_of_wp hfn hb (wp_flat h)
theorem lin_goal {L : Type} {t : Tree L} {ni : Nat} {Φ : L → Prop} {e : Env} (hc : t.chk ni = true) (hW : Words e ni) (h : t.lin e Φ) : t.goal e Φ := Tree.goal_of_lin t hc hW h
theorem words_env {vals : Nat → Int} {x0 : Nat → Addr} {ni : Nat} (h : ∀ k, k < ni → Wd (vals k)) {e : Env} (ha : AgreeE ni 0 0 (envOf vals x0) e) : Words e ni ∧ ∀ k, k < ni → e.i k = vals k :=
  ⟨fun k hk => by rw [ha.i k hk]; exact h k hk, fun k hk => ha.i k hk⟩
theorem noFacts {e : Env} {p : Pat} (h : p.facts = []) : Facts e p.facts := fun x hx => by rw [h] at hx; cases hx
end

/-! ### MulMod: its patterns -/
def qW : List Atom := [.int .u64 (.c 4332616871279656263), .int .u64 (.c 10917124144477883021), .int .u64 (.c 13281191951274694749), .int .u64 (.c 3486998266802970665)]
def pA : Pat := { n := 117, tms := [(0, .one (.agg (ws 0))), (1, .one (.agg (ws 4))), (2, .one (.agg qW))], bs := [], cnt := 0, ni := 8, ext := [] }
/-- At the head of round n - 1. -/
def pL (n : Nat) : Pat := { n := 117, tms := [(5, .one (.at (.ptr ⟨.own 2, 0⟩))), (6, .one (.at (.ptr ⟨.own 3, 0⟩))), (7, .one (.at (.ptr ⟨.own 4, 0⟩))), (14, .one (.at (.ptr ⟨.own 5, 0⟩))), (15, .one (.at (.int .i64 (.c ((n : Int) - 1)))))], bs := [(2, ⟨qW, 23⟩), (3, ⟨[.int .u64 (.c 0), .int .u64 (.c 0), .int .u64 (.c 0), .int .u64 (.c 0)], 23⟩), (4, ⟨(List.range 17).map fun j => Atom.int .u64 (.v j), 131⟩), (5, ⟨ws 17, 23⟩)], cnt := 6, ni := 21, ext := [] }
def pLx (n : Nat) : Xt → Pat
  | .normal => pL n
  | _ => pL (n + 1)
def keep17 : List IE := (List.range 17).map .v
def subT : Tree VL :=
  .dn (.sb 35 0 (.v 34) (.c 4332616871279656263) (.c 0)) <|
  .dn (.sb 36 1 (.v 30) (.c 10917124144477883021) (.b 0)) <|
  .dn (.sb 37 2 (.v 27) (.c 13281191951274694749) (.b 1)) <|
  .dn (.sb 38 3 (.v 24) (.c 3486998266802970665) (.b 2)) <|
  .leaf (.normal, keep17 ++ [.v 35, .v 36, .v 37, .v 38])
/-- One round. -/
def tRound (n : Nat) : Tree VL :=
  .dn (.i 21 (.sh .shr .u64 (.v 20) 63)) <|
  .dn (.i 22 (.sh .shl .u64 (.v 20) 1)) <|
  .dn (.i 23 (.sh .shr .u64 (.v 19) 63)) <|
  .dn (.i 24 (.ar .add .u64 (.v 22) (.v 23))) <|
  .dn (.i 25 (.sh .shl .u64 (.v 19) 1)) <|
  .dn (.i 26 (.sh .shr .u64 (.v 18) 63)) <|
  .dn (.i 27 (.ar .add .u64 (.v 25) (.v 26))) <|
  .dn (.i 28 (.sh .shl .u64 (.v 18) 1)) <|
  .dn (.i 29 (.sh .shr .u64 (.v 17) 63)) <|
  .dn (.i 30 (.ar .add .u64 (.v 28) (.v 29))) <|
  .dn (.i 31 (.sh .shl .u64 (.v 17) 1)) <|
  .dn (.i 32 (.sh .shr .u64 (.v (n / 32)) (n % 32))) <|
  .dn (.i 33 (.dv .rem .u64 (.v 32) 2)) <|
  .dn (.i 34 (.ar .add .u64 (.v 31) (.v 33))) <|
  .br (.eq (.v 21) (.c 1)) subT
    (.br (.low (.v 34) (.v 30) (.v 27) (.v 24)) (.leaf (.normal, keep17 ++ [.v 34, .v 30, .v 27, .v 24])) subT)
def tMMend : Tree Lf := .leaf (.one (.agg (ws 17)), [])
def tMMexit : Tree VL := .leaf (.exit 4, (List.range 21).map .v)

/-! ### Digits -/
def dsum : List Nat → Nat
  | [] => 0
  | d :: l => d + 4294967296 * dsum l
theorem dsum_digit : ∀ (l : List Nat) (j : Nat), (∀ d ∈ l, d < 4294967296) → dsum l / 2 ^ (32 * j) % 4294967296 = l.getD j 0
  | [], j, _ => by simp [dsum]
  | d :: l, 0, h => by
    have := h d (by simp)
    simp only [dsum, Nat.mul_zero, Nat.pow_zero, Nat.div_one, List.getD_cons_zero]
    omega
  | d :: l, j + 1, h => by
    have h1 := h d (by simp)
    have ih := dsum_digit l j fun x hx => h x (by simp [hx])
    rw [List.getD_cons_succ, ← ih, show 32 * (j + 1) = 32 + 32 * j by omega, Nat.pow_add, ← Nat.div_div_eq_div_mul, dsum]
    congr 2
    omega
theorem bit_of {M D t s : Nat} (hD : M / 2 ^ (32 * t) % 4294967296 = D) (hs : s < 32) : D / 2 ^ s % 2 = M / 2 ^ (32 * t + s) % 2 := by
  rw [← hD, show 4294967296 = 2 ^ s * 2 ^ (32 - s) by rw [← Nat.pow_add, show s + (32 - s) = 32 by omega], Nat.pow_add, ← Nat.div_div_eq_div_mul]
  rw [Nat.mod_mul_right_div_self]
  rw [show 32 - s = (31 - s) + 1 by omega, Nat.pow_succ]
  exact Nat.mod_mod_of_dvd _ (Nat.dvd_mul_left 2 _)
theorem halve (M n : Nat) : M / 2 ^ n = 2 * (M / 2 ^ (n + 1)) + M / 2 ^ n % 2 := by
  rw [Nat.pow_succ, ← Nat.div_div_eq_div_mul]; omega

/-- The state at the head of round n - 1: of the product M. -/
structure MInv (M : Nat) (n : Nat) (vals : Nat → Int) : Prop where
  wd : ∀ k, k < 21 → Wd (vals k)
  dig : ∀ j, j < 16 → vals j = ((M / 2 ^ (32 * j) % 4294967296 : Nat) : Int)
  out : v4 (vals 17) (vals 18) (vals 19) (vals 20) = ((M / 2 ^ n % q : Nat) : Int)

theorem dbl_words {o0 o1 o2 o3 h s3 c2 n3 s2 c1 n2 s1 c0 n1 s0 b n0 : Int} (w0 : Wd o0) (w1 : Wd o1) (w2 : Wd o2) (w3 : Wd o3) (hO : v4 o0 o1 o2 o3 < 21888242871839275222246405745257275088696311157297823662689037894645226208583)
    (e1 : h = o3 / 9223372036854775808) (e2 : s3 = o3 * 2 % 18446744073709551616) (e3 : c2 = o2 / 9223372036854775808) (e4 : n3 = (s3 + c2) % 18446744073709551616)
    (e5 : s2 = o2 * 2 % 18446744073709551616) (e6 : c1 = o1 / 9223372036854775808) (e7 : n2 = (s2 + c1) % 18446744073709551616)
    (e8 : s1 = o1 * 2 % 18446744073709551616) (e9 : c0 = o0 / 9223372036854775808) (e10 : n1 = (s1 + c0) % 18446744073709551616)
    (e11 : s0 = o0 * 2 % 18446744073709551616) (hb : b = 0 ∨ b = 1) (e12 : n0 = (s0 + b) % 18446744073709551616) :
    h = 0 ∧ v4 n0 n1 n2 n3 = 2 * v4 o0 o1 o2 o3 + b := by
  unfold v4 Wd at *
  omega
theorem shr_ev {x : Int} (n : Nat) (hn : n ≤ 64) : shI .shr .u64 x n = x / (2 ^ n : Int) := shrI n hn
theorem shl1_ev {x : Int} : shI .shl .u64 x 1 = x * 2 % 18446744073709551616 := by
  simp only [shI, bits_u64]
  rw [wrap_u64]
  rfl
theorem rem2_ev {x : Int} (h : 0 ≤ x) : dvI .rem .u64 x 2 = x % 2 := by
  simp only [dvI]
  exact Int.tmod_eq_emod_of_nonneg h
theorem add_ev {x y : Int} : arI .add .u64 x y = (x + y) % 18446744073709551616 := by simp only [arI, wrap_u64]

theorem round_fin {M n : Nat} {T : Int} {b : Int} (hb : b = ((M / 2 ^ n % 2 : Nat) : Int)) (hT : T = 2 * ((M / 2 ^ (n + 1) % q : Nat) : Int) + b) :
    (T < 21888242871839275222246405745257275088696311157297823662689037894645226208583 → T = ((M / 2 ^ n % q : Nat) : Int)) ∧
    (21888242871839275222246405745257275088696311157297823662689037894645226208583 ≤ T → T - 21888242871839275222246405745257275088696311157297823662689037894645226208583 = ((M / 2 ^ n % q : Nat) : Int)) ∧ T < 43776485743678550444492811490514550177392622314595647325378075789290452417166 := by
  have hm : M / 2 ^ n % q = (2 * (M / 2 ^ (n + 1) % q) + M / 2 ^ n % 2) % q := by
    conv => lhs; rw [halve M n]
    rw [Nat.add_mod, Nat.mul_mod, Nat.add_mod (2 * (M / 2 ^ (n + 1) % q)), Nat.mul_mod 2 (M / 2 ^ (n + 1) % q), Nat.mod_mod]
  have hlt : M / 2 ^ (n + 1) % q < q := Nat.mod_lt _ (by decide)
  generalize M / 2 ^ (n + 1) % q = O at *
  generalize M / 2 ^ n % q = O' at *
  generalize M / 2 ^ n = Y at *
  unfold q at *
  omega
theorem tRound_bds : (List.range 512).all (fun n => (tRound n).bd 21 0 0) = true := by decide +kernel
theorem tRound_bd {n : Nat} (hn : n < 512) : (tRound n).bd 21 0 0 = true := List.all_eq_true.1 tRound_bds n (List.mem_range.2 hn)
theorem round_law {M n : Nat} (hn : n < 512) {e : Env} {vals : Nat → Int} (hI : MInv M (n + 1) vals) (hv : ∀ k, k < 21 → e.i k = vals k) :
    (tRound n).goal e fun l => l.1 = .normal ∧ MInv M n (VL.vals l e) := by
  have hw : ∀ k, k < 21 → Wd (e.i k) := fun k hk => by rw [hv k hk]; exact hI.wd k hk
  intro h21 h22 h23 h24 h25 h26 h27 h28 h29 h30 h31 h32 h33 h34
  have h21 : e.i 21 = shI .shr .u64 (e.i 20) 63 := h21
  have h22 : e.i 22 = shI .shl .u64 (e.i 20) 1 := h22
  have h23 : e.i 23 = shI .shr .u64 (e.i 19) 63 := h23
  have h24 : e.i 24 = arI .add .u64 (e.i 22) (e.i 23) := h24
  have h25 : e.i 25 = shI .shl .u64 (e.i 19) 1 := h25
  have h26 : e.i 26 = shI .shr .u64 (e.i 18) 63 := h26
  have h27 : e.i 27 = arI .add .u64 (e.i 25) (e.i 26) := h27
  have h28 : e.i 28 = shI .shl .u64 (e.i 18) 1 := h28
  have h29 : e.i 29 = shI .shr .u64 (e.i 17) 63 := h29
  have h30 : e.i 30 = arI .add .u64 (e.i 28) (e.i 29) := h30
  have h31 : e.i 31 = shI .shl .u64 (e.i 17) 1 := h31
  have h32 : e.i 32 = shI .shr .u64 (e.i (n / 32)) (n % 32) := h32
  have h33 : e.i 33 = dvI .rem .u64 (e.i 32) 2 := h33
  have h34 : e.i 34 = arI .add .u64 (e.i 31) (e.i 33) := h34
  rw [shr_ev 63 (by omega)] at h21 h23 h26 h29
  rw [shl1_ev] at h22 h25 h28 h31
  rw [add_ev] at h24 h27 h30 h34
  have ht : n / 32 < 16 := by omega
  have hdig := hI.dig (n / 32) ht
  rw [← hv _ (by omega)] at hdig
  have hbit : e.i 33 = ((M / 2 ^ n % 2 : Nat) : Int) := by
    rw [h33, h32, shr_ev _ (by omega), hdig]
    have hc : ((2 ^ (n % 32) : Nat) : Int) = (2 : Int) ^ (n % 32) := by push_cast; rfl
    rw [← hc, ← Int.natCast_ediv, rem2_ev (Int.natCast_nonneg _)]
    have := bit_of (M := M) (t := n / 32) (s := n % 32) rfl (Nat.mod_lt _ (by omega))
    rw [show 32 * (n / 32) + n % 32 = n by omega] at this
    rw [← this]
    rfl
  have hout := hI.out
  rw [← hv 17 (by omega), ← hv 18 (by omega), ← hv 19 (by omega), ← hv 20 (by omega)] at hout
  have hO : v4 (e.i 17) (e.i 18) (e.i 19) (e.i 20) < 21888242871839275222246405745257275088696311157297823662689037894645226208583 := by
    rw [hout]
    have : M / 2 ^ (n + 1) % q < q := Nat.mod_lt _ (by decide)
    exact Int.ofNat_lt.2 this
  have hb01 : e.i 33 = 0 ∨ e.i 33 = 1 := by
    rw [hbit]
    have := Nat.mod_lt (M / 2 ^ n) (show 0 < 2 by omega)
    omega
  obtain ⟨k1, k2⟩ := dbl_words (hw 17 (by omega)) (hw 18 (by omega)) (hw 19 (by omega)) (hw 20 (by omega)) hO h21 h22 h23 h24 h25 h26 h27 h28 h29 h30 h31 hb01 h34
  have w24 : Wd (e.i 24) := by rw [h24]; exact ⟨Int.emod_nonneg _ (by decide), Int.emod_lt_of_pos _ (by decide)⟩
  have w27 : Wd (e.i 27) := by rw [h27]; exact ⟨Int.emod_nonneg _ (by decide), Int.emod_lt_of_pos _ (by decide)⟩
  have w30 : Wd (e.i 30) := by rw [h30]; exact ⟨Int.emod_nonneg _ (by decide), Int.emod_lt_of_pos _ (by decide)⟩
  have w34 : Wd (e.i 34) := by rw [h34]; exact ⟨Int.emod_nonneg _ (by decide), Int.emod_lt_of_pos _ (by decide)⟩
  rw [hout] at k2
  obtain ⟨f1, f2, f3⟩ := round_fin hbit k2
  clear h21 h22 h23 h24 h25 h26 h27 h28 h29 h30 h31 h32 h33 h34 hout hO hdig hbit hb01
  have keepv : ∀ (a b c d : IE) (k : Nat), k < 17 → VL.vals (.normal, keep17 ++ [a, b, c, d]) e k = vals k := fun a b c d k hk => by
    rw [← hv k (by omega)]
    have : (keep17 ++ [a, b, c, d]).getD k (.c 0) = .v k := by
      rw [List.getD_eq_getElem?_getD, List.getElem?_append_left (by simp [keep17]; exact hk), keep17, List.getElem?_map, List.getElem?_range hk]
      rfl
    unfold VL.vals
    simp only
    rw [this]
    rfl
  have fin : ∀ (a b c d : IE), Wd (a.den e) → Wd (b.den e) → Wd (c.den e) → Wd (d.den e) → v4 (a.den e) (b.den e) (c.den e) (d.den e) = ((M / 2 ^ n % q : Nat) : Int) →
      MInv M n (VL.vals (.normal, keep17 ++ [a, b, c, d]) e) := fun a b c d wa wb wc wd hv4 => by
    have v17 : VL.vals (.normal, keep17 ++ [a, b, c, d]) e 17 = a.den e := rfl
    have v18 : VL.vals (.normal, keep17 ++ [a, b, c, d]) e 18 = b.den e := rfl
    have v19 : VL.vals (.normal, keep17 ++ [a, b, c, d]) e 19 = c.den e := rfl
    have v20 : VL.vals (.normal, keep17 ++ [a, b, c, d]) e 20 = d.den e := rfl
    refine ⟨fun k hk => ?_, fun j hj => ?_, ?_⟩
    · by_cases hk' : k < 17
      · rw [keepv a b c d k hk']; exact hI.wd k hk
      · have : k = 17 ∨ k = 18 ∨ k = 19 ∨ k = 20 := by omega
        rcases this with rfl | rfl | rfl | rfl
        · rw [v17]; exact wa
        · rw [v18]; exact wb
        · rw [v19]; exact wc
        · rw [v20]; exact wd
    · rw [keepv a b c d j (by omega)]; exact hI.dig j hj
    · rw [v17, v18, v19, v20]; exact hv4
  have sub : 21888242871839275222246405745257275088696311157297823662689037894645226208583 ≤ v4 (e.i 34) (e.i 30) (e.i 27) (e.i 24) → subT.goal e fun l => l.1 = .normal ∧ MInv M n (VL.vals l e) := fun hge => by
    intro s0 s1 s2 s3
    have z0 := sb_lin s0 w34 ⟨(by decide : (0 : Int) ≤ 4332616871279656263), (by decide : (4332616871279656263 : Int) < 18446744073709551616)⟩ ⟨Int.le_refl 0, (by decide : (0 : Int) ≤ 1)⟩
    have z1 := sb_lin s1 w30 ⟨(by decide : (0 : Int) ≤ 10917124144477883021), (by decide : (10917124144477883021 : Int) < 18446744073709551616)⟩ (bi_bd _)
    have z2 := sb_lin s2 w27 ⟨(by decide : (0 : Int) ≤ 13281191951274694749), (by decide : (13281191951274694749 : Int) < 18446744073709551616)⟩ (bi_bd _)
    have z3 := sb_lin s3 w24 ⟨(by decide : (0 : Int) ≤ 3486998266802970665), (by decide : (3486998266802970665 : Int) < 18446744073709551616)⟩ (bi_bd _)
    obtain ⟨g1, g2, g3, g4, g5⟩ := sub_q ⟨w34, w30, w27, w24⟩ f3 hge ⟨z0.1, z0.2.1, z0.2.2, bi_bd _⟩ ⟨z1.1, z1.2.1, z1.2.2, bi_bd _⟩ ⟨z2.1, z2.2.1, z2.2.2, bi_bd _⟩ ⟨z3.1, z3.2.1, z3.2.2, bi_bd _⟩
    exact ⟨rfl, fin (.v 35) (.v 36) (.v 37) (.v 38) g2 g3 g4 g5 (by rw [show v4 ((IE.v 35).den e) ((IE.v 36).den e) ((IE.v 37).den e) ((IE.v 38).den e) = _ from g1]; exact f2 hge)⟩
  refine ⟨fun hb => ?_, fun _ => ⟨fun hb => ?_, fun hb => ?_⟩⟩
  · have : e.i 21 = 1 := by simpa [BE.den, IE.den] using hb
    omega
  · have hb := of_decide_eq_true hb
    refine ⟨rfl, fin (.v 34) (.v 30) (.v 27) (.v 24) w34 w30 w27 w24 ?_⟩
    have hb' : v4 (e.i 34) (e.i 30) (e.i 27) (e.i 24) < 21888242871839275222246405745257275088696311157297823662689037894645226208583 := hb
    show v4 (e.i 34) (e.i 30) (e.i 27) (e.i 24) = _
    exact f1 hb'
  · have hb := of_decide_eq_false hb
    exact sub (Int.not_lt.1 hb)

/-! ### The product by digits -/
def dgIE (i k : Nat) : IE := if i = 0 then .c 0 else if k < 7 then .v (58 * i + 7 * k - 36) else .v (58 * i + 7)
def stepD (i k : Nat) : List Dn :=
  [.i (10 + 58 * i + 7 * k) (.sh .shr .u64 (.v (4 + k / 2)) (32 * (k % 2))), .i (11 + 58 * i + 7 * k) (.dv .rem .u64 (.v (10 + 58 * i + 7 * k)) 4294967296),
   .i (12 + 58 * i + 7 * k) (.ar .mul .u64 (.v (9 + 58 * i)) (.v (11 + 58 * i + 7 * k))), .i (13 + 58 * i + 7 * k) (.ar .add .u64 (dgIE i k) (.v (12 + 58 * i + 7 * k))),
   .i (14 + 58 * i + 7 * k) (.ar .add .u64 (.v (13 + 58 * i + 7 * k)) (if k = 0 then .c 0 else .v (9 + 58 * i + 7 * k))),
   .i (15 + 58 * i + 7 * k) (.dv .rem .u64 (.v (14 + 58 * i + 7 * k)) 4294967296), .i (16 + 58 * i + 7 * k) (.dv .quo .u64 (.v (14 + 58 * i + 7 * k)) 4294967296)]
def rowD (i : Nat) : List Dn := .i (8 + 58 * i) (.sh .shr .u64 (.v (i / 2)) (32 * (i % 2))) :: .i (9 + 58 * i) (.dv .rem .u64 (.v (8 + 58 * i)) 4294967296) :: (List.range 8).flatMap (stepD i)
def preD : List Dn := (List.range 8).flatMap rowD
def dnT {L : Type} : List Dn → Tree L → Tree L
  | [], t => t
  | d :: l, t => .dn d (dnT l t)
def preL : List IE := (List.range 8).map (fun j => .v (15 + 58 * j)) ++ ((List.range 8).map (dgIE 8) ++ [.c 0, .c 0, .c 0, .c 0, .c 0])
def tMMpre : Tree VL := dnT preD (.leaf (.normal, preL))
theorem dnT_goal {L : Type} {e : Env} {Φ : L → Prop} : ∀ (l : List Dn) {t : Tree L}, ((∀ d ∈ l, d.holds e) → t.goal e Φ) → (dnT l t).goal e Φ
  | [], _, h => h (by simp)
  | d :: l, _, h => fun hd => dnT_goal l fun hl => h fun x hx => by
    rcases List.mem_cons.1 hx with hx | hx
    · subst hx; exact hd
    · exact hl x hx
theorem dig_step {d x y c p s t d' c' : Int} (hd : 0 ≤ d ∧ d < 4294967296) (hx : 0 ≤ x ∧ x < 4294967296) (hy : 0 ≤ y ∧ y < 4294967296) (hc : 0 ≤ c ∧ c < 4294967296)
    (hp : p = arI .mul .u64 x y) (hs : s = arI .add .u64 d p) (ht : t = arI .add .u64 s c) (h1 : d' = dvI .rem .u64 t 4294967296) (h2 : c' = dvI .quo .u64 t 4294967296) :
    d' + 4294967296 * c' = d + x * y + c ∧ (0 ≤ d' ∧ d' < 4294967296) ∧ 0 ≤ c' ∧ c' < 4294967296 := by
  have hm0 : 0 ≤ x * y := Int.mul_nonneg hx.1 hy.1
  have hm1 : x * y ≤ 4294967295 * 4294967295 := Int.mul_le_mul (by omega) (by omega) hy.1 (by omega)
  have hp : p = x * y := by rw [hp]; simp only [arI, wrap_u64]; omega
  have hs : s = d + p := by rw [hs, add_ev]; omega
  have ht : t = s + c := by rw [ht, add_ev]; omega
  have ht0 : 0 ≤ t := by omega
  have h1 : d' = t % 4294967296 := by
    rw [h1]
    simp only [dvI]
    exact Int.tmod_eq_emod_of_nonneg ht0
  have h2 : c' = t / 4294967296 := by
    rw [h2]
    simp only [dvI, wrap_u64]
    rw [Int.tdiv_eq_ediv_of_nonneg ht0]
    omega
  omega
/-- The value of eight digits. -/
def S8 (f : Nat → Int) : Int := f 0 + 4294967296 * (f 1 + 4294967296 * (f 2 + 4294967296 * (f 3 + 4294967296 * (f 4 + 4294967296 * (f 5 + 4294967296 * (f 6 + 4294967296 * f 7))))))
theorem S8_congr {f g : Nat → Int} (h : ∀ k, k < 8 → f k = g k) : S8 f = S8 g := by
  unfold S8
  rw [h 0 (by omega), h 1 (by omega), h 2 (by omega), h 3 (by omega), h 4 (by omega), h 5 (by omega), h 6 (by omega), h 7 (by omega)]
theorem row_sum {d d' c y : Nat → Int} {x : Int} (h : ∀ k, k < 8 → d' k + 4294967296 * c (k + 1) = d k + x * y k + c k) (h0 : c 0 = 0) :
    d' 0 + 4294967296 * S8 (fun k => if k < 7 then d' (k + 1) else c 8) = S8 d + x * S8 y := by
  have h0' := h 0 (by omega)
  have h1 := h 1 (by omega)
  have h2 := h 2 (by omega)
  have h3 := h 3 (by omega)
  have h4 := h 4 (by omega)
  have h5 := h 5 (by omega)
  have h6 := h 6 (by omega)
  have h7 := h 7 (by omega)
  have hd : x * S8 y = x * y 0 + 4294967296 * (x * y 1 + 4294967296 * (x * y 2 + 4294967296 * (x * y 3 + 4294967296 * (x * y 4 + 4294967296 * (x * y 5 + 4294967296 * (x * y 6 + 4294967296 * (x * y 7))))))) := by
    unfold S8; grind
  rw [hd]
  unfold S8
  simp only [Nat.reduceLT, if_true, Nat.reduceAdd, Nat.lt_irrefl, if_false]
  clear hd h
  generalize x * y 0 = a0 at *
  generalize x * y 1 = a1 at *
  generalize x * y 2 = a2 at *
  generalize x * y 3 = a3 at *
  generalize x * y 4 = a4 at *
  generalize x * y 5 = a5 at *
  generalize x * y 6 = a6 at *
  generalize x * y 7 = a7 at *
  simp only [Nat.reduceAdd, Nat.zero_add] at *
  omega
/-- Digit j of a number. -/
def dgt (m j : Nat) : Int := ((m / 2 ^ (32 * j) % 4294967296 : Nat) : Int)
theorem dgt_bd (m j : Nat) : 0 ≤ dgt m j ∧ dgt m j < 4294967296 := by unfold dgt; omega
theorem dgt_S8 {m : Nat} (h : m < RR) : S8 (dgt m) = m := by
  unfold S8 dgt RR at *
  simp only [Nat.mul_zero, Nat.reduceMul, Nat.reducePow, Nat.mul_one]
  omega
theorem word_digit {e : Env} {m i k : Nat} (hw : e.i i = w4 m (k / 2)) {u : Int} (hu : u = shI .shr .u64 (e.i i) (32 * (k % 2))) {v : Int} (hv : v = dvI .rem .u64 u 4294967296) : v = dgt m k := by
  rw [shr_ev _ (by omega), hw] at hu
  have hu' : u = ((w4 m (k / 2) / 2 ^ (32 * (k % 2)) : Nat) : Int) := by rw [hu]; push_cast; rfl
  rw [hu'] at hv
  have hv' : v = ((w4 m (k / 2) / 2 ^ (32 * (k % 2)) % 4294967296 : Nat) : Int) := by rw [hv]; rfl
  rw [hv']
  unfold dgt w4
  congr 1
  have hk : k % 2 = 0 ∨ k % 2 = 1 := by omega
  rcases hk with hk | hk
  · rw [hk, show 32 * k = 64 * (k / 2) by omega]
    simp only [Nat.mul_zero, Nat.pow_zero, Nat.div_one]
    omega
  · rw [hk, show 32 * k = 64 * (k / 2) + 32 by omega, Nat.pow_add, ← Nat.div_div_eq_div_mul]
    simp only [Nat.mul_one, Nat.reducePow]
    omega
theorem row_law {e : Env} {X Y i : Nat} (hi : i < 8) (hX : ∀ j, j < 4 → e.i j = w4 X j) (hY : ∀ j, j < 4 → e.i (4 + j) = w4 Y j) (hYR : Y < RR) (hd : ∀ d ∈ preD, d.holds e)
    (hin : ∀ k, k < 8 → 0 ≤ (dgIE i k).den e ∧ (dgIE i k).den e < 4294967296) :
    e.i (15 + 58 * i) + 4294967296 * S8 (fun k => (dgIE (i + 1) k).den e) = S8 (fun k => (dgIE i k).den e) + dgt X i * Y ∧ (0 ≤ e.i (15 + 58 * i) ∧ e.i (15 + 58 * i) < 4294967296) ∧
      ∀ k, k < 8 → 0 ≤ (dgIE (i + 1) k).den e ∧ (dgIE (i + 1) k).den e < 4294967296 := by
  have hrow : ∀ d ∈ rowD i, d.holds e := fun d hm => hd d (List.mem_flatMap.2 ⟨i, List.mem_range.2 hi, hm⟩)
  have hx : e.i (9 + 58 * i) = dgt X i := by
    have h1 := hrow (.i (8 + 58 * i) (.sh .shr .u64 (.v (i / 2)) (32 * (i % 2)))) (by simp [rowD])
    have h2 := hrow (.i (9 + 58 * i) (.dv .rem .u64 (.v (8 + 58 * i)) 4294967296)) (by simp [rowD])
    exact word_digit (hX (i / 2) (by omega)) h1 h2
  have hst : ∀ k, k < 8 → ∀ d ∈ stepD i k, d.holds e := fun k hk d hm => hrow d (by
    unfold rowD
    exact List.mem_cons_of_mem _ (List.mem_cons_of_mem _ (List.mem_flatMap.2 ⟨k, List.mem_range.2 hk, hm⟩)))
  have hy : ∀ k, k < 8 → e.i (11 + 58 * i + 7 * k) = dgt Y k := fun k hk => by
    have h1 := hst k hk (.i (10 + 58 * i + 7 * k) (.sh .shr .u64 (.v (4 + k / 2)) (32 * (k % 2)))) (by simp [stepD])
    have h2 := hst k hk (.i (11 + 58 * i + 7 * k) (.dv .rem .u64 (.v (10 + 58 * i + 7 * k)) 4294967296)) (by simp [stepD])
    exact word_digit (hY (k / 2) (by omega)) h1 h2
  let c : Nat → Int := fun k => if k = 0 then 0 else e.i (9 + 58 * i + 7 * k)
  have one : ∀ k, k < 8 → (0 ≤ c k ∧ c k < 4294967296) → e.i (15 + 58 * i + 7 * k) + 4294967296 * c (k + 1) = (dgIE i k).den e + dgt X i * dgt Y k + c k ∧ (0 ≤ e.i (15 + 58 * i + 7 * k) ∧ e.i (15 + 58 * i + 7 * k) < 4294967296) ∧ 0 ≤ c (k + 1) ∧ c (k + 1) < 4294967296 := fun k hk hc => by
    have h3 : e.i (12 + 58 * i + 7 * k) = arI .mul .u64 (e.i (9 + 58 * i)) (e.i (11 + 58 * i + 7 * k)) := hst k hk (.i (12 + 58 * i + 7 * k) (.ar .mul .u64 (.v (9 + 58 * i)) (.v (11 + 58 * i + 7 * k)))) (by simp [stepD])
    have h4 : e.i (13 + 58 * i + 7 * k) = arI .add .u64 ((dgIE i k).den e) (e.i (12 + 58 * i + 7 * k)) := hst k hk (.i (13 + 58 * i + 7 * k) (.ar .add .u64 (dgIE i k) (.v (12 + 58 * i + 7 * k)))) (by simp [stepD])
    have h5 : e.i (14 + 58 * i + 7 * k) = arI .add .u64 (e.i (13 + 58 * i + 7 * k)) (c k) := by
      have := hst k hk (.i (14 + 58 * i + 7 * k) (.ar .add .u64 (.v (13 + 58 * i + 7 * k)) (if k = 0 then .c 0 else .v (9 + 58 * i + 7 * k)))) (by simp [stepD])
      have h : e.i (14 + 58 * i + 7 * k) = arI .add .u64 (e.i (13 + 58 * i + 7 * k)) ((if k = 0 then IE.c 0 else IE.v (9 + 58 * i + 7 * k)).den e) := this
      rw [h]
      congr 1
      show _ = if k = 0 then (0 : Int) else e.i (9 + 58 * i + 7 * k)
      split <;> rfl
    have h6 : e.i (15 + 58 * i + 7 * k) = dvI .rem .u64 (e.i (14 + 58 * i + 7 * k)) 4294967296 := hst k hk (.i (15 + 58 * i + 7 * k) (.dv .rem .u64 (.v (14 + 58 * i + 7 * k)) 4294967296)) (by simp [stepD])
    have h7 : c (k + 1) = dvI .quo .u64 (e.i (14 + 58 * i + 7 * k)) 4294967296 := by
      have h : e.i (16 + 58 * i + 7 * k) = dvI .quo .u64 (e.i (14 + 58 * i + 7 * k)) 4294967296 := hst k hk (.i (16 + 58 * i + 7 * k) (.dv .quo .u64 (.v (14 + 58 * i + 7 * k)) 4294967296)) (by simp [stepD])
      rw [← h]
      show (if k + 1 = 0 then (0 : Int) else e.i (9 + 58 * i + 7 * (k + 1))) = _
      rw [if_neg (by omega), show 9 + 58 * i + 7 * (k + 1) = 16 + 58 * i + 7 * k by omega]
    rw [hx, hy k hk] at h3
    exact dig_step (hin k hk) (dgt_bd X i) (dgt_bd Y k) hc h3 h4 h5 h6 h7
  have hc : ∀ k, k ≤ 8 → 0 ≤ c k ∧ c k < 4294967296 := fun k => by
    induction k with
    | zero => intro _; exact ⟨Int.le_refl 0, (by decide : (0 : Int) < 4294967296)⟩
    | succ k ih => intro hk; exact (one k (by omega) (ih (by omega))).2.2
  have hnext : ∀ k, k < 8 → (dgIE (i + 1) k).den e = if k < 7 then e.i (15 + 58 * i + 7 * (k + 1)) else c 8 := fun k hk => by
    unfold dgIE
    rw [if_neg (by omega)]
    split
    · rw [den_v]; congr 1; omega
    · rw [den_v]
      show _ = if 8 = 0 then (0 : Int) else e.i (9 + 58 * i + 7 * 8)
      rw [if_neg (by omega)]
      congr 1
      omega
  have hsum := row_sum (d := fun k => (dgIE i k).den e) (d' := fun k => e.i (15 + 58 * i + 7 * k)) (c := c) (y := dgt Y) (x := dgt X i) (fun k hk => (one k hk (hc k (by omega))).1) rfl
  rw [dgt_S8 hYR] at hsum
  refine ⟨?_, (one 0 (by omega) (hc 0 (by omega))).2.1, fun k hk => ?_⟩
  · rw [← hsum]
    rw [S8_congr hnext]
    rfl
  · rw [hnext k hk]
    split
    · exact (one (k + 1) (by omega) (hc (k + 1) (by omega))).2.1
    · exact hc 8 (by omega)
theorem all_rows {S D : Nat → Int} {X Y : Nat} (hX : X < RR) (h0 : S 0 = 0) (h : ∀ i, i < 8 → D i + 4294967296 * S (i + 1) = S i + dgt X i * Y) :
    D 0 + 4294967296 * (D 1 + 4294967296 * (D 2 + 4294967296 * (D 3 + 4294967296 * (D 4 + 4294967296 * (D 5 + 4294967296 * (D 6 + 4294967296 * (D 7 + 4294967296 * S 8))))))) = X * Y := by
  have e0 := h 0 (by omega)
  have e1 := h 1 (by omega)
  have e2 := h 2 (by omega)
  have e3 := h 3 (by omega)
  have e4 := h 4 (by omega)
  have e5 := h 5 (by omega)
  have e6 := h 6 (by omega)
  have e7 := h 7 (by omega)
  have hd : (X : Int) * Y = dgt X 0 * Y + 4294967296 * (dgt X 1 * Y + 4294967296 * (dgt X 2 * Y + 4294967296 * (dgt X 3 * Y + 4294967296 * (dgt X 4 * Y + 4294967296 * (dgt X 5 * Y + 4294967296 * (dgt X 6 * Y + 4294967296 * (dgt X 7 * Y))))))) := by
    conv => lhs; rw [← dgt_S8 hX]
    unfold S8
    grind
  rw [hd]
  simp only [Nat.reduceAdd, Nat.zero_add] at *
  clear hd h
  omega
theorem pre_law {e : Env} {X Y : Nat} (hXR : X < RR) (hYR : Y < RR) (hX : ∀ j, j < 4 → e.i j = w4 X j) (hY : ∀ j, j < 4 → e.i (4 + j) = w4 Y j) :
    tMMpre.goal e fun l => l.1 = .normal ∧ MInv (X * Y) 512 (VL.vals l e) := by
  refine dnT_goal preD fun hd => ⟨rfl, ?_⟩
  have hin : ∀ i, i ≤ 8 → ∀ k, k < 8 → 0 ≤ (dgIE i k).den e ∧ (dgIE i k).den e < 4294967296 := fun i => by
    induction i with
    | zero => intro _ k _; exact ⟨Int.le_refl 0, (by decide : (0 : Int) < 4294967296)⟩
    | succ i ih => intro hi; exact (row_law (by omega) hX hY hYR hd (ih (by omega))).2.2
  have hr : ∀ i, i < 8 → e.i (15 + 58 * i) + 4294967296 * S8 (fun k => (dgIE (i + 1) k).den e) = S8 (fun k => (dgIE i k).den e) + dgt X i * Y ∧ 0 ≤ e.i (15 + 58 * i) ∧ e.i (15 + 58 * i) < 4294967296 := fun i hi => by
    have := row_law hi hX hY hYR hd (hin i (by omega))
    exact ⟨this.1, this.2.1⟩
  have tot := all_rows (S := fun i => S8 fun k => (dgIE i k).den e) (D := fun i => e.i (15 + 58 * i)) hXR rfl fun i hi => (hr i hi).1
  -- the digits as a list
  let D : Nat → Nat := fun j => (if j < 8 then e.i (15 + 58 * j) else (dgIE 8 (j - 8)).den e).toNat
  let L : List Nat := (List.range 16).map D
  have hb : ∀ j, j < 16 → 0 ≤ (if j < 8 then e.i (15 + 58 * j) else (dgIE 8 (j - 8)).den e) ∧ (if j < 8 then e.i (15 + 58 * j) else (dgIE 8 (j - 8)).den e) < 4294967296 := fun j hj => by
    split
    · rename_i h; exact (hr j h).2
    · exact hin 8 (by omega) (j - 8) (by omega)
  have hLb : ∀ d ∈ L, d < 4294967296 := fun d hd => by
    obtain ⟨j, hj, rfl⟩ := List.mem_map.1 hd
    have := hb j (List.mem_range.1 hj)
    show (if j < 8 then e.i (15 + 58 * j) else (dgIE 8 (j - 8)).den e).toNat < 4294967296
    omega
  have hLget : ∀ j, j < 16 → ((L.getD j 0 : Nat) : Int) = if j < 8 then e.i (15 + 58 * j) else (dgIE 8 (j - 8)).den e := fun j hj => by
    have : L.getD j 0 = (if j < 8 then e.i (15 + 58 * j) else (dgIE 8 (j - 8)).den e).toNat := by
      simp only [L, List.getD_eq_getElem?_getD, List.getElem?_map, List.getElem?_range hj, Option.map_some, Option.getD_some, D]
    rw [this]
    have := hb j hj
    omega
  have hsum : dsum L = X * Y := by
    have hc : ((dsum L : Nat) : Int) = X * Y := by
      rw [← tot]
      have g : ∀ j, j < 16 → (((if j < 8 then e.i (15 + 58 * j) else (dgIE 8 (j - 8)).den e).toNat : Nat) : Int) = if j < 8 then e.i (15 + 58 * j) else (dgIE 8 (j - 8)).den e := fun j hj => by
        have := hb j hj
        omega
      have g0 := g 0 (by omega)
      have g1 := g 1 (by omega)
      have g2 := g 2 (by omega)
      have g3 := g 3 (by omega)
      have g4 := g 4 (by omega)
      have g5 := g 5 (by omega)
      have g6 := g 6 (by omega)
      have g7 := g 7 (by omega)
      have g8 := g 8 (by omega)
      have g9 := g 9 (by omega)
      have g10 := g 10 (by omega)
      have g11 := g 11 (by omega)
      have g12 := g 12 (by omega)
      have g13 := g 13 (by omega)
      have g14 := g 14 (by omega)
      have g15 := g 15 (by omega)
      have hD : dsum L = D 0 + 4294967296 * (D 1 + 4294967296 * (D 2 + 4294967296 * (D 3 + 4294967296 * (D 4 + 4294967296 * (D 5 + 4294967296 * (D 6 + 4294967296 * (D 7 + 4294967296 * (D 8 + 4294967296 * (D 9 + 4294967296 * (D 10 + 4294967296 * (D 11 + 4294967296 * (D 12 + 4294967296 * (D 13 + 4294967296 * (D 14 + 4294967296 * (D 15))))))))))))))) := rfl
      rw [hD]
      simp only [Int.natCast_add, Int.natCast_mul]
      rw [show ((D 0 : Nat) : Int) = e.i (15 + 58 * 0) from g0, show ((D 1 : Nat) : Int) = e.i (15 + 58 * 1) from g1, show ((D 2 : Nat) : Int) = e.i (15 + 58 * 2) from g2, show ((D 3 : Nat) : Int) = e.i (15 + 58 * 3) from g3, show ((D 4 : Nat) : Int) = e.i (15 + 58 * 4) from g4, show ((D 5 : Nat) : Int) = e.i (15 + 58 * 5) from g5, show ((D 6 : Nat) : Int) = e.i (15 + 58 * 6) from g6, show ((D 7 : Nat) : Int) = e.i (15 + 58 * 7) from g7, show ((D 8 : Nat) : Int) = (dgIE 8 0).den e from g8, show ((D 9 : Nat) : Int) = (dgIE 8 1).den e from g9, show ((D 10 : Nat) : Int) = (dgIE 8 2).den e from g10, show ((D 11 : Nat) : Int) = (dgIE 8 3).den e from g11, show ((D 12 : Nat) : Int) = (dgIE 8 4).den e from g12, show ((D 13 : Nat) : Int) = (dgIE 8 5).den e from g13, show ((D 14 : Nat) : Int) = (dgIE 8 6).den e from g14, show ((D 15 : Nat) : Int) = (dgIE 8 7).den e from g15]
      unfold S8
      rfl
    exact_mod_cast hc
  have hv : ∀ j, j < 16 → VL.vals (.normal, preL) e j = ((L.getD j 0 : Nat) : Int) := fun j hj => by
    rw [hLget j hj]
    have : j = 0 ∨ j = 1 ∨ j = 2 ∨ j = 3 ∨ j = 4 ∨ j = 5 ∨ j = 6 ∨ j = 7 ∨ j = 8 ∨ j = 9 ∨ j = 10 ∨ j = 11 ∨ j = 12 ∨ j = 13 ∨ j = 14 ∨ j = 15 := by omega
    rcases this with rfl | rfl | rfl | rfl | rfl | rfl | rfl | rfl | rfl | rfl | rfl | rfl | rfl | rfl | rfl | rfl <;> rfl
  refine ⟨fun k hk => ?_, fun j hj => ?_, ?_⟩
  · by_cases h16 : k < 16
    · rw [hv k h16, hLget k h16]
      have := hb k h16
      exact ⟨this.1, by omega⟩
    · have hz : VL.vals (.normal, preL) e k = 0 := by
        have : k = 16 ∨ k = 17 ∨ k = 18 ∨ k = 19 ∨ k = 20 := by omega
        rcases this with rfl | rfl | rfl | rfl | rfl <;> rfl
      rw [hz]
      exact ⟨Int.le_refl 0, by decide⟩
  · rw [hv j hj, ← hsum, ← dsum_digit L j hLb]
  · have h17 : VL.vals (.normal, preL) e 17 = 0 := rfl
    have h18 : VL.vals (.normal, preL) e 18 = 0 := rfl
    have h19 : VL.vals (.normal, preL) e 19 = 0 := rfl
    have h20 : VL.vals (.normal, preL) e 20 = 0 := rfl
    rw [h17, h18, h19, h20]
    have : X * Y / 2 ^ 512 = 0 := by
      apply Nat.div_eq_of_lt
      calc X * Y < RR * RR := Nat.mul_lt_mul'' hXR hYR
        _ = 2 ^ 512 := by decide +kernel
    rw [this]
    rfl

/-! ### The contract -/
/-- a * b modulo the prime. -/
def MmC (P : Program) (f : FuncId) : Prop := ∀ (x y : Nat), x < RR → y < RR → ∀ w, QuietRun P (callFunc f #[agN x, agN y, agN q]) (agN (x * y % q)) w
def mmArgs : List SV := [.one (.agg (ws 0)), .one (.agg (ws 4)), .one (.agg qW)]
section
variable {P : Program} {qf pf : QSum}
theorem mmC_of (hm : P.follows .mixedOrders = true) (hnum : NumOk P) (hq : QOk P qf) (hp : POk P pf) {f : FuncId} {fn : Func} {body B : Code} (hfn : P.funcs[f]? = some fn) (hb : fn.body = some body) (hnt : fn.ntmps = 117)
    (hlen : Nat.blt 6 (flat body).length = true) (hblk : (flat body).getD 6 .skip = .block 4 (.loop B))
    (hpre : sxs P qf pf 3000 ((flat body).take 6) pA.st (kM fun _ => pL 512) = some tMMpre)
    (hround : ∀ n, n < 512 → sxs P qf pf 300 (flat B) (pL (n + 1)).st (kM (pLx n)) = some (tRound n))
    (hexit : sxs P qf pf 300 (flat B) (pL 0).st (kM fun _ => pL 0) = some tMMexit)
    (hend : sxs P qf pf 300 ((flat body).drop 7) (pL 0).st (kR P fn) = some tMMend) : MmC P f := by
  intro x y hx hy w
  refine quiet_of_body hnum hfn hb ?_
  let e : Env := { i := valsL (numL x ++ numL y), b := fun _ => false, f := fun _ => 0, ext := fun _ => ⟨0, 0, none⟩ }
  have hwd : ∀ k, Wd (e.i k) := fun k => two_wd x y k
  have hargs : (mmArgs.map (SV.den (fun _ => 0) e)).toArray = #[agN x, agN y, agN q] := rfl
  have hat := enter_at (p := pA) (l := (List.range 8).map .v) (fn := fn) (args := mmArgs) (h0 := hp0 [] 8 0) (by rw [hnt]; rfl) (w := w) (e := e) (β := fun _ => 0)
    (hp0_rel (fun j c hj => by simp at hj) (fun c hc => by simp at hc) (fun j c c0 _ hj => by simp at hj))
    (fun s hs => by
      simp only [mmArgs, List.mem_cons, List.not_mem_nil, or_false] at hs
      have h4 : ∀ k, ∀ a ∈ ws k, a.ok 0 e := fun k a ha => by
        simp only [ws, List.mem_cons, List.not_mem_nil, or_false] at ha
        rcases ha with rfl | rfl | rfl | rfl <;> exact wd_inR (hwd _)
      rcases hs with rfl | rfl | rfl
      · exact h4 0
      · exact h4 4
      · intro a ha
        simp only [qW, List.mem_cons, List.not_mem_nil, or_false] at ha
        rcases ha with rfl | rfl | rfl | rfl
        · exact wd_inR ⟨(by decide : (0 : Int) ≤ 4332616871279656263), (by decide : (4332616871279656263 : Int) < 18446744073709551616)⟩
        · exact wd_inR ⟨(by decide : (0 : Int) ≤ 10917124144477883021), (by decide : (10917124144477883021 : Int) < 18446744073709551616)⟩
        · exact wd_inR ⟨(by decide : (0 : Int) ≤ 13281191951274694749), (by decide : (13281191951274694749 : Int) < 18446744073709551616)⟩
        · exact wd_inR ⟨(by decide : (0 : Int) ≤ 3486998266802970665), (by decide : (3486998266802970665 : Int) < 18446744073709551616)⟩)
    (noFacts rfl)
  rw [hargs] at hat
  have hret : ∀ (en : Ending) (w' : World), (en = .returned (agN (x * y % q)) ∧ Grow w w') → ∃ v, en = .returned v := fun en w' h => ⟨_, h.1⟩
  have hcalm := calm_body (P := P) (fn := fn) hret
  have selfL : ∀ n, n < 513 → (pL n).self := fun n _ => rfl
  rw [split3 (flat body) 6 hlen, nest_append, nest_append, hblk]
  refine piece hm hnum hq hp hpre rfl (by decide +kernel) hat (Φ := fun x' v => x' = .normal ∧ MInv (x * y) 512 v) (fun e' ha => ?_) hcalm (fun _ _ _ => noFacts rfl) ?_
  · refine pre_law hx hy (fun j hj => ?_) (fun j hj => ?_)
    · rw [ha.i j (by show j < 8; omega)]
      have : j = 0 ∨ j = 1 ∨ j = 2 ∨ j = 3 := by omega
      rcases this with rfl | rfl | rfl | rfl <;> rfl
    · rw [ha.i (4 + j) (by show 4 + j < 8; omega)]
      have : j = 0 ∨ j = 1 ∨ j = 2 ∨ j = 3 := by omega
      rcases this with rfl | rfl | rfl | rfl <;> rfl
  · rintro x' vals' a' w' ⟨rfl, hI⟩ hat'
    refine block_loop (I := fun n a w' => n ≤ 512 ∧ ∃ vals, At w e.ext (pL n) vals a w' ∧ MInv (x * y) n vals) (fun n a w' hi => ?_) 512 a' w' ⟨Nat.le_refl _, vals', hat', hI⟩
    obtain ⟨hn, vals, hA, hI⟩ := hi
    cases n with
    | succ n =>
      refine piece hm hnum hq hp (hround n (by omega)) (selfL (n + 1) (by omega)) (tRound_bd (by omega)) hA (Φ := fun x' v => x' = .normal ∧ MInv (x * y) n v)
        (fun e' ha => round_law (by omega) hI (fun k hk => ha.i k hk)) hcalm.then.inBlock (fun x' _ _ => by cases x' <;> exact noFacts rfl) ?_
      rintro x' vals' a' w' ⟨rfl, hI'⟩ hat'
      exact ⟨n, by omega, by omega, vals', hat', hI'⟩
    | zero =>
      refine piece hm hnum hq hp hexit (selfL 0 (by omega)) (by decide +kernel) hA (Φ := fun x' v => x' = .exit 4 ∧ MInv (x * y) 0 v)
        (fun e' ha => ⟨rfl, ?_⟩) hcalm.then.inBlock (fun x' _ _ => noFacts rfl) ?_
      · have hv : ∀ k, k < 21 → VL.vals (.exit 4, (List.range 21).map .v) e' k = vals k := fun k hk => by
          rw [← show e'.i k = vals k from ha.i k hk]
          simp [VL.vals, List.getD_eq_getElem?_getD, hk, IE.den]
        exact ⟨fun k hk => by rw [hv k hk]; exact hI.wd k hk, fun j hj => by rw [hv j (by omega)]; exact hI.dig j hj, by rw [hv 17 (by omega), hv 18 (by omega), hv 19 (by omega), hv 20 (by omega)]; exact hI.out⟩
      · rintro x' vals' a' w' ⟨rfl, hI'⟩ hat'
        obtain ⟨β, hrel⟩ := hat'.env (selfL 0 (by omega))
        refine last hm hnum hq hp hend (by decide +kernel : tMMend.bd 21 0 0 = true) hrel (Φ := fun e' l => l = (.one (.agg (ws 17)), []) ∧ ∀ k, k < 21 → e'.i k = vals' k) (fun e' ha => ⟨rfl, fun k hk => ha.i k hk⟩) hret ?_
        rintro e' β' v log w'' ha ⟨hl, hv⟩ hg
        cases hl
        refine ⟨?_, hg⟩
        congr 1
        show Value.agg #[.int .u64 (e'.i 17), .int .u64 (e'.i 18), .int .u64 (e'.i 19), .int .u64 (e'.i 20)] = _
        rw [hv 17 (by omega), hv 18 (by omega), hv 19 (by omega), hv 20 (by omega)]
        have hout := hI'.out
        rw [Nat.pow_zero, Nat.div_one] at hout
        obtain ⟨z0, z1, z2, z3⟩ := w4_of (hI'.wd 17 (by omega)) (hI'.wd 18 (by omega)) (hI'.wd 19 (by omega)) (hI'.wd 20 (by omega)) hout
        rw [z0, z1, z2, z3]
        rfl
end
end Go.Sx
namespace Go.Sx
open Go
set_option maxRecDepth 100000
/-! ### Less of two numbers, by a borrow -/
def ltF (fn : FuncId) : QSum := fun f args h =>
  bif Nat.beq f fn then match args with
    | [.one (.agg la), .one (.agg lb)] => match toW4 la, toW4 lb with
      | some a, some b => some ([.sb h.ni h.nb a.a b.a (.c 0), .sb (h.ni + 1) (h.nb + 1) a.b b.b (.b h.nb), .sb (h.ni + 2) (h.nb + 2) a.c b.c (.b (h.nb + 1)), .sb (h.ni + 3) (h.nb + 3) a.d b.d (.b (h.nb + 2))],
          .one (.at (.bool (.v (h.nb + 3)))), { h with ni := h.ni + 4, nb := h.nb + 4 })
      | _, _ => none
    | _ => none
  else none
section
variable {P : Program}
theorem sb4 {e : Env} {n m : Nat} {a b : W4} (oa : a.ok e) (ob : b.ok e) (h1 : (Dn.sb n m a.a b.a (.c 0)).holds e) (h2 : (Dn.sb (n + 1) (m + 1) a.b b.b (.b m)).holds e) (h3 : (Dn.sb (n + 2) (m + 2) a.c b.c (.b (m + 1))).holds e) (h4 : (Dn.sb (n + 3) (m + 3) a.d b.d (.b (m + 2))).holds e) :
    v4 (e.i n) (e.i (n + 1)) (e.i (n + 2)) (e.i (n + 3)) + 115792089237316195423570985008687907853269984665640564039457584007913129639936 * (1 - bi (e.b (m + 3))) = a.val e - b.val e + 115792089237316195423570985008687907853269984665640564039457584007913129639936 ∧
      (Wd (e.i n) ∧ Wd (e.i (n + 1)) ∧ Wd (e.i (n + 2)) ∧ Wd (e.i (n + 3))) ∧ e.b (m + 3) = decide (a.val e < b.val e) := by
  have cz : ∀ k, 0 ≤ (IE.b k).den e ∧ (IE.b k).den e ≤ 1 := fun k => by rw [den_b]; exact bi_bd _
  obtain ⟨e1, w1⟩ := sb_lin h1 oa.1 ob.1 ⟨Int.le_refl 0, (by decide : (0 : Int) ≤ 1)⟩
  obtain ⟨e2, w2⟩ := sb_lin h2 oa.2.1 ob.2.1 (cz _)
  obtain ⟨e3, w3⟩ := sb_lin h3 oa.2.2.1 ob.2.2.1 (cz _)
  obtain ⟨e4, w4'⟩ := sb_lin h4 oa.2.2.2 ob.2.2.2 (cz _)
  rw [den_b] at e2 e3 e4
  rw [den_c] at e1
  have key := borrow_end e1 e2 e3 e4
  refine ⟨key, ⟨w1, w2, w3, w4'⟩, ?_⟩
  have h0 := v4_nonneg w1.1 w2.1 w3.1 w4'.1
  have hx := v4_lt w1 w2 w3 w4'
  have ha := v4_lt oa.1 oa.2.1 oa.2.2.1 oa.2.2.2
  have hb0 := v4_nonneg ob.1.1 ob.2.1.1 ob.2.2.1.1 ob.2.2.2.1
  unfold W4.val
  clear e1 e2 e3 e4
  cases hbb : e.b (m + 3) with
  | true =>
    rw [hbb] at key
    simp only [bi, if_true] at key
    exact (decide_eq_true (by omega)).symm
  | false =>
    rw [hbb] at key
    simp only [bi, Bool.false_eq_true, if_false] at key
    exact (decide_eq_false (by omega)).symm
theorem ad4 {e : Env} {n m : Nat} {a b : W4} (oa : a.ok e) (ob : b.ok e) (h1 : (Dn.ad n m a.a b.a (.c 0)).holds e) (h2 : (Dn.ad (n + 1) (m + 1) a.b b.b (.b m)).holds e) (h3 : (Dn.ad (n + 2) (m + 2) a.c b.c (.b (m + 1))).holds e) (h4 : (Dn.ad (n + 3) (m + 3) a.d b.d (.b (m + 2))).holds e) :
    v4 (e.i n) (e.i (n + 1)) (e.i (n + 2)) (e.i (n + 3)) + 115792089237316195423570985008687907853269984665640564039457584007913129639936 * bi (e.b (m + 3)) = a.val e + b.val e ∧
      (Wd (e.i n) ∧ Wd (e.i (n + 1)) ∧ Wd (e.i (n + 2)) ∧ Wd (e.i (n + 3))) ∧ e.b (m + 3) = decide (115792089237316195423570985008687907853269984665640564039457584007913129639936 ≤ a.val e + b.val e) := by
  have cz : ∀ k, 0 ≤ (IE.b k).den e ∧ (IE.b k).den e ≤ 1 := fun k => by rw [den_b]; exact bi_bd _
  obtain ⟨e1, w1⟩ := ad_lin h1 oa.1 ob.1 ⟨Int.le_refl 0, (by decide : (0 : Int) ≤ 1)⟩
  obtain ⟨e2, w2⟩ := ad_lin h2 oa.2.1 ob.2.1 (cz _)
  obtain ⟨e3, w3⟩ := ad_lin h3 oa.2.2.1 ob.2.2.1 (cz _)
  obtain ⟨e4, w4'⟩ := ad_lin h4 oa.2.2.2 ob.2.2.2 (cz _)
  rw [den_b] at e2 e3 e4
  rw [den_c] at e1
  have key := carry_end e1 e2 e3 e4
  refine ⟨key, ⟨w1, w2, w3, w4'⟩, ?_⟩
  have h0 := v4_nonneg w1.1 w2.1 w3.1 w4'.1
  have hx := v4_lt w1 w2 w3 w4'
  unfold W4.val
  clear e1 e2 e3 e4
  cases hbb : e.b (m + 3) with
  | true =>
    rw [hbb] at key
    simp only [bi, if_true] at key
    exact (decide_eq_true (by omega)).symm
  | false =>
    rw [hbb] at key
    simp only [bi, Bool.false_eq_true, if_false] at key
    exact (decide_eq_false (by omega)).symm
theorem ltF_q {fn : FuncId} (hc : LeC P fn) : QOk P (ltF fn) := by
  intro f args h ds v h' hh
  unfold ltF at hh
  cases hb : Nat.beq f fn with
  | false => rw [hb] at hh; cases hh
  | true =>
    rw [hb] at hh
    have hf := Nat.eq_of_beq_eq_true hb
    subst hf
    simp only [cond_true] at hh
    split at hh
    · rename_i la lb
      split at hh
      · rename_i a b ha hb'
        cases hh
        refine ⟨⟨rfl, rfl, rfl, rfl, rfl⟩, fun e β _ hok hds => ?_⟩
        have oa : a.ok e := W4.ok_of ha (hok (.one (.agg la)) (by simp))
        have ob : b.ok e := W4.ok_of hb' (hok (.one (.agg lb)) (by simp))
        obtain ⟨x, hx, hxv, hxw⟩ := W4.num oa
        obtain ⟨y, hy, hyv, hyw⟩ := W4.num ob
        have := (sb4 oa ob (hds (.sb h.ni h.nb a.a b.a (.c 0)) (by simp)) (hds (.sb (h.ni + 1) (h.nb + 1) a.b b.b (.b h.nb)) (by simp)) (hds (.sb (h.ni + 2) (h.nb + 2) a.c b.c (.b (h.nb + 1))) (by simp)) (hds (.sb (h.ni + 3) (h.nb + 3) a.d b.d (.b (h.nb + 2))) (by simp))).2.2
        rw [hxv, hyv] at this
        have hd : decide ((x : Int) < y) = decide (x < y) := by rw [decide_eq_decide]; omega
        rw [hd] at this
        refine ⟨trivial, fun w0 w _ => ?_⟩
        simp only [List.map_cons, List.map_nil]
        rw [W4.agg_den ha, W4.agg_den hb', hxw, hyw]
        have hv : (SV.one (.at (.bool (.v (h.nb + 3))))).den β e = .bool (decide (x < y)) := by
          simp only [SV.den, SV1.den, Atom.den, BE.den, this]
        rw [hv]
        exact hc x y hx hy w
      · cases hh
    · cases hh
end

/-! ### AddMod, SubMod -/
def qW4 : W4 := ⟨.c 4332616871279656263, .c 10917124144477883021, .c 13281191951274694749, .c 3486998266802970665⟩
def vW (n : Nat) : W4 := ⟨.v n, .v (n + 1), .v (n + 2), .v (n + 3)⟩
def sbT {L : Type} (n m : Nat) (a b : W4) (t : Tree L) : Tree L :=
  .dn (.sb n m a.a b.a (.c 0)) <| .dn (.sb (n + 1) (m + 1) a.b b.b (.b m)) <| .dn (.sb (n + 2) (m + 2) a.c b.c (.b (m + 1))) <| .dn (.sb (n + 3) (m + 3) a.d b.d (.b (m + 2))) t
def adT {L : Type} (n m : Nat) (a b : W4) (t : Tree L) : Tree L :=
  .dn (.ad n m a.a b.a (.c 0)) <| .dn (.ad (n + 1) (m + 1) a.b b.b (.b m)) <| .dn (.ad (n + 2) (m + 2) a.c b.c (.b (m + 1))) <| .dn (.ad (n + 3) (m + 3) a.d b.d (.b (m + 2))) t
def lfW (n : Nat) : Tree Lf := .leaf (.one (.agg (ws n)), [])
def tAm : Tree Lf := adT 8 0 (vW 0) (vW 4) <| .br (.v 3) (sbT 12 4 (vW 8) qW4 (lfW 12)) (.br (.low (.v 8) (.v 9) (.v 10) (.v 11)) (lfW 8) (sbT 12 4 (vW 8) qW4 (lfW 12)))
def tSm : Tree Lf := sbT 8 0 (vW 0) (vW 4) <| .br (.v 3) (sbT 12 4 (vW 0) (vW 4) (adT 16 8 (vW 12) qW4 (lfW 16))) (sbT 12 4 (vW 0) (vW 4) (lfW 12))
theorem qW4_ok (e : Env) : qW4.ok e := by
  refine ⟨?_, ?_, ?_, ?_⟩ <;> (simp only [qW4, den_c]; exact ⟨by decide, by decide⟩)
theorem qW4_val (e : Env) : qW4.val e = 21888242871839275222246405745257275088696311157297823662689037894645226208583 := rfl
theorem lfW_goal {e : Env} {n N : Nat} (hw : Wd (e.i n) ∧ Wd (e.i (n + 1)) ∧ Wd (e.i (n + 2)) ∧ Wd (e.i (n + 3))) (h : v4 (e.i n) (e.i (n + 1)) (e.i (n + 2)) (e.i (n + 3)) = N) :
    (lfW n).goal e fun l => (∀ β, l.1.den β e = agN N) ∧ l.2 = [] := by
  obtain ⟨h1, h2, h3, h4⟩ := w4_of hw.1 hw.2.1 hw.2.2.1 hw.2.2.2 h
  exact ⟨fun β => cons_numV (β := β) (n := n) (N := N) ⟨h1, h2, h3, h4⟩, rfl⟩
theorem am_law {e : Env} {X Y : Nat} (hW : Words e 8) (hX : v4 (e.i 0) (e.i 1) (e.i 2) (e.i 3) = X) (hY : v4 (e.i 4) (e.i 5) (e.i 6) (e.i 7) = Y) (hx : X < q) (hy : Y < q) :
    tAm.goal e fun l => (∀ β, l.1.den β e = agN ((X + Y) % q)) ∧ l.2 = [] := by
  intro h1 h2 h3 h4
  have oa : (vW 0).ok e := ⟨hW 0 (by omega), hW 1 (by omega), hW 2 (by omega), hW 3 (by omega)⟩
  have ob : (vW 4).ok e := ⟨hW 4 (by omega), hW 5 (by omega), hW 6 (by omega), hW 7 (by omega)⟩
  obtain ⟨g1, g2, g3⟩ := ad4 oa ob h1 h2 h3 h4
  simp only [Nat.reduceAdd] at g1 g2 g3
  have va : (vW 0).val e = X := hX
  have vb : (vW 4).val e = Y := hY
  rw [va, vb] at g1 g3
  have hc : e.b 3 = false := by
    rw [g3]
    exact decide_eq_false (by unfold q at *; omega)
  rw [hc] at g1
  simp only [bi, Bool.false_eq_true, if_false, Int.mul_zero, Int.add_zero] at g1
  have sub : 21888242871839275222246405745257275088696311157297823662689037894645226208583 ≤ v4 (e.i 8) (e.i 9) (e.i 10) (e.i 11) → (sbT 12 4 (vW 8) qW4 (lfW 12)).goal e fun l => (∀ β, l.1.den β e = agN ((X + Y) % q)) ∧ l.2 = [] := fun hge => by
    intro s1 s2 s3 s4
    obtain ⟨k1, k2, k3⟩ := sb4 (a := vW 8) g2 (qW4_ok e) s1 s2 s3 s4
    simp only [Nat.reduceAdd] at k1 k2 k3
    rw [qW4_val] at k1 k3
    have vv : (vW 8).val e = v4 (e.i 8) (e.i 9) (e.i 10) (e.i 11) := rfl
    rw [vv] at k1 k3
    have hb : e.b 7 = false := by rw [k3]; exact decide_eq_false (by omega)
    rw [hb] at k1
    simp only [bi, Bool.false_eq_true, if_false] at k1
    refine lfW_goal k2 ?_
    have : (X + Y) % q = X + Y - q := by
      unfold q at *
      omega
    rw [this]
    unfold q at *
    simp only [Nat.reduceAdd]
    omega
  refine ⟨fun hb => ?_, fun _ => ⟨fun hb => ?_, fun hb => ?_⟩⟩
  · have : e.b 3 = true := hb
    rw [hc] at this
    cases this
  · have hb := of_decide_eq_true hb
    have hb' : v4 (e.i 8) (e.i 9) (e.i 10) (e.i 11) < 21888242871839275222246405745257275088696311157297823662689037894645226208583 := hb
    refine lfW_goal g2 ?_
    have : (X + Y) % q = X + Y := Nat.mod_eq_of_lt (by unfold q at *; omega)
    rw [this]
    exact_mod_cast g1
  · have hb := of_decide_eq_false hb
    exact sub (Int.not_lt.1 hb)
theorem sm_law {e : Env} {X Y : Nat} (hW : Words e 8) (hX : v4 (e.i 0) (e.i 1) (e.i 2) (e.i 3) = X) (hY : v4 (e.i 4) (e.i 5) (e.i 6) (e.i 7) = Y) (hx : X < q) (hy : Y < q) :
    tSm.goal e fun l => (∀ β, l.1.den β e = agN ((q - Y + X) % q)) ∧ l.2 = [] := by
  intro h1 h2 h3 h4
  have oa : (vW 0).ok e := ⟨hW 0 (by omega), hW 1 (by omega), hW 2 (by omega), hW 3 (by omega)⟩
  have ob : (vW 4).ok e := ⟨hW 4 (by omega), hW 5 (by omega), hW 6 (by omega), hW 7 (by omega)⟩
  obtain ⟨_, _, g3⟩ := sb4 oa ob h1 h2 h3 h4
  have va : (vW 0).val e = X := hX
  have vb : (vW 4).val e = Y := hY
  rw [va, vb] at g3
  refine ⟨fun hb => ?_, fun hb => ?_⟩
  · have hb : e.b (0 + 3) = true := hb
    rw [g3] at hb
    have hlt := of_decide_eq_true hb
    intro s1 s2 s3 s4 a1 a2 a3 a4
    obtain ⟨k1, k2, k3⟩ := sb4 oa ob s1 s2 s3 s4
    simp only [Nat.reduceAdd] at k1 k2 k3
    rw [va, vb] at k1 k3
    rw [k3, decide_eq_true hlt] at k1
    simp only [bi, if_true] at k1
    obtain ⟨z1, z2, z3⟩ := ad4 (a := vW 12) k2 (qW4_ok e) a1 a2 a3 a4
    simp only [Nat.reduceAdd] at z1 z2 z3
    have vv : (vW 12).val e = v4 (e.i 12) (e.i 13) (e.i 14) (e.i 15) := rfl
    rw [qW4_val, vv] at z1 z3
    refine lfW_goal z2 ?_
    have hr : (q - Y + X) % q = q - Y + X := Nat.mod_eq_of_lt (by omega)
    rw [hr]
    have hz := v4_nonneg z2.1.1 z2.2.1.1 z2.2.2.1.1 z2.2.2.2.1
    have hz2 := v4_lt z2.1 z2.2.1 z2.2.2.1 z2.2.2.2
    have hbb := bi_bd (e.b 11)
    have hzz : bi (e.b 11) = 1 := by
      rw [z3]
      unfold bi
      rw [if_pos (decide_eq_true (by unfold q at *; omega))]
    rw [hzz] at z1
    unfold q at *
    simp only [Nat.reduceAdd]
    omega
  · have hb : e.b (0 + 3) = false := hb
    rw [g3] at hb
    have hge := of_decide_eq_false hb
    intro s1 s2 s3 s4
    obtain ⟨k1, k2, k3⟩ := sb4 oa ob s1 s2 s3 s4
    simp only [Nat.reduceAdd] at k1 k2 k3
    rw [va, vb] at k1 k3
    rw [k3, decide_eq_false hge] at k1
    simp only [bi, Bool.false_eq_true, if_false] at k1
    refine lfW_goal k2 ?_
    have hr : (q - Y + X) % q = X - Y := by
      have : q - Y + X = (X - Y) + q := by omega
      rw [this, Nat.add_mod_right]
      exact Nat.mod_eq_of_lt (by omega)
    rw [hr]
    simp only [Nat.reduceAdd]
    omega
/-- Three numbers, the last one the prime: what is told of them. -/
def Op3C (P : Program) (f : FuncId) (op : Fq → Fq → Fq) : Prop := ∀ (a b : Fq) (w : World), QuietRun P (callFunc f #[agN a.val, agN b.val, agN q]) (agN (op a b).val) w
theorem mm_op3 {P : Program} {f : FuncId} (h : MmC P f) : Op3C P f (· * ·) := fun a b w => h a.val b.val (val_RR a) (val_RR b) w
section
variable {P : Program} {qf pf : QSum}
def qArg : SV := .one (.agg qW)
theorem op3_of (hm : P.follows .mixedOrders = true) (hnum : NumOk P) (hq : QOk P qf) (hp : POk P pf) {f : FuncId} {t : Tree Lf} {op : Fq → Fq → Fq}
    (h : sxCall P qf pf 5000 f [ag 0, ag 4, qArg] (hp0 [] 8 0) leafE = some t) (hbd : t.bd 8 0 0 = true)
    (law : ∀ (e : Env) (a b : Fq), Words e 8 → v4 (e.i 0) (e.i 1) (e.i 2) (e.i 3) = a.val → v4 (e.i 4) (e.i 5) (e.i 6) (e.i 7) = b.val → t.goal e fun l => (∀ β, l.1.den β e = agN (op a b).val) ∧ l.2 = []) : Op3C P f op := by
  intro a b w
  let e : Env := { i := valsL (numL a.val ++ numL b.val), b := fun _ => false, f := fun _ => 0, ext := fun _ => ⟨0, 0, none⟩ }
  have hag : ∀ e', AgreeE 8 0 0 e e' → Words e' 8 ∧ ∀ k, k < 8 → e'.i k = valsL (numL a.val ++ numL b.val) k := fun e' ha =>
    ⟨fun k hk => by rw [ha.i k hk]; exact two_wd a.val b.val k, fun k hk => ha.i k hk⟩
  have hargs : ∀ e', AgreeE 8 0 0 e e' → [ag 0, ag 4, qArg].map (SV.den (fun _ => 0) e') = [agN a.val, agN b.val, agN q] := fun e' ha => by
    obtain ⟨_, g2⟩ := hag e' ha
    simp only [List.map_cons, List.map_nil, ag, SV.den, SV1.den, ws_den]
    rw [g2 0 (by omega), g2 (0 + 1) (by omega), g2 (0 + 2) (by omega), g2 (0 + 3) (by omega), g2 4 (by omega), g2 (4 + 1) (by omega), g2 (4 + 2) (by omega), g2 (4 + 3) (by omega)]
    rfl
  have := quiet_of_tree (e := e) (β := fun _ => 0) hm hnum hq hp h hbd rfl
    (fun w e' ha => hp0_rel (fun j c hj => by simp at hj) (fun c hc => by simp at hc) (fun j c c0 _ hj => by simp at hj))
    (fun e' ha s hs => by
      obtain ⟨g1, _⟩ := hag e' ha
      have h4 : ∀ k, k + 3 < 8 → ∀ x ∈ ws k, x.ok 0 e' := fun k hk x hx => by
        simp only [ws, List.mem_cons, List.not_mem_nil, or_false] at hx
        rcases hx with rfl | rfl | rfl | rfl
        · exact wd_inR (g1 k (by omega))
        · exact wd_inR (g1 (k + 1) (by omega))
        · exact wd_inR (g1 (k + 2) (by omega))
        · exact wd_inR (g1 (k + 3) (by omega))
      simp only [List.mem_cons, List.not_mem_nil, or_false] at hs
      rcases hs with rfl | rfl | rfl
      · exact h4 0 (by omega)
      · exact h4 4 (by omega)
      · intro x hx
        have := qW4_ok e'
        simp only [qW, List.mem_cons, List.not_mem_nil, or_false] at hx
        rcases hx with rfl | rfl | rfl | rfl
        · exact wd_inR this.1
        · exact wd_inR this.2.1
        · exact wd_inR this.2.2.1
        · exact wd_inR this.2.2.2)
    (fun e' ha => by rw [hargs e' ha, hargs e (AgreeE.refl _ _ _ _)])
    (fun e' ha => by
      obtain ⟨g1, g2⟩ := hag e' ha
      exact law e' a b g1 (by rw [g2 0 (by omega), g2 1 (by omega), g2 2 (by omega), g2 3 (by omega)]; exact v4_w4 (val_RR a)) (by rw [g2 4 (by omega), g2 5 (by omega), g2 6 (by omega), g2 7 (by omega)]; exact v4_w4 (val_RR b))) w
  rw [hargs e (AgreeE.refl _ _ _ _)] at this
  exact this
theorem addOp3 (hm : P.follows .mixedOrders = true) (hnum : NumOk P) (hq : QOk P qf) (hp : POk P pf) {f : FuncId} (h : sxCall P qf pf 5000 f [ag 0, ag 4, qArg] (hp0 [] 8 0) leafE = some tAm) : Op3C P f (· + ·) :=
  op3_of hm hnum hq hp h (by decide) fun e a b hW hX hY => am_law hW hX hY a.isLt b.isLt
theorem subOp3 (hm : P.follows .mixedOrders = true) (hnum : NumOk P) (hq : QOk P qf) (hp : POk P pf) {f : FuncId} (h : sxCall P qf pf 5000 f [ag 0, ag 4, qArg] (hp0 [] 8 0) leafE = some tSm) : Op3C P f (· - ·) :=
  op3_of hm hnum hq hp h (by decide) fun e a b hW hX hY => sm_law hW hX hY a.isLt b.isLt
end
end Go.Sx
