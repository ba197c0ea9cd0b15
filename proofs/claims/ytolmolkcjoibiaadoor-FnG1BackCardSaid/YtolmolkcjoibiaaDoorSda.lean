import Derived.Test.YtolmolkcjoibiaaDoorOrd
import Derived.Test.YtolmolkcjoibiaaDoorSd
/- Aids to the claim: what is shown here is said at each theorem. -/
namespace Go.Sx
open Go
/-- A frame that gets stuck at once. -/
def stuckF : Frame := { fn := 0, tmps := #[], todo := [.code (.cond (.const undef) .skip .skip)], defers := [], mode := .run, kind := .normal }
theorem stuck_step (P : Program) (w : World) : ∃ o, step P (lone stuckF [] w) = .ended o w :=
  ⟨_, step_lone_ended (by simp [stepG, stepG.exec, stuckF, Frame.eval, undef]; rfl)⟩
/-- A call hands back one value. -/
theorem calls_unique {P : Program} {f : FuncId} {args : Array Value} {w : World} {v v' : Value} {R R' : World → Prop}
    (h : Calls P f args w fun e w' => e = .returned v ∧ R w') (h' : Calls P f args w fun e w' => e = .returned v' ∧ R' w') : v = v' := by
  obtain ⟨e, w1, fr1, ⟨rfl, _⟩, ⟨n, hn⟩, _, hl1⟩ := h [stuckF]
  obtain ⟨e', w2, fr2, ⟨rfl, _⟩, ⟨n', hn'⟩, _, hl2⟩ := h' [stuckF]
  have after : ∀ {n : Nat} {fr : Frame} {w1 : World} {v : Value} {m : Machine}, runN P n m = .next (lone fr [stuckF] w1) → fr.leaving P w1 (.returned v) → runN P (n + 1) m = .next (lone stuckF [] w1) ∧ ∃ o, ∀ k, runN P (n + 2 + k) m = .ended o w1 := fun {n fr w1 v m} hn hl => by
    have h1 : runN P (n + 1) m = .next (lone stuckF [] w1) := by
      rw [runN_add, hn]
      simp only [runN, step_leave_returned hl]
      rfl
    obtain ⟨o, ho⟩ := stuck_step P w1
    refine ⟨h1, o, fun k => ?_⟩
    rw [show n + 2 + k = n + 1 + (1 + k) by omega, runN_add, h1]
    simp only []
    rw [runN_add]
    simp only [runN, ho]
  have no : ∀ {n n' : Nat} {fr fr' : Frame} {w1 w2 : World} {v v' : Value} {m : Machine}, runN P n m = .next (lone fr [stuckF] w1) → fr.leaving P w1 (.returned v) → runN P n' m = .next (lone fr' [stuckF] w2) → n < n' → False := fun {n n' fr fr' w1 w2 v v' m} hn hl hn' hlt => by
    obtain ⟨h1, o, h2⟩ := after hn hl
    rcases Nat.lt_or_ge n' (n + 2) with hh | hh
    · have : n' = n + 1 := by omega
      subst this
      rw [h1] at hn'
      injection hn' with hm
      simp [lone] at hm
    · have := h2 (n' - (n + 2))
      rw [show n + 2 + (n' - (n + 2)) = n' by omega, hn'] at this
      cases this
  rcases Nat.lt_trichotomy n n' with hlt | heq | hgt
  · exact (no hn hl1 hn' hlt (v' := v')).elim
  · subst heq
    rw [hn] at hn'
    injection hn' with hm
    have hf : w1 = w2 ∧ fr1 = fr2 := by simpa [lone] using hm
    obtain ⟨rfl, rfl⟩ := hf
    obtain ⟨_, _, _, fn, hfn, hr⟩ := hl1
    obtain ⟨_, _, _, fn', hfn', hr'⟩ := hl2
    rw [hfn] at hfn'
    cases hfn'
    rw [hr] at hr'
    cases hr'
    rfl
  · exact (no hn' hl2 hn hgt (v' := v)).elim
theorem quiet_unique {P : Program} {s : Sem Next} {v v' : Value} {w : World} (h : QuietRun P s v w) (h' : QuietRun P s v' w) : v = v' := by
  unfold QuietRun at h h'
  split at h
  · rename_i u w' hr
    rw [hr] at h'
    exact h.1.symm.trans h'.1
  · rename_i f args w' hr
    rw [hr] at h'
    exact calls_unique h h'
  · exact h.elim
end Go.Sx
namespace Go.Sx
open Go
/-! ### A region in which two operations may come in either order, each order walked by itself -/
theorem bltLt {a b : Nat} (h : Nat.blt a b = true) : a < b := by simpa [Nat.blt_eq] using h
section
variable {P : Program} {m : Way} {ops : Array Oper} {Q : Exit → Act → World → Prop}
/-- Operation x waits for y, at once. -/
def edgeB (ops : Array Oper) (x y : Nat) : Bool :=
  match ops[x]? with
  | some o => o.after.any fun e => Region.binds .any e && Nat.beq e.on y
  | none => false
theorem edgeB_of {x : Nat} {o : Oper} {e : Edge} (ho : ops[x]? = some o) (he : e ∈ o.after) (hb : Region.binds .any e = true) : edgeB ops x e.on = true := by
  unfold edgeB
  rw [ho]
  simp only
  rw [Array.any_eq_true']
  exact ⟨e, he, by rw [hb]; simp [Nat.beq_refl]⟩
theorem wpI_of_list : ∀ (l : List Nat) (U : Nat → Prop) (a : Act) (w : World), Laid m U w → (∀ i ∈ l, i < ops.size) → wpL P m ops Q (l.filterMap fun i => ops[i]?) U a w → wpI P m ops Q l U a w
  | [], U, a, w, _, _, h => h
  | i :: l, U, a, w, hL, hlt, h => by
    have hi := hlt i (by simp)
    have ho : ops[i]? = some ops[i] := by simp [hi]
    rw [List.filterMap_cons, ho] at h
    exact ⟨ops[i], ho, OpOk.mono hL (fun U a w hL h => wpI_of_list l U a w hL (fun j hj => hlt j (by simp [hj])) h) h⟩

/-- What holds of a list of operations that are left. -/
structure LeftOps (ops : Array Oper) (l : List Nat) (listed : Array Bool) : Prop where
  size : listed.size = ops.size
  mem : ∀ i, i ∈ l ↔ listed.getD i true = false
  closed : ∀ (j : Nat) (o : Oper), ops[j]? = some o → listed.getD j false = true → ∀ e ∈ o.after, Region.binds .any e = true → listed.getD e.on false = true
  nodup : l.Nodup
  inb : ∀ (k : Nat) (o : Oper), ops[k]? = some o → ∀ e ∈ o.after, Region.binds .any e = true → e.on < ops.size
theorem LeftOps.lt {l : List Nat} {listed : Array Bool} (h : LeftOps ops l listed) : ∀ i ∈ l, i < ops.size := fun i hi => by
  have h1 := (h.mem i).1 hi
  rcases Nat.lt_or_ge i listed.size with h' | h'
  · have := h.size; omega
  · simp [Array.getElem?_eq_none h'] at h1
theorem LeftOps.next {l1 l2 : List Nat} {j : Nat} {listed : Array Bool} (h : LeftOps ops (l1 ++ j :: l2) listed) (hr : j ∈ Region.ready .any ops listed) : LeftOps ops (l1 ++ l2) (listed.setIfInBounds j true) := by
  have hjr := mem_ready.1 hr
  have hjs := h.lt j (by simp)
  refine ⟨by simpa using h.size, fun i => ?_, fun k o ho hk e he hb => ?_, ?_, h.inb⟩
  · have h0 := h.mem i
    by_cases hij : j = i
    · subst hij
      have hjs' : j < listed.size := by have := h.size; omega
      constructor
      · intro hm
        exfalso
        have := h.nodup
        rw [List.nodup_append] at this
        obtain ⟨_, n2, n3⟩ := this
        rw [List.nodup_cons] at n2
        rcases List.mem_append.1 hm with hm | hm
        · exact n3 j hm j (by simp) rfl
        · exact n2.1 hm
      · intro hm
        simp [hjs'] at hm
    · rw [getD_set_ne true hij, ← h0]
      simp [Ne.symm hij]
  · by_cases hjk : j = k
    · subst hjk
      obtain ⟨_, oj', hoj', hall⟩ := hjr
      rw [hoj'] at ho; cases ho
      exact getD_set_true (hall e he hb)
    · rw [getD_set_ne false hjk] at hk
      exact getD_set_true (h.closed k o ho hk e he hb)
  · have := h.nodup
    rw [List.nodup_append] at this ⊢
    obtain ⟨n1, n2, n3⟩ := this
    rw [List.nodup_cons] at n2
    exact ⟨n1, n2.2, fun a ha b hb => n3 a ha b (by simp [hb])⟩
theorem LeftOps.notdep {l : List Nat} {listed : Array Bool} (h : LeftOps ops l listed) {i j : Nat} (hi : i ∈ l) (hr : j ∈ Region.ready .any ops listed) : ¬ Dep ops j i := fun hd => by
  obtain ⟨_, oj, hoj, hall⟩ := mem_ready.1 hr
  have h2 := (h.mem i).1 hi
  have h3 : i < listed.size := by have := h.lt i hi; have := h.size; omega
  have h4 : listed.getD i false = true := by
    cases hd with
    | one ho he hb => rw [hoj] at ho; cases ho; exact hall _ he hb
    | step ho he hb hd =>
      rw [hoj] at ho; cases ho
      exact dep_listed h.closed hd (hall _ he hb)
  simp [h3] at h4 h2
  rw [h2] at h4
  cases h4
theorem LeftOps.notdep2 {l : List Nat} {listed : Array Bool} (h : LeftOps ops l listed) {i j : Nat} (hi : i ∈ l) (hj : listed.getD j false = true) : ¬ Dep ops j i := fun hd => by
  have h2 := (h.mem i).1 hi
  have h3 : i < listed.size := by have := h.lt i hi; have := h.size; omega
  have h4 := dep_listed h.closed hd hj
  simp [h3] at h4 h2
  rw [h2] at h4
  cases h4
/-- Some operation is ready as long as one is left. -/
theorem LeftOps.some_ready {l : List Nat} {listed : Array Bool} (h : LeftOps ops l listed) (hw : l.Pairwise fun x y => edgeB ops x y = false) (hs : ∀ x ∈ l, edgeB ops x x = false) (hr : Region.ready .any ops listed = []) : l = [] := by
  cases l with
  | nil => rfl
  | cons x xs =>
    exfalso
    have hx := h.lt x (by simp)
    have hxr : x ∈ Region.ready .any ops listed := by
      rw [mem_ready]
      refine ⟨(h.mem x).1 (by simp), ops[x], by simp [hx], fun e he hb => ?_⟩
      have he' := edgeB_of (show ops[x]? = some ops[x] by simp [hx]) he hb
      have h3 : e.on ∉ x :: xs := by
        intro hm
        rcases List.mem_cons.1 hm with h4 | h4
        · rw [h4, hs x (by simp)] at he'; cases he'
        · rw [(List.pairwise_cons.1 hw).1 _ h4] at he'; cases he'
      have h4 : ¬ listed.getD e.on true = false := fun h' => h3 ((h.mem _).2 h')
      rcases Nat.lt_or_ge e.on listed.size with h5 | h5
      · simp [h5] at h4 ⊢
        exact h4
      · exfalso
        have := h.inb x _ (show ops[x]? = some ops[x] by simp [hx]) e he hb
        have := h.size
        omega
    rw [hr] at hxr
    cases hxr
def storeK : Op → Bool
  | .store .. => true
  | _ => false
/-- Operations whose outcome is one. -/
def soleK (g : Bool) (o : Op) : Bool := pureK o || readK o || (g && allocK o) || storeK o || (g && callK o)
theorem Done_and {o : Oper} (hs : soleK m.g o.op = true) {K1 K2 : Kont} {U : Nat → Prop} {a : Act} {w : World} (h1 : Done P m Q o K1 U a w) (h2 : Done P m Q o K2 U a w) : Done P m Q o (fun U a w => K1 U a w ∧ K2 U a w) U a w := by
  unfold Done at *
  split
  · rename_i c1
    rw [if_pos c1] at h1 h2
    obtain ⟨v, hv, hk⟩ := h1
    obtain ⟨v', hv', hk'⟩ := h2
    have := (hv w).symm.trans (hv' w)
    simp only [Result.ok.injEq, Next.value.injEq, and_true] at this
    subst this
    exact ⟨v, hv, hk, hk'⟩
  · rename_i c1
    rw [if_neg c1] at h1 h2
    split
    · rename_i c2
      rw [if_pos c2] at h1 h2
      obtain ⟨v, hv, hk⟩ := h1
      obtain ⟨v', hv', hk'⟩ := h2
      have hvv : v = v' := quiet_unique (hv w (Grow.refl w)) (hv' w (Grow.refl w))
      subst hvv
      exact ⟨v, hv, fun w' hg => ⟨hk w' hg, hk' w' hg⟩⟩
    · rename_i c2
      rw [if_neg c2] at h1 h2
      split
      · rename_i c3
        rw [if_pos c3] at h1 h2
        obtain ⟨ob, hv, hk⟩ := h1
        obtain ⟨ob', hv', hk'⟩ := h2
        have := (hv w).symm.trans (hv' w)
        simp only [Result.ok.injEq, true_and] at this
        have hob : ob = ob' := by
          have h : (w.heap.push ob)[w.heap.size]? = (w.heap.push ob')[w.heap.size]? := congrArg (fun w' : World => w'.heap[w.heap.size]?) this
          rw [Array.getElem?_push_size, Array.getElem?_push_size] at h
          exact Option.some.inj h
        subst hob
        exact ⟨ob, hv, fun w' n x1 x2 x3 x4 => ⟨hk w' n x1 x2 x3 x4, hk' w' n x1 x2 x3 x4⟩⟩
      · rename_i c3
        rw [if_neg c3] at h1 h2
        have hst : storeK o.op = true := by
          unfold soleK at hs
          simp only [Bool.or_eq_true] at hs
          rcases hs with (((h | h) | h) | h) | h
          · exact absurd h c1
          · exfalso; exact c2 (by unfold softK; rw [h]; rfl)
          · exact absurd h c3
          · exact h
          · exfalso
            rw [Bool.and_eq_true] at h
            exact c2 (by unfold softK; rw [h.1, h.2]; simp)
        unfold Oper.wp at *
        cases hop : o.op <;> rw [hop] at hst <;> try cases hst
        rename_i t x y
        have hrun : (execOp a.eval o).run P w = (do Instr.storeAt t (a.eval x) (a.eval y); pure Next.skip : Sem Next).run P w := by
          unfold execOp
          rw [hop]
        rw [hrun] at h1 h2 ⊢
        simp only [Sem.run_bind] at h1 h2 ⊢
        cases hr : (Instr.storeAt t (a.eval x) (a.eval y)).run P w with
        | ok u w' =>
          rw [hr] at h1 h2
          simp only [Result.andThen_ok, Sem.run_pure, Oper.upon] at h1 h2 ⊢
          exact ⟨h1.1, h1.2, h2.2⟩
        | halt hh w' =>
          rw [hr] at h1
          cases hh with
          | panic v => exact h1
          | _ => exact h1.elim
theorem OpOk_and {o : Oper} (hs : soleK m.g o.op = true) {K1 K2 : Kont} {U : Nat → Prop} {a : Act} {w : World} (h1 : OpOk P m ops Q o K1 U a w) (h2 : OpOk P m ops Q o K2 U a w) : OpOk P m ops Q o (fun U a w => K1 U a w ∧ K2 U a w) U a w := by
  unfold OpOk at *
  split
  · rename_i c; rw [if_pos c] at h1 h2; exact Done_and hs h1 h2
  · rename_i c; rw [if_neg c] at h1 h2; exact ⟨h1, h2⟩

/-- One order. -/
theorem any_one (hQ : Calm Q) : ∀ (n : Nat) (l : List Nat) (listed : Array Bool) (U : Nat → Prop) (a : Act) (w : World), Laid m U w → l.length = n → LeftOps ops l listed →
    (l.Pairwise fun x y => edgeB ops x y = false) → (∀ x ∈ l, edgeB ops x x = false) → (l.Pairwise fun x y => Dep ops y x ∨ comms m.g ops x y = true) →
    wpI P m ops Q l U a w → wpAny P .any ops Q n listed a w := by
  intro n
  induction n with
  | zero =>
    intro l listed U a w _ hl hleft hw hs _ h
    have : l = [] := List.length_eq_zero_iff.1 hl
    subst this
    refine ⟨?_, h⟩
    cases hr : Region.ready .any ops listed with
    | nil => rfl
    | cons x xs =>
      have hx : x ∈ Region.ready .any ops listed := by rw [hr]; simp
      have := (hleft.mem x).2 (mem_ready.1 hx).1
      simp at this
  | succ n ih =>
    intro l listed U a w hL hl hleft hw hs hc h
    refine ⟨fun hr => ?_, fun j hj => ?_⟩
    · have := hleft.some_ready hw hs hr
      subst this
      simp at hl
    · have hjl : j ∈ l := (hleft.mem j).2 (mem_ready.1 hj).1
      obtain ⟨l1, l2, rfl⟩ := List.append_of_mem hjl
      have hcs : ∀ i ∈ l1, comms m.g ops i j = true := fun i hi => by
        rw [List.pairwise_append] at hc
        rcases hc.2.2 i hi j (by simp) with hd | hd
        · exact absurd hd (hleft.notdep (by simp [hi]) hj)
        · exact hd
      obtain ⟨oj, hoj, hh⟩ := front hQ j l2 l1 U a w hL hcs h
      refine wpOp_mono (fun a' w' ⟨U', hL', h'⟩ => ih (l1 ++ l2) _ U' a' w' hL' (by simp at hl ⊢; omega) (hleft.next hj) ?_ (fun x hx => hs x (by
        rcases List.mem_append.1 hx with hx | hx <;> simp [hx])) ?_ h') (hh.wpOp hoj hL)
      · rw [List.pairwise_append] at hw ⊢
        rw [List.pairwise_cons] at hw
        exact ⟨hw.1, hw.2.1.2, fun x hx y hy => hw.2.2 x hx y (by simp [hy])⟩
      · rw [List.pairwise_append] at hc ⊢
        rw [List.pairwise_cons] at hc
        exact ⟨hc.1, hc.2.1.2, fun x hx y hy => hc.2.2 x hx y (by simp [hy])⟩
theorem pw_cut {R : Nat → Nat → Prop} {l1 l2 : List Nat} {j : Nat} (h : (l1 ++ j :: l2).Pairwise R) : (l1 ++ l2).Pairwise R := by
  rw [List.pairwise_append] at h ⊢
  rw [List.pairwise_cons] at h
  exact ⟨h.1, h.2.1.2, fun x hx y hy => h.2.2 x hx y (by simp [hy])⟩
theorem pw_front {R : Nat → Nat → Prop} {l1 l2 : List Nat} {j : Nat} (h : (l1 ++ j :: l2).Pairwise R) : ∀ x ∈ l1, R x j := by
  rw [List.pairwise_append] at h
  exact fun x hx => h.2.2 x hx j (by simp)
/-- Two orders: i ahead of j, j ahead of i. -/
theorem any_two (hQ : Calm Q) (i j : Nat) (hsole : ∀ (k : Nat) (o : Oper), ops[k]? = some o → k = i ∨ k = j ∨ Dep ops k i ∨ Dep ops k j ∨ soleK m.g o.op = true) : ∀ (n : Nat) (l l' : List Nat) (listed : Array Bool) (U : Nat → Prop) (a : Act) (w : World), Laid m U w → l.length = n → l'.length = n → LeftOps ops l listed → LeftOps ops l' listed →
    i ∈ l → j ∈ l → i ≠ j → (l.Pairwise fun x y => edgeB ops x y = false) → (∀ x ∈ l, edgeB ops x x = false) → (l'.Pairwise fun x y => edgeB ops x y = false) →
    (l.Pairwise fun x y => Dep ops y x ∨ comms m.g ops x y = true ∨ (x = i ∧ y = j)) →
    (l'.Pairwise fun x y => Dep ops y x ∨ comms m.g ops x y = true ∨ (y = i ∧ (x = j ∨ Dep ops j x))) →
    wpI P m ops Q l U a w → wpI P m ops Q l' U a w → wpAny P .any ops Q n listed a w := by
  intro n
  induction n with
  | zero =>
    intro l l' listed U a w _ hl _ _ _ hi
    have : l = [] := List.length_eq_zero_iff.1 hl
    subst this
    cases hi
  | succ n ih =>
    intro l l' listed U a w hL hl hl' hleft hleft' hi hj hij hw hs hw' hc hc' h h'
    refine ⟨fun hr => ?_, fun y hy => ?_⟩
    · have := hleft.some_ready hw hs hr
      subst this
      cases hi
    · have hyl : y ∈ l := (hleft.mem y).2 (mem_ready.1 hy).1
      have hyl' : y ∈ l' := (hleft'.mem y).2 (mem_ready.1 hy).1
      obtain ⟨l1, l2, rfl⟩ := List.append_of_mem hyl
      obtain ⟨k1, k2, rfl⟩ := List.append_of_mem hyl'
      have hl1 : (l1 ++ l2).length = n := by simp at hl ⊢; omega
      have hne : ∀ x ∈ l1, x ≠ y := fun x hx he => by
        have := hleft.nodup
        rw [List.nodup_append] at this
        exact this.2.2 x hx y (by simp) he
      have hne' : ∀ x ∈ k1, x ≠ y := fun x hx he => by
        have := hleft'.nodup
        rw [List.nodup_append] at this
        exact this.2.2 x hx y (by simp) he
      have hk1 : (k1 ++ k2).length = n := by simp at hl' ⊢; omega
      by_cases hyi : y = i
      · -- i first: the first order alone
        subst hyi
        have hcs : ∀ x ∈ l1, comms m.g ops x y = true := fun x hx => by
          rcases pw_front hc x hx with hd | hd | hd
          · exact absurd hd (hleft.notdep (by simp [hx]) hy)
          · exact hd
          · exact absurd hd.1 (hne x hx)
        obtain ⟨oy, hoy, hh⟩ := front hQ y l2 l1 U a w hL hcs h
        refine wpOp_mono (fun a' w' ⟨U', hL', g'⟩ => any_one hQ n (l1 ++ l2) _ U' a' w' hL' hl1 (hleft.next hy) (pw_cut hw) (fun x hx => hs x (by
          rcases List.mem_append.1 hx with hx | hx <;> simp [hx])) ?_ g') (hh.wpOp hoy hL)
        have hnd := hleft.nodup
        rw [List.nodup_append, List.nodup_cons] at hnd
        refine List.Pairwise.imp_of_mem ?_ (pw_cut hc)
        intro x z hx hz hxz
        rcases hxz with hd | hd | hd
        · exact .inl hd
        · exact .inr hd
        · exfalso
          rcases List.mem_append.1 hx with hx | hx
          · exact hne x hx hd.1
          · exact hnd.2.1.1 (hd.1 ▸ hx)
      · by_cases hyj : y = j
        · -- j first: the second order alone
          subst hyj
          have hcs : ∀ x ∈ k1, comms m.g ops x y = true := fun x hx => by
            rcases pw_front hc' x hx with hd | hd | hd
            · exact absurd hd (hleft'.notdep (by simp [hx]) hy)
            · exact hd
            · exact absurd hd.1 hyi
          obtain ⟨oy, hoy, hh⟩ := front hQ y k2 k1 U a w hL hcs h'
          refine wpOp_mono (fun a' w' ⟨U', hL', g'⟩ => any_one hQ n (k1 ++ k2) _ U' a' w' hL' hk1 (hleft'.next hy) (pw_cut hw') (fun x hx => hs x (by
            have := ((hleft.next hy).mem x).2 (((hleft'.next hy).mem x).1 hx)
            rcases List.mem_append.1 this with hx | hx <;> simp [hx])) ?_ g') (hh.wpOp hoy hL)
          have hnd := hleft'.nodup
          rw [List.nodup_append, List.nodup_cons] at hnd
          have hlisted : (listed.setIfInBounds y true).getD y false = true := by
            have := hleft.lt y (by simp)
            have := hleft.size
            simp [show y < listed.size by omega]
          refine List.Pairwise.imp_of_mem ?_ (pw_cut hc')
          intro x z hx hz hxz
          rcases hxz with hd | hd | ⟨_, hd | hd⟩
          · exact .inl hd
          · exact .inr hd
          · exfalso
            rcases List.mem_append.1 hx with hx | hx
            · exact hne' x hx hd
            · exact hnd.2.1.1 (hd ▸ hx)
          · exact absurd hd ((hleft'.next hy).notdep2 hx hlisted)
        · -- another one: both go on
          have hcs : ∀ x ∈ l1, comms m.g ops x y = true := fun x hx => by
            rcases pw_front hc x hx with hd | hd | hd
            · exact absurd hd (hleft.notdep (by simp [hx]) hy)
            · exact hd
            · exact absurd hd.2 hyj
          have hcs' : ∀ x ∈ k1, comms m.g ops x y = true := fun x hx => by
            rcases pw_front hc' x hx with hd | hd | hd
            · exact absurd hd (hleft'.notdep (by simp [hx]) hy)
            · exact hd
            · exact absurd hd.1 hyi
          obtain ⟨oy, hoy, hh⟩ := front hQ y l2 l1 U a w hL hcs h
          obtain ⟨oy', hoy', hh'⟩ := front hQ y k2 k1 U a w hL hcs' h'
          rw [hoy] at hoy'
          cases hoy'
          have hso : soleK m.g oy.op = true := by
            rcases hsole y oy hoy with h | h | h | h | h
            · exact absurd h hyi
            · exact absurd h hyj
            · exact absurd h (hleft.notdep hi hy)
            · exact absurd h (hleft.notdep hj hy)
            · exact h
          have both := OpOk_and hso hh hh'
          refine wpOp_mono (fun a' w' ⟨U', hL', g1, g2⟩ => ih (l1 ++ l2) (k1 ++ k2) _ U' a' w' hL' hl1 hk1 (hleft.next hy) (hleft'.next hy) ?_ ?_ hij (pw_cut hw) (fun x hx => hs x (by
            rcases List.mem_append.1 hx with hx | hx <;> simp [hx])) (pw_cut hw') (pw_cut hc) (pw_cut hc') g1 g2) (both.wpOp hoy hL)
          · rcases List.mem_append.1 hi with hm | hm
            · simp [hm]
            · rcases List.mem_cons.1 hm with hm | hm
              · exact absurd hm.symm hyi
              · simp [hm]
          · rcases List.mem_append.1 hj with hm | hm
            · simp [hm]
            · rcases List.mem_cons.1 hm with hm | hm
              · exact absurd hm.symm hyj
              · simp [hm]

/-- The checks. -/
def pairsB (r : Nat → Nat → Bool) : List Nat → Bool
  | [] => true
  | x :: xs => (xs.all fun y => r x y) && pairsB r xs
theorem pairsB_spec {r : Nat → Nat → Bool} {R : Nat → Nat → Prop} (hr : ∀ x y, r x y = true → R x y) : ∀ {l : List Nat}, pairsB r l = true → l.Pairwise R
  | [], _ => .nil
  | x :: xs, h => by
    simp only [pairsB, Bool.and_eq_true] at h
    exact .cons (fun y hy => hr x y (List.all_eq_true.1 h.1 y hy)) (pairsB_spec hr h.2)
def twoB (g : Bool) (ops : Array Oper) (i j : Nat) (l' : List Nat) : Bool :=
  let ms := masks ops.toList []
  let l := List.range ops.size
  (l.all fun x => !edgeB ops x x && (match ops[x]? with | some o => (o.after.all fun e => !Region.binds .any e || Nat.blt e.on ops.size) && (soleK g o.op || Nat.beq x i || Nat.beq x j || (ms.getD x 0).testBit i || (ms.getD x 0).testBit j) | none => false)) && pairsB (fun x y => !edgeB ops x y) l && pairsB (fun x y => !edgeB ops x y) l' &&
  pairsB (fun x y => (ms.getD y 0).testBit x || comms g ops x y || (Nat.beq x i && Nat.beq y j)) l &&
  pairsB (fun x y => (ms.getD y 0).testBit x || comms g ops x y || (Nat.beq y i && (Nat.beq x j || (ms.getD j 0).testBit x))) l' &&
  Nat.blt i ops.size && Nat.blt j ops.size && !Nat.beq i j && (l.all fun x => l'.any fun y => Nat.beq x y) && (l'.all fun x => Nat.blt x ops.size) && pairsB (fun x y => !Nat.beq x y) l' && Nat.beq l'.length ops.size
theorem region_two {id : Nat} {a : Act} {w : World} (hm : P.follows .mixedOrders = true) (hQ : Calm Q) {i j : Nat} {l' : List Nat} (hB : twoB m.g ops i j l' = true) (hs : m.s0 ≤ w.heap.size)
    (h : wpL P m ops Q ops.toList (fun _ => False) a { w with drawn := w.drawn + 1 }) (h' : wpL P m ops Q (l'.filterMap fun i => ops[i]?) (fun _ => False) a { w with drawn := w.drawn + 1 }) : (Code.region id ops true).wp P Q a w := by
  have hL : Laid m (fun _ => False) ({ w with drawn := w.drawn + 1 } : World) := ⟨hs, fun _ h => h.elim⟩
  unfold twoB at hB
  simp only [Bool.and_eq_true] at hB
  obtain ⟨⟨⟨⟨⟨⟨⟨⟨⟨⟨⟨b1, b2⟩, b3⟩, b4⟩, b5⟩, b6⟩, b7⟩, b8⟩, b9⟩, b10⟩, b11⟩, b12⟩ := hB
  have hdep : ∀ x y, ((masks ops.toList []).getD y 0).testBit x = true → Dep ops y x := fun x y hxy => masks_dep ops.toList [] (by simp) (fun m hm => by simp at hm) y hxy
  have hlt' : ∀ x ∈ l', x < ops.size := fun x hx => bltLt (List.all_eq_true.1 b10 x hx)
  have hself : ∀ x, x < ops.size → edgeB ops x x = false := fun x hx => by
    have := List.all_eq_true.1 b1 x (List.mem_range.2 hx)
    rw [Bool.and_eq_true] at this
    simpa using this.1
  have hrep : ∀ k, k < ops.size → (Array.replicate ops.size false).getD k true = false := fun k hk => by simp [hk]
  have hmem : ∀ (l : List Nat), (∀ x ∈ l, x < ops.size) → (∀ x, x < ops.size → x ∈ l) → l.Nodup → LeftOps ops l (Array.replicate ops.size false) := fun l h1 h2 h3 => by
    refine ⟨by simp, fun k => ⟨fun hk => hrep k (h1 k hk), fun hk => h2 k ?_⟩, fun k o ho hl => ?_, h3, fun k o ho e he hb => ?_⟩
    · rcases Nat.lt_or_ge k ops.size with h' | h'
      · exact h'
      · simp [h'] at hk
    · exfalso
      rcases Nat.lt_or_ge k ops.size with h' | h'
      · simp [h'] at hl
      · simp [h'] at hl
    · have hk : k < ops.size := (Array.getElem?_eq_some_iff.1 ho).1
      have := List.all_eq_true.1 b1 k (List.mem_range.2 hk)
      rw [ho] at this
      simp only [Bool.and_eq_true] at this
      have := Array.all_eq_true_iff_forall_mem.1 this.2.1 e he
      simp only [hb, Bool.not_true, Bool.false_or] at this
      exact bltLt this
  have hl1 := hmem (List.range ops.size) (fun x hx => List.mem_range.1 hx) (fun x hx => List.mem_range.2 hx) List.nodup_range
  have hl2 := hmem l' hlt' (fun x hx => by
      have := List.all_eq_true.1 b9 x (List.mem_range.2 hx)
      rw [List.any_eq_true] at this
      obtain ⟨y, hy, hxy⟩ := this
      rw [Nat.eq_of_beq_eq_true hxy]; exact hy)
    (pairsB_spec (fun x y h => by
      intro he
      subst he
      simp [Nat.beq_refl] at h) b11)
  refine wp_region_any hm (any_two hQ i j (fun k o ho => ?_) ops.size (List.range ops.size) l' _ (fun _ => False) a _ hL (by simp) (Nat.eq_of_beq_eq_true b12) hl1 hl2 (List.mem_range.2 (bltLt b6)) (List.mem_range.2 (bltLt b7))
    (by simp only [Bool.not_eq_true'] at b8; exact Nat.ne_of_beq_eq_false b8) (pairsB_spec (fun x y h => by simpa using h) b2) (fun x hx => hself x (List.mem_range.1 hx)) (pairsB_spec (fun x y h => by simpa using h) b3)
    (pairsB_spec (fun x y h => ?_) b4) (pairsB_spec (fun x y h => ?_) b5) ?_ ?_)
  · have hk : k < ops.size := (Array.getElem?_eq_some_iff.1 ho).1
    have := List.all_eq_true.1 b1 k (List.mem_range.2 hk)
    rw [ho] at this
    simp only [Bool.and_eq_true, Bool.or_eq_true] at this
    rcases this.2.2 with (((h | h) | h) | h) | h
    · exact .inr (.inr (.inr (.inr h)))
    · exact .inl (Nat.eq_of_beq_eq_true h)
    · exact .inr (.inl (Nat.eq_of_beq_eq_true h))
    · exact .inr (.inr (.inl (hdep i k h)))
    · exact .inr (.inr (.inr (.inl (hdep j k h))))
  · simp only [Bool.or_eq_true, Bool.and_eq_true] at h
    rcases h with (h | h) | h
    · exact .inl (hdep x y h)
    · exact .inr (.inl h)
    · exact .inr (.inr ⟨Nat.eq_of_beq_eq_true h.1, Nat.eq_of_beq_eq_true h.2⟩)
  · simp only [Bool.or_eq_true, Bool.and_eq_true] at h
    rcases h with (h | h) | ⟨h1, h | h⟩
    · exact .inl (hdep x y h)
    · exact .inr (.inl h)
    · exact .inr (.inr ⟨Nat.eq_of_beq_eq_true h1, .inl (Nat.eq_of_beq_eq_true h)⟩)
    · exact .inr (.inr ⟨Nat.eq_of_beq_eq_true h1, .inr (hdep x j h)⟩)
  · have := wpI_of_wpL ops.toList 0 _ a _ hL (by simp) h
    simpa [List.range_eq_range'] using this
  · exact wpI_of_list l' _ a _ hL hlt' h'
end
end Go.Sx
