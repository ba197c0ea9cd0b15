import Derived.Still
/- Aids to the claim: what is shown here is said at each theorem. -/
namespace Go.Sx

/-- A world that has grown: what was there is as it was. -/
structure Grow (w w' : World) : Prop where
  tape : w'.tape = w.tape
  os : w'.os = w.os
  output : w'.output = w.output
  size : w.heap.size ≤ w'.heap.size
  same : ∀ j, j < w.heap.size → w'.heap[j]? = w.heap[j]?
theorem Grow.refl (w : World) : Grow w w := ⟨rfl, rfl, rfl, Nat.le_refl _, fun _ _ => rfl⟩
theorem Grow.trans {a b c : World} (h : Grow a b) (h' : Grow b c) : Grow a c :=
  ⟨h'.tape.trans h.tape, h'.os.trans h.os, h'.output.trans h.output, Nat.le_trans h.size h'.size, fun j hj => (h'.same j (Nat.lt_of_lt_of_le hj h.size)).trans (h.same j hj)⟩

def World.push (w : World) (o : Obj) : World := { w with heap := w.heap.push o }
theorem Grow.push (w : World) (o : Obj) : Grow w (World.push w o) := by
  refine ⟨rfl, rfl, rfl, by simp [World.push], fun j hj => ?_⟩
  simp [World.push, Array.getElem?_push, Nat.ne_of_lt hj]

/-- Operations whose value hangs on their operands alone (the walk must show it of each). -/
def pureK : Op → Bool
  | .move _ | .assign _ | .extract .. | .nilCheck _ | .indexAddr .. | .fieldAddr .. | .binOp .. | .unOp .. | .convert .. | .pick .. | .build ..
  | .makeInterface .. | .slice .. | .sliceToArrayPointer .. | .index .. | .field .. => true
  | _ => false
def readK : Op → Bool
  | .load .. => true
  | _ => false
def callK : Op → Bool
  | .call .. => true
  | _ => false
def allocK : Op → Bool
  | .alloc .. => true
  | _ => false

/-- 'g': the region's calls only make memory, and its variables' places are laid wherever. -/
structure Way where
  g : Bool
  s0 : Nat

abbrev Kont := (Nat → Prop) → Act → World → Prop
def more (U : Nat → Prop) (n : Nat) : Nat → Prop := fun m => m = n ∨ U m
theorem more_comm (U : Nat → Prop) (n k : Nat) : more (more U n) k = more (more U k) n := by
  funext m; unfold more; exact propext ⟨fun h => by rcases h with h | h | h <;> simp [h], fun h => by rcases h with h | h | h <;> simp [h]⟩

/-- A call or a read that hands back a value and only makes memory. -/
def QuietRun (P : Program) (s : Sem Next) (v : Value) (w : World) : Prop :=
  match s.run P w with
  | .ok (.value u) w' => u = v ∧ Grow w w'
  | .ok (.enter f args) w' => Calls P f args w' fun e w'' => e = .returned v ∧ Grow w w''
  | _ => False

/-- The number of the function that hands back the prime: her call is quiet wherever it stands. -/
def pFn : Nat := 36
def pCall : Op → Bool
  | .call c => match c.callee with
    | .value (.func f) => Nat.beq f pFn
    | _ => false
  | _ => false
def softK (g : Bool) (o : Op) : Bool := readK o || ((g || pCall o) && callK o)

section
variable (P : Program) (m : Way) (ops : Array Oper) (Q : Exit → Act → World → Prop)

/-- What a wanted operation owes, by its kind. -/
def Done (o : Oper) (K : Kont) (U : Nat → Prop) (a : Act) (w : World) : Prop :=
  if pureK o.op = true then ∃ v, (∀ w', (execOp a.eval o).run P w' = .ok (.value v) w') ∧ K U (a.put o.dst v) w
  else if softK m.g o.op = true then ∃ v, (∀ w', Grow w w' → QuietRun P (execOp a.eval o) v w') ∧ ∀ w', Grow w w' → K U (a.put o.dst v) w'
  else if (m.g && allocK o.op) = true then ∃ ob, (∀ w', (execOp a.eval o).run P w' = .ok (.value (.pointer (some ⟨w'.heap.size, 0, none⟩))) (World.push w' ob)) ∧
    ∀ w' n, Grow w w' → m.s0 ≤ n → ¬ U n → w'.heap[n]? = some ob → K (more U n) (a.put o.dst (.pointer (some ⟨n, 0, none⟩))) w'
  else o.wp P a w (fun a' w' => w.heap.size ≤ w'.heap.size ∧ K U a' w') Q

def OpOk (o : Oper) (K : Kont) (U : Nat → Prop) (a : Act) (w : World) : Prop :=
  if Region.wanted o (yielded ops a.tmps) = true then Done P m Q o K U a w else K U (a.put o.dst undef) w

def wpL : List Oper → Kont
  | [] => fun _ a w => Q .normal a w
  | o :: rest => OpOk P m ops Q o (wpL rest)

def wpI : List Nat → Kont
  | [] => fun _ a w => Q .normal a w
  | i :: rest => fun U a w => ∃ o, ops[i]? = some o ∧ OpOk P m ops Q o (wpI rest) U a w
end

def noSel : Op → Bool
  | .select .. => false
  | _ => true
theorem noSel_spec {o : Oper} (h : noSel o.op = true) : ∀ cs b, o.op ≠ .select cs b := by
  intro cs b e; rw [e] at h; cases h

/-- Which two kinds may change places (the first one stands first in the text). -/
def kinds (g : Bool) (x y : Op) : Bool :=
  pureK x || pureK y || (softK g x && softK g y) || (softK g x && (g && allocK y)) || ((g && allocK x) && (g && allocK y))
def comm (g : Bool) (ops : Array Oper) (x y : Oper) : Bool :=
  x.apart ops y && kinds g x.op y.op && noSel x.op && noSel y.op

/-- The exits that a walk never takes here. -/
def Calm (Q : Exit → Act → World → Prop) : Prop := (∀ c a w, ¬ Q (.panic c) a w) ∧ (∀ a w, ¬ Q .outgrown a w)
/-- The places that have been laid lie in the heap. -/
def Laid (m : Way) (U : Nat → Prop) (w : World) : Prop := m.s0 ≤ w.heap.size ∧ ∀ n, U n → n < w.heap.size

section
variable {P : Program} {m : Way} {ops : Array Oper} {Q : Exit → Act → World → Prop}

theorem Laid.more {U : Nat → Prop} {w : World} {n : Nat} {ob : Obj} (h : Laid m U w) (hn : w.heap[n]? = some ob) : Laid m (more U n) w :=
  ⟨h.1, fun k hk => by
    rcases hk with hk | hk
    · subst hk; exact (Array.getElem?_eq_some_iff.1 hn).1
    · exact h.2 k hk⟩
theorem Laid.grow {U : Nat → Prop} {w w' : World} (h : Laid m U w) (hs : w.heap.size ≤ w'.heap.size) : Laid m U w' :=
  ⟨Nat.le_trans h.1 hs, fun n hn => Nat.lt_of_lt_of_le (h.2 n hn) hs⟩

theorem Done.mono {o : Oper} {K K' : Kont} {U : Nat → Prop} {a : Act} {w : World} (hL : Laid m U w) (h : ∀ U a w, Laid m U w → K U a w → K' U a w)
    (hh : Done P m Q o K U a w) : Done P m Q o K' U a w := by
  unfold Done at *
  split
  · rename_i h1; rw [if_pos h1] at hh; obtain ⟨v, hv, hk⟩ := hh; exact ⟨v, hv, h _ _ _ hL hk⟩
  · rename_i h1; rw [if_neg h1] at hh
    split
    · rename_i h2; rw [if_pos h2] at hh; obtain ⟨v, hv, hk⟩ := hh; exact ⟨v, hv, fun w' hw => h _ _ _ (hL.grow hw.size) (hk w' hw)⟩
    · rename_i h2; rw [if_neg h2] at hh
      split
      · rename_i h3; rw [if_pos h3] at hh; obtain ⟨ob, hv, hk⟩ := hh; exact ⟨ob, hv, fun w' n h1 h2 h3 h4 => h _ _ _ (Laid.more (hL.grow h1.size) h4) (hk w' n h1 h2 h3 h4)⟩
      · rename_i h3; rw [if_neg h3] at hh
        exact Oper.wp_mono (fun a w' h' => ⟨h'.1, h _ _ _ (hL.grow h'.1) h'.2⟩) hh

theorem OpOk.mono {o : Oper} {K K' : Kont} {U : Nat → Prop} {a : Act} {w : World} (hL : Laid m U w) (h : ∀ U a w, Laid m U w → K U a w → K' U a w)
    (hh : OpOk P m ops Q o K U a w) : OpOk P m ops Q o K' U a w := by
  unfold OpOk at *
  split
  · rename_i h1; rw [if_pos h1] at hh; exact hh.mono hL h
  · rename_i h1; rw [if_neg h1] at hh; exact h _ _ _ hL hh

theorem QuietRun.wp {o : Oper} {v : Value} {a : Act} {w : World} {N : Act → World → Prop} (h : QuietRun P (execOp a.eval o) v w)
    (hN : ∀ w', Grow w w' → N (a.put o.dst v) w') : o.wp P a w N Q := by
  unfold QuietRun at h
  unfold Oper.wp
  generalize (execOp a.eval o).run P w = r at *
  cases r with
  | ok n w' =>
    cases n <;> simp only [Oper.upon] at h ⊢
    case value u => obtain ⟨rfl, hg⟩ := h; exact hN _ hg
    case enter f args => exact Calls.mono h fun e w'' he => by obtain ⟨rfl, hg⟩ := he; exact hN _ hg
  | halt x w' => simp only at h

theorem Done.toWp {o : Oper} {K : Kont} {U : Nat → Prop} {a : Act} {w : World} (hL : Laid m U w) (hh : Done P m Q o K U a w) :
    o.wp P a w (fun a' w' => ∃ U', Laid m U' w' ∧ K U' a' w') Q := by
  unfold Done at hh
  split at hh
  · obtain ⟨v, hv, hk⟩ := hh; unfold Oper.wp; rw [hv w]; exact ⟨U, hL, hk⟩
  · split at hh
    · obtain ⟨v, hv, hk⟩ := hh
      exact (hv w (Grow.refl w)).wp fun w' hg => ⟨U, hL.grow hg.size, hk w' hg⟩
    · split at hh
      · obtain ⟨ob, hv, hk⟩ := hh
        unfold Oper.wp
        rw [hv w]
        have hn : (World.push w ob).heap[w.heap.size]? = some ob := by simp [World.push]
        exact ⟨more U w.heap.size, Laid.more (hL.grow (Grow.push w ob).size) hn, hk _ _ (Grow.push w ob) hL.1 (fun h => Nat.lt_irrefl _ (hL.2 _ h)) hn⟩
      · exact Oper.wp_mono (fun a' w' h => ⟨U, hL.grow h.1, h.2⟩) hh

theorem OpOk.wpOp {i : Nat} {o : Oper} (hi : ops[i]? = some o) {K : Kont} {U : Nat → Prop} {a : Act} {w : World} (hL : Laid m U w)
    (hh : OpOk P m ops Q o K U a w) : wpOp P ops Q i (fun a' w' => ∃ U', Laid m U' w' ∧ K U' a' w') a w := by
  unfold Go.wpOp
  simp only [hi]
  split
  · rename_i hw; unfold OpOk at hh; rw [if_pos hw] at hh; exact .inl (hh.toWp hL)
  · rename_i hw; unfold OpOk at hh; rw [if_neg hw] at hh; exact ⟨U, hL, hh⟩

theorem wpI_of_wpL : ∀ (l : List Oper) (k : Nat) (U : Nat → Prop) (a : Act) (w : World), Laid m U w → (∀ j, l[j]? = ops[k + j]?) → wpL P m ops Q l U a w →
    wpI P m ops Q (List.range' k l.length) U a w
  | [], _, _, _, _, _, _, h => by simpa [wpI, wpL] using h
  | o :: l, k, U, a, w, hL, hl, h => by
    have h0 : ops[k]? = some o := by simpa using (hl 0).symm
    simp only [List.length_cons, List.range'_succ, wpI]
    exact ⟨o, h0, OpOk.mono hL (fun U a w hL h => wpI_of_wpL l (k + 1) U a w hL (fun j => by have := hl (j + 1); simpa [Nat.add_assoc, Nat.add_comm 1 j] using this) h) h⟩

theorem wpOps_of_wpI : ∀ (l : List Nat) (U : Nat → Prop) (a : Act) (w : World), Laid m U w → wpI P m ops Q l U a w → wpOps P ops Q l a w
  | [], _, _, _, _, h => h
  | i :: l, U, a, w, hL, h => by
    obtain ⟨o, ho, h⟩ := h
    rw [wpOps_cons]
    exact wpOp_mono (fun a w ⟨U', hL', h'⟩ => wpOps_of_wpI l U' a w hL' h') (h.wpOp ho hL)

/-- The region whose order is that of the text. -/
theorem wp_region_L {id : Nat} {a : Act} {w : World} (hs : m.s0 ≤ w.heap.size) (h : wpL P m ops Q ops.toList (fun _ => False) a w) : (Code.region id ops false).wp P Q a w := by
  refine wp_region (wpOps_of_wpI _ (fun _ => False) a w ⟨hs, fun _ h => h.elim⟩ ?_)
  have := wpI_of_wpL ops.toList 0 _ a w ⟨hs, fun _ h => h.elim⟩ (by simp) h
  simpa [List.range_eq_range'] using this

/-! ### The swap -/

theorem eval_tmps {a a' : Act} (h : a'.tmps = a.tmps) : a'.eval = a.eval := by
  funext x; cases x <;> simp [Act.eval, h]

/-- Two frames in which an operation sees the same. -/
structure Same (ops : Array Oper) (o : Oper) (a a' : Act) : Prop where
  ex : execOp a'.eval o = execOp a.eval o
  wa : Region.wanted o (yielded ops a'.tmps) = Region.wanted o (yielded ops a.tmps)

/-- What goes on behind an operation, told through the put of its value. -/
theorem wp_put {o : Oper} {x : Option Tmp} {v : Value} (hQ : Calm Q) {a b : Act} (he : execOp b.eval o = execOp a.eval o) (hb : b = a.put x v)
    {w : World} {N N' : Act → World → Prop} (h : o.wp P b w N Q)
    (hN : ∀ (a' : Act) u w', a'.tmps = a.tmps → N ((a'.put x v).put o.dst u) w' → N' (a'.put o.dst u) w') : o.wp P a w N' Q := by
  unfold Oper.wp at *
  rw [he] at h
  subst hb
  generalize (execOp a.eval o).run P w = r at *
  cases r with
  | ok n w' =>
    cases n <;> simp only [Oper.upon] at h ⊢
    case value u => exact hN a u w' rfl h
    case skip => exact hN a undef w' rfl h
    case defer d =>
      refine hN { a with defers := d :: a.defers } undef w' rfl ?_
      rw [← Act.put_defers]
      exact h
    case enter f args =>
      refine Calls.mono h fun e w'' he => ?_
      cases e with
      | returned u => exact hN a u w'' rfl he
      | panicked c => exact absurd he (hQ.1 _ _ _)
      | outgrown => exact he
    case row row args => exact Rows.mono h fun u w'' he => hN a u w'' rfl he
  | halt x w' =>
    cases x <;> simp only [Oper.upon] at h ⊢
    case panic u => exact absurd h (hQ.1 _ _ _)

/-- The same the other way. -/
theorem wp_unput {o : Oper} {x : Option Tmp} {v : Value} (hQ : Calm Q) {a b : Act} (he : execOp b.eval o = execOp a.eval o) (hb : b = a.put x v)
    {w : World} {N N' : Act → World → Prop} (h : o.wp P a w N Q)
    (hN : ∀ (a' : Act) u w', a'.tmps = a.tmps → N (a'.put o.dst u) w' → N' ((a'.put x v).put o.dst u) w') : o.wp P b w N' Q := by
  unfold Oper.wp at *
  rw [he]
  subst hb
  generalize (execOp a.eval o).run P w = r at *
  cases r with
  | ok n w' =>
    cases n <;> simp only [Oper.upon] at h ⊢
    case value u => exact hN a u w' rfl h
    case skip => exact hN a undef w' rfl h
    case defer d =>
      have := hN { a with defers := d :: a.defers } undef w' rfl h
      rw [← Act.put_defers] at this
      exact this
    case enter f args =>
      refine Calls.mono h fun e w'' he => ?_
      cases e with
      | returned u => exact hN a u w'' rfl he
      | panicked c => exact absurd he (hQ.1 _ _ _)
      | outgrown => exact he
    case row row args => exact Rows.mono h fun u w'' he => hN a u w'' rfl he
  | halt x w' =>
    cases x <;> simp only [Oper.upon] at h ⊢
    case panic u => exact absurd h (hQ.1 _ _ _)

/-- An operation that goes on: something stands behind it. -/
theorem wp_some {o : Oper} {next : Act → World → Prop} {a : Act} {w : World} {X : Prop} (hQ : Calm Q) (h : o.wp P a w next Q)
    (hX : ∀ (a' : Act) u w', a'.tmps = a.tmps → next (a'.put o.dst u) w' → X) : X := by
  unfold Oper.wp at h
  generalize (execOp a.eval o).run P w = r at *
  cases r with
  | ok n w' =>
    cases n <;> simp only [Oper.upon] at h
    case value u => exact hX a u _ rfl h
    case skip => exact hX a _ _ rfl h
    case defer d => exact hX { a with defers := d :: a.defers } _ _ rfl h
    case enter f args =>
      obtain ⟨e, w'', fr, he, _⟩ := h []
      cases e with
      | returned u => exact hX a u _ rfl he
      | panicked c => exact absurd he (hQ.1 _ _ _)
      | outgrown => obtain ⟨a0, w0, hq⟩ := he; exact absurd hq (hQ.2 _ _)
    case row row args =>
      obtain ⟨v, w'', he, _⟩ := h { (default : Frame) with fn := 0 } []
      exact hX a v _ rfl he
  | halt x w' =>
    cases x <;> simp only [Oper.upon] at h
    case panic u => exact absurd h (hQ.1 _ _ _)

theorem Done.pureCase {o : Oper} {K : Kont} {U : Nat → Prop} {a : Act} {w : World} (h1 : pureK o.op = true) :
    Done P m Q o K U a w ↔ ∃ v, (∀ w', (execOp a.eval o).run P w' = .ok (.value v) w') ∧ K U (a.put o.dst v) w := by
  unfold Done; rw [if_pos h1]
theorem Done.softCase {o : Oper} {K : Kont} {U : Nat → Prop} {a : Act} {w : World} (h1 : ¬ pureK o.op = true) (h2 : softK m.g o.op = true) :
    Done P m Q o K U a w ↔ ∃ v, (∀ w', Grow w w' → QuietRun P (execOp a.eval o) v w') ∧ ∀ w', Grow w w' → K U (a.put o.dst v) w' := by
  unfold Done; rw [if_neg h1, if_pos h2]
theorem Done.allocCase {o : Oper} {K : Kont} {U : Nat → Prop} {a : Act} {w : World} (h1 : ¬ pureK o.op = true) (h2 : ¬ softK m.g o.op = true) (h4 : (m.g && allocK o.op) = true) :
    Done P m Q o K U a w ↔ ∃ ob, (∀ w', (execOp a.eval o).run P w' = .ok (.value (.pointer (some ⟨w'.heap.size, 0, none⟩))) (World.push w' ob)) ∧
    ∀ w' n, Grow w w' → m.s0 ≤ n → ¬ U n → w'.heap[n]? = some ob → K (more U n) (a.put o.dst (.pointer (some ⟨n, 0, none⟩))) w' := by
  unfold Done; rw [if_neg h1, if_neg h2, if_pos h4]
theorem Done.effCase {o : Oper} {K : Kont} {U : Nat → Prop} {a : Act} {w : World} (h1 : ¬ pureK o.op = true) (h2 : ¬ softK m.g o.op = true)
    (h4 : ¬ (m.g && allocK o.op) = true) : Done P m Q o K U a w ↔ o.wp P a w (fun a' w' => w.heap.size ≤ w'.heap.size ∧ K U a' w') Q := by
  unfold Done; rw [if_neg h1, if_neg h2, if_neg h4]

theorem value_inj {v u : Value} {w w' : World} (h : (Result.ok (Next.value v) w : Result Next) = .ok (.value u) w') : v = u := by
  simp only [Result.ok.injEq, Next.value.injEq] at h
  exact h.1
theorem push_inj {o o' : Obj} {w : World} {v v' : Value} (h : (Result.ok (Next.value v) (World.push w o) : Result Next) = .ok (.value v') (World.push w o')) : o = o' := by
  simp only [Result.ok.injEq, World.push, World.mk.injEq] at h
  have h1 : (w.heap.push o)[w.heap.size]? = (w.heap.push o')[w.heap.size]? := by rw [h.2.1]
  simpa using h1

/-- A wanted pair changes places. -/
theorem swapDone {oi oj : Oper} (hap : oi.apart ops oj = true) (hk : kinds m.g oi.op oj.op = true) (hsi : ∀ cs b, oi.op ≠ .select cs b) (hsj : ∀ cs b, oj.op ≠ .select cs b)
    (hQ : Calm Q) {K : Kont} {U : Nat → Prop} {a : Act} {w : World} (hL : Laid m U w)
    (h : Done P m Q oi (Done P m Q oj K) U a w) : Done P m Q oj (Done P m Q oi K) U a w := by
  obtain ⟨h1, h2, h3⟩ := Oper.apart_spec hap
  have exj : ∀ (a : Act) v, execOp (a.put oi.dst v).eval oj = execOp a.eval oj := fun a v => execOp_put oj hsj a oi.dst v h1
  have exi : ∀ (a : Act) v, execOp (a.put oj.dst v).eval oi = execOp a.eval oi := fun a v => execOp_put oi hsi a oj.dst v h3
  have cm : ∀ (a : Act) v u, (a.put oi.dst v).put oj.dst u = (a.put oj.dst u).put oi.dst v := fun a v u => Act.put_comm a v u h2
  by_cases pi : pureK oi.op = true
  · rw [Done.pureCase pi] at h
    obtain ⟨v, hv, h⟩ := h
    have back : ∀ U' (u : Value) w', K U' ((a.put oi.dst v).put oj.dst u) w' → Done P m Q oi K U' (a.put oj.dst u) w' := fun U' u w' hk => by
      rw [Done.pureCase pi]
      exact ⟨v, fun w'' => by rw [exi]; exact hv w'', by rw [← cm]; exact hk⟩
    by_cases pj : pureK oj.op = true
    · rw [Done.pureCase pj] at h ⊢
      obtain ⟨u, hu, hk⟩ := h
      rw [exj] at hu
      exact ⟨u, hu, back _ u w hk⟩
    by_cases sj : softK m.g oj.op = true
    · rw [Done.softCase pj sj] at h ⊢
      obtain ⟨u, hu, hk⟩ := h
      rw [exj] at hu
      exact ⟨u, hu, fun w' hw => back _ u w' (hk w' hw)⟩
    by_cases aj : (m.g && allocK oj.op) = true
    · rw [Done.allocCase pj sj aj] at h ⊢
      obtain ⟨ob, hu, hk⟩ := h
      rw [exj] at hu
      exact ⟨ob, hu, fun w' n a1 a2 a3 a4 => back _ _ w' (hk w' n a1 a2 a3 a4)⟩
    · rw [Done.effCase pj sj aj] at h ⊢
      refine wp_put (x := oi.dst) (v := v) hQ (exj a v) rfl h ?_
      rintro a' u w' ha ⟨hg, hk⟩
      refine ⟨hg, ?_⟩
      rw [Done.pureCase pi]
      exact ⟨v, fun w'' => by rw [exi, eval_tmps ha]; exact hv w'', by rw [← cm]; exact hk⟩
  by_cases pj : pureK oj.op = true
  · have fin : ∀ u, (∀ w', (execOp a.eval oj).run P w' = .ok (.value u) w') → ∀ U' (v : Value) w', Done P m Q oj K U' (a.put oi.dst v) w' → K U' ((a.put oj.dst u).put oi.dst v) w' := fun u hu U' v w' hd => by
      rw [Done.pureCase pj] at hd
      obtain ⟨u', hu', hk⟩ := hd
      rw [exj] at hu'
      have : u' = u := value_inj ((hu' w).symm.trans (hu w))
      subst this
      rw [← cm]; exact hk
    rw [Done.pureCase pj]
    by_cases si : softK m.g oi.op = true
    · rw [Done.softCase pi si] at h
      obtain ⟨v, hv, h⟩ := h
      have h0 := h w (Grow.refl w)
      rw [Done.pureCase pj] at h0
      obtain ⟨u, hu, _⟩ := h0
      rw [exj] at hu
      refine ⟨u, hu, ?_⟩
      rw [Done.softCase pi si]
      exact ⟨v, fun w' hw => by rw [exi]; exact hv w' hw, fun w' hw => fin u hu _ v w' (h w' hw)⟩
    by_cases ai : (m.g && allocK oi.op) = true
    · rw [Done.allocCase pi si ai] at h
      obtain ⟨ob, hv, h⟩ := h
      have hn : (World.push w ob).heap[w.heap.size]? = some ob := by simp [World.push]
      have h0 := h _ _ (Grow.push w ob) hL.1 (fun h => Nat.lt_irrefl _ (hL.2 _ h)) hn
      rw [Done.pureCase pj] at h0
      obtain ⟨u, hu, _⟩ := h0
      rw [exj] at hu
      refine ⟨u, hu, ?_⟩
      rw [Done.allocCase pi si ai]
      exact ⟨ob, fun w' => by rw [exi]; exact hv w', fun w' n a1 a2 a3 a4 => fin u hu _ _ w' (h w' n a1 a2 a3 a4)⟩
    · rw [Done.effCase pi si ai] at h
      have hex : ∃ u, ∀ w', (execOp a.eval oj).run P w' = .ok (.value u) w' := by
        refine wp_some hQ h fun a' v w' ha hn => ?_
        have hd := hn.2
        rw [Done.pureCase pj] at hd
        obtain ⟨u, hu, _⟩ := hd
        rw [exj, eval_tmps ha] at hu
        exact ⟨u, hu⟩
      obtain ⟨u, hu⟩ := hex
      refine ⟨u, hu, ?_⟩
      rw [Done.effCase pi si ai]
      refine wp_unput (x := oj.dst) (v := u) hQ (exi a u) rfl h ?_
      rintro a' v w' ha ⟨hg, hd⟩
      refine ⟨hg, ?_⟩
      rw [Done.pureCase pj] at hd
      obtain ⟨u', hu', hk⟩ := hd
      rw [exj, eval_tmps ha] at hu'
      have : u' = u := value_inj ((hu' w).symm.trans (hu w))
      subst this
      rw [← cm]; exact hk
  by_cases si : softK m.g oi.op = true
  · rw [Done.softCase pi si] at h
    obtain ⟨v, hv, h⟩ := h
    by_cases sj : softK m.g oj.op = true
    · rw [Done.softCase pj sj]
      have h0 := h w (Grow.refl w)
      rw [Done.softCase pj sj] at h0
      obtain ⟨u, hu, hk⟩ := h0
      refine ⟨u, fun w' hw => by have := hu w' hw; rwa [exj] at this, fun w' hw => ?_⟩
      rw [Done.softCase pi si]
      exact ⟨v, fun w'' hw' => by rw [exi]; exact hv w'' (hw.trans hw'), fun w'' hw' => by rw [← cm]; exact hk w'' (hw.trans hw')⟩
    by_cases aj : (m.g && allocK oj.op) = true
    · rw [Done.allocCase pj sj aj]
      have h0 := h w (Grow.refl w)
      rw [Done.allocCase pj sj aj] at h0
      obtain ⟨ob, hu, hk⟩ := h0
      refine ⟨ob, fun w' => by have := hu w'; rwa [exj] at this, fun w' n a1 a2 a3 a4 => ?_⟩
      rw [Done.softCase pi si]
      refine ⟨v, fun w'' hw' => by rw [exi]; exact hv w'' (a1.trans hw'), fun w'' hw' => ?_⟩
      rw [← cm]
      refine hk w'' n (a1.trans hw') a2 a3 ?_
      rw [hw'.same n (Array.getElem?_eq_some_iff.1 a4).1]
      exact a4
    · exfalso
      simp only [kinds, Bool.or_eq_true, Bool.and_eq_true] at hk
      simp only [Bool.and_eq_true] at aj
      rcases hk with (((hk | hk) | hk) | hk) | hk
      · exact pi hk
      · exact pj hk
      · exact sj hk.2
      · exact aj hk.2
      · exact aj hk.2
  by_cases ai : (m.g && allocK oi.op) = true
  · by_cases aj : (m.g && allocK oj.op) = true
    · have sj : ¬ softK m.g oj.op = true := by
        intro hs
        unfold softK at hs
        cases hop : oj.op <;> simp [hop, allocK, readK, callK, pCall] at aj hs
      rw [Done.allocCase pi si ai] at h
      obtain ⟨ob1, hv, h⟩ := h
      have hn : (World.push w ob1).heap[w.heap.size]? = some ob1 := by simp [World.push]
      have h0 := h _ _ (Grow.push w ob1) hL.1 (fun h => Nat.lt_irrefl _ (hL.2 _ h)) hn
      rw [Done.allocCase pj sj aj] at h0 ⊢
      obtain ⟨ob2, hu, _⟩ := h0
      rw [exj] at hu
      refine ⟨ob2, hu, fun w1 n2 b1 b2 b3 b4 => ?_⟩
      rw [Done.allocCase pi si ai]
      refine ⟨ob1, fun w' => by rw [exi]; exact hv w', fun w2 n1 c1 c2 c3 c4 => ?_⟩
      have hne : n1 ≠ n2 := fun e => c3 (.inl e)
      have h3 := h w2 n1 (b1.trans c1) c2 (fun hU => c3 (.inr hU)) c4
      rw [Done.allocCase pj sj aj] at h3
      obtain ⟨ob2', hu', hk'⟩ := h3
      rw [exj] at hu'
      have : ob2' = ob2 := push_inj ((hu' w).symm.trans (hu w))
      subst this
      have h4 := hk' w2 n2 (Grow.refl w2) b2 (fun hU => by rcases hU with hU | hU; exact hne hU.symm; exact b3 hU)
        (by rw [c1.same n2 (Array.getElem?_eq_some_iff.1 b4).1]; exact b4)
      rw [more_comm, ← cm]
      exact h4
    · exfalso
      simp only [kinds, Bool.or_eq_true, Bool.and_eq_true] at hk
      simp only [Bool.and_eq_true] at aj
      rcases hk with (((hk | hk) | hk) | hk) | hk
      · exact pi hk
      · exact pj hk
      · exact si hk.1
      · exact si hk.1
      · exact aj hk.2
  · exfalso
    simp only [kinds, Bool.or_eq_true, Bool.and_eq_true] at hk
    simp only [Bool.and_eq_true] at ai
    rcases hk with (((hk | hk) | hk) | hk) | hk
    · exact pi hk
    · exact pj hk
    · exact si hk.1
    · exact si hk.1
    · exact ai hk.1

/-- An operation sees the same behind the other's value. -/
theorem done_same {o : Oper} {K K' : Kont} {U : Nat → Prop} {a b : Act} {w : World} {x : Option Tmp} {v : Value} (hQ : Calm Q) (hb : b = a.put x v)
    (he : execOp b.eval o = execOp a.eval o) (h : Done P m Q o K U a w)
    (hK : ∀ (a' : Act) u U w, a'.tmps = a.tmps → K U (a'.put o.dst u) w → K' U ((a'.put x v).put o.dst u) w) : Done P m Q o K' U b w := by
  unfold Done at *
  rw [he]
  split
  · rename_i h1; rw [if_pos h1] at h; obtain ⟨u, hu, hk⟩ := h; exact ⟨u, hu, by rw [hb]; exact hK a u _ _ rfl hk⟩
  · rename_i h1; rw [if_neg h1] at h
    split
    · rename_i h2; rw [if_pos h2] at h; obtain ⟨u, hu, hk⟩ := h; exact ⟨u, hu, fun w' hw => by rw [hb]; exact hK a u _ _ rfl (hk w' hw)⟩
    · rename_i h2; rw [if_neg h2] at h
      split
      · rename_i h3; rw [if_pos h3] at h; obtain ⟨ob, hu, hk⟩ := h; exact ⟨ob, hu, fun w' n a1 a2 a3 a4 => by rw [hb]; exact hK a _ _ _ rfl (hk w' n a1 a2 a3 a4)⟩
      · rename_i h3; rw [if_neg h3] at h
        exact wp_unput hQ he hb h fun a' u w' ha hd => ⟨hd.1, hK a' u _ _ ha hd.2⟩

theorem done_unput {o : Oper} {K K' : Kont} {U : Nat → Prop} {a b : Act} {w : World} {x : Option Tmp} {v : Value} (hQ : Calm Q) (hb : b = a.put x v)
    (he : execOp b.eval o = execOp a.eval o) (h : Done P m Q o K U b w)
    (hK : ∀ (a' : Act) u U w, a'.tmps = a.tmps → K U ((a'.put x v).put o.dst u) w → K' U (a'.put o.dst u) w) : Done P m Q o K' U a w := by
  unfold Done at *
  rw [he] at h
  split
  · rename_i h1; rw [if_pos h1] at h; obtain ⟨u, hu, hk⟩ := h; exact ⟨u, hu, by rw [hb] at hk; exact hK a u _ _ rfl hk⟩
  · rename_i h1; rw [if_neg h1] at h
    split
    · rename_i h2; rw [if_pos h2] at h; obtain ⟨u, hu, hk⟩ := h; exact ⟨u, hu, fun w' hw => by have := hk w' hw; rw [hb] at this; exact hK a u _ _ rfl this⟩
    · rename_i h2; rw [if_neg h2] at h
      split
      · rename_i h3; rw [if_pos h3] at h; obtain ⟨ob, hu, hk⟩ := h; exact ⟨ob, hu, fun w' n a1 a2 a3 a4 => by have := hk w' n a1 a2 a3 a4; rw [hb] at this; exact hK a _ _ _ rfl this⟩
      · rename_i h3; rw [if_neg h3] at h
        exact wp_put hQ he hb h fun a' u w' ha hd => ⟨hd.1, hK a' u _ _ ha hd.2⟩

/-- What a wanted operation leaves, whatever it is. -/
theorem done_some {o : Oper} {K : Kont} {U : Nat → Prop} {a : Act} {w : World} {X : Prop} (hQ : Calm Q) (hL : Laid m U w) (h : Done P m Q o K U a w)
    (hX : ∀ (a' : Act) u U w', a'.tmps = a.tmps → K U (a'.put o.dst u) w' → X) : X := by
  obtain hwp := h.toWp hL
  exact wp_some hQ hwp fun a' u w' ha ⟨U', _, hk⟩ => hX a' u U' w' ha hk

theorem swap {oi oj : Oper} (hc : comm m.g ops oi oj = true) (hQ : Calm Q) {K : Kont} {U : Nat → Prop} {a : Act} {w : World} (hL : Laid m U w)
    (h : OpOk P m ops Q oi (OpOk P m ops Q oj K) U a w) : OpOk P m ops Q oj (OpOk P m ops Q oi K) U a w := by
  simp only [comm, Bool.and_eq_true] at hc
  obtain ⟨⟨⟨hap, hk⟩, hni⟩, hnj⟩ := hc
  have hsi := noSel_spec hni
  have hsj := noSel_spec hnj
  obtain ⟨h1, h2, h3⟩ := Oper.apart_spec hap
  have wj : ∀ (a : Act) v, Region.wanted oj (yielded ops (a.put oi.dst v).tmps) = Region.wanted oj (yielded ops a.tmps) := fun a v => wanted_put oj a oi.dst v h1
  have wi : ∀ (a : Act) v, Region.wanted oi (yielded ops (a.put oj.dst v).tmps) = Region.wanted oi (yielded ops a.tmps) := fun a v => wanted_put oi a oj.dst v h3
  have exj : ∀ (a : Act) v, execOp (a.put oi.dst v).eval oj = execOp a.eval oj := fun a v => execOp_put oj hsj a oi.dst v h1
  have exi : ∀ (a : Act) v, execOp (a.put oj.dst v).eval oi = execOp a.eval oi := fun a v => execOp_put oi hsi a oj.dst v h3
  have cm : ∀ (a : Act) v u, (a.put oi.dst v).put oj.dst u = (a.put oj.dst u).put oi.dst v := fun a v u => Act.put_comm a v u h2
  have tm : ∀ {a' a : Act} (x : Option Tmp) (v : Value), a'.tmps = a.tmps → (a'.put x v).tmps = (a.put x v).tmps := fun {a' a} x v h => by
    cases x <;> simp [Act.put, h]
  have wt : ∀ {a' a : Act} (o : Oper), a'.tmps = a.tmps → Region.wanted o (yielded ops a'.tmps) = Region.wanted o (yielded ops a.tmps) := fun o h => by rw [h]
  by_cases hwi : Region.wanted oi (yielded ops a.tmps) = true
  · by_cases hwj : Region.wanted oj (yielded ops a.tmps) = true
    · have h' : Done P m Q oi (Done P m Q oj K) U a w := by
        unfold OpOk at h
        rw [if_pos hwi] at h
        refine done_same (x := none) (v := undef) hQ rfl rfl h fun a' u U w ha hh => ?_
        rw [if_pos (by rw [wj, wt oj ha]; exact hwj)] at hh
        exact hh
      have h2 := swapDone hap hk hsi hsj hQ hL h'
      unfold OpOk
      rw [if_pos hwj]
      refine done_same (x := none) (v := undef) hQ rfl rfl h2 fun a' u U w ha hh => ?_
      show (if Region.wanted oi (yielded ops (a'.put oj.dst u).tmps) = true then Done P m Q oi K U (a'.put oj.dst u) w else K U ((a'.put oj.dst u).put oi.dst undef) w)
      rw [if_pos (by rw [wi, wt oi ha]; exact hwi)]
      exact hh
    · unfold OpOk at h ⊢
      rw [if_pos hwi] at h
      rw [if_neg hwj, if_pos (by rw [wi]; exact hwi)]
      refine done_same (x := oj.dst) (v := undef) hQ rfl (exi a undef) h fun a' u U w ha hh => ?_
      rw [if_neg (by rw [wj, wt oj ha]; exact hwj)] at hh
      rw [← cm]; exact hh
  · by_cases hwj : Region.wanted oj (yielded ops a.tmps) = true
    · unfold OpOk at h ⊢
      rw [if_neg hwi, if_pos (by rw [wj]; exact hwj)] at h
      rw [if_pos hwj]
      refine done_unput (x := oi.dst) (v := undef) hQ rfl (exj a undef) h fun a' u U w ha hh => ?_
      rw [if_neg (by rw [wi, wt oi ha]; exact hwi), ← cm]
      exact hh
    · unfold OpOk at h ⊢
      rw [if_neg hwi, if_neg (by rw [wj]; exact hwj)] at h
      rw [if_neg hwj, if_neg (by rw [wi]; exact hwi), ← cm]
      exact h

/-! ### Every order that the edges allow -/

def comms (g : Bool) (ops : Array Oper) (i j : Nat) : Bool :=
  match ops[i]?, ops[j]? with
  | some x, some y => comm g ops x y
  | _, _ => false

/-- j comes behind i by the edges, straight or by way of others. -/
inductive Dep (ops : Array Oper) : Nat → Nat → Prop
  | one {j : Nat} {o : Oper} {e : Edge} (ho : ops[j]? = some o) (he : e ∈ o.after) (hb : Region.binds .any e = true) : Dep ops j e.on
  | step {j i : Nat} {o : Oper} {e : Edge} (ho : ops[j]? = some o) (he : e ∈ o.after) (hb : Region.binds .any e = true) (h : Dep ops e.on i) : Dep ops j i

def maskOf (ms : List Nat) (o : Oper) : Nat :=
  o.after.toList.foldl (fun acc e => bif Region.binds .any e then acc ||| 2 ^ e.on ||| ms.getD e.on 0 else acc) 0
def masks : List Oper → List Nat → List Nat
  | [], acc => acc
  | o :: rest, acc => masks rest (acc ++ [maskOf acc o])

theorem testBit_pow {k i : Nat} (h : (2 ^ k).testBit i = true) : k = i := by
  rw [Nat.testBit_two_pow] at h
  exact of_decide_eq_true h

theorem foldl_mask {ops : Array Oper} {ms : List Nat} {j i : Nat} {o : Oper} (ho : ops[j]? = some o) (hms : ∀ m, (ms.getD m 0).testBit i = true → Dep ops m i) :
    ∀ (l : List Edge) (acc : Nat), (∀ e ∈ l, e ∈ o.after) → (acc.testBit i = true → Dep ops j i) →
    (l.foldl (fun acc e => bif Region.binds .any e then acc ||| 2 ^ e.on ||| ms.getD e.on 0 else acc) acc).testBit i = true → Dep ops j i
  | [], _, _, ha, h => ha h
  | e :: l, acc, hl, ha, h => by
    rw [List.foldl_cons] at h
    refine foldl_mask ho hms l _ (fun e he => hl e (by simp [he])) (fun h => ?_) h
    cases hb : Region.binds .any e with
    | false => rw [hb] at h; exact ha h
    | true =>
      rw [hb, cond_true, Nat.testBit_or, Nat.testBit_or, Bool.or_eq_true, Bool.or_eq_true] at h
      rcases h with (h | h) | h
      · exact ha h
      · have := testBit_pow h
        rw [← this]
        exact .one ho (hl e (by simp)) hb
      · exact .step ho (hl e (by simp)) hb (hms _ h)

theorem masks_dep {ops : Array Oper} {i : Nat} : ∀ (l : List Oper) (acc : List Nat), (∀ j, l[j]? = ops[acc.length + j]?) →
    (∀ m, (acc.getD m 0).testBit i = true → Dep ops m i) → ∀ m, ((masks l acc).getD m 0).testBit i = true → Dep ops m i
  | [], _, _, ha => ha
  | o :: l, acc, hl, ha => by
    have h0 : ops[acc.length]? = some o := by simpa using (hl 0).symm
    refine masks_dep l (acc ++ [maskOf acc o]) (fun j => ?_) (fun m hm => ?_)
    · have := hl (j + 1)
      simp only [List.getElem?_cons_succ] at this
      rw [this, List.length_append]
      congr 1
      simp only [List.length_cons, List.length_nil]
      omega
    · rcases Nat.lt_trichotomy m acc.length with h | h | h
      · refine ha m ?_
        simpa [List.getD_eq_getElem?_getD, List.getElem?_append_left h] using hm
      · subst h
        simp only [List.getD_eq_getElem?_getD, List.getElem?_concat_length, Option.getD_some] at hm
        refine foldl_mask h0 ha o.after.toList 0 (fun e he => Array.mem_toList_iff.1 he) (fun h => ?_) hm
        simp at h
      · have : (acc ++ [maskOf acc o])[m]? = none := List.getElem?_eq_none (by simp; omega)
        simp [List.getD_eq_getElem?_getD, this] at hm

/-- Each edge points back; two operations of which neither waits for the other may change places. -/
def okDraw (g : Bool) (ops : Array Oper) : Bool :=
  let ms := masks ops.toList []
  (List.range ops.size).all fun j =>
    (match ops[j]? with | some o => o.after.all fun e => !Region.binds .any e || decide (e.on < j) | none => false) &&
    (List.range j).all fun i => (ms.getD j 0).testBit i || comms g ops i j

theorem okDraw_spec {g : Bool} {ops : Array Oper} (hB : okDraw g ops = true) (j : Nat) (hj : j < ops.size) :
    (match ops[j]? with | some o => o.after.all fun e => !Region.binds .any e || decide (e.on < j) | none => false) = true ∧
        ∀ i, i < j → Dep ops j i ∨ comms g ops i j = true := by
  have := List.all_eq_true.1 hB j (List.mem_range.2 hj)
  rw [Bool.and_eq_true] at this
  refine ⟨this.1, fun i hi => ?_⟩
  have h2 := List.all_eq_true.1 this.2 i (List.mem_range.2 hi)
  rw [Bool.or_eq_true] at h2
  rcases h2 with h2 | h2
  · exact .inl (masks_dep ops.toList [] (by simp) (fun m hm => by simp at hm) j h2)
  · exact .inr h2


theorem front (hQ : Calm Q) (j : Nat) (l2 : List Nat) : ∀ (l1 : List Nat) (U : Nat → Prop) (a : Act) (w : World), Laid m U w → (∀ i ∈ l1, comms m.g ops i j = true) →
    wpI P m ops Q (l1 ++ j :: l2) U a w → wpI P m ops Q (j :: (l1 ++ l2)) U a w
  | [], _, _, _, _, _, h => h
  | i :: l1, U, a, w, hL, hc, h => by
    obtain ⟨oi, hoi, h⟩ := h
    have h1 : OpOk P m ops Q oi (wpI P m ops Q (j :: (l1 ++ l2))) U a w := h.mono hL fun U a w hL h => front hQ j l2 l1 U a w hL (fun i hi => hc i (by simp [hi])) h
    have hcij := hc i (by simp)
    unfold comms at hcij
    rw [hoi] at hcij
    cases hoj : ops[j]? with
    | none => simp [hoj] at hcij
    | some oj =>
      simp only [hoj] at hcij
      have h2 : OpOk P m ops Q oi (OpOk P m ops Q oj (wpI P m ops Q (l1 ++ l2))) U a w := h1.mono hL fun U a w _ h => by
        obtain ⟨oj', hoj', h⟩ := h
        rw [hoj] at hoj'
        cases hoj'
        exact h
      refine ⟨oj, hoj, (swap hcij hQ hL h2).mono hL fun U a w _ h => ⟨oi, hoi, h⟩⟩

theorem dep_listed {listed : Array Bool} (hcl : ∀ j o, ops[j]? = some o → listed.getD j false = true → ∀ e ∈ o.after, Region.binds .any e = true → listed.getD e.on false = true) {j i : Nat}
    (h : Dep ops j i) (hj : listed.getD j false = true) : listed.getD i false = true := by
  induction h with
  | one ho he hb => exact hcl _ _ ho hj _ he hb
  | step ho he hb _ ih => exact ih (hcl _ _ ho hj _ he hb)

theorem wpAny_of_wpI (hQ : Calm Q) (hB : okDraw m.g ops = true) : ∀ (n : Nat) (l : List Nat) (listed : Array Bool) (U : Nat → Prop) (a : Act) (w : World), Laid m U w → l.length = n →
    l.Pairwise (· < ·) → listed.size = ops.size → (∀ i, i ∈ l ↔ listed.getD i true = false) →
    (∀ j o, ops[j]? = some o → listed.getD j false = true → ∀ e ∈ o.after, Region.binds .any e = true → listed.getD e.on false = true) →
    wpI P m ops Q l U a w → wpAny P .any ops Q n listed a w := by
  intro n
  induction n with
  | zero =>
    intro l listed U a w _ hl _ hsz hmem _ h
    have : l = [] := List.length_eq_zero_iff.1 hl
    subst this
    refine ⟨?_, h⟩
    cases hr : Region.ready .any ops listed with
    | nil => rfl
    | cons x xs =>
      have hx : x ∈ Region.ready .any ops listed := by rw [hr]; simp
      have := (hmem x).2 (mem_ready.1 hx).1
      simp at this
  | succ n ih =>
    intro l listed U a w hL hl hp hsz hmem hcl h
    have hB' := okDraw_spec hB
    have hlt : ∀ i ∈ l, i < ops.size := fun i hi => by
      have h1 := (hmem i).1 hi
      rcases Nat.lt_or_ge i listed.size with h' | h'
      · omega
      · simp [Array.getElem?_eq_none h'] at h1
    refine ⟨fun hr => ?_, fun j hj => ?_⟩
    · cases l with
      | nil => simp at hl
      | cons x xs =>
        have hx : x < ops.size := hlt x (by simp)
        have hxr : x ∈ Region.ready .any ops listed := by
          rw [mem_ready]
          refine ⟨(hmem x).1 (by simp), ops[x], by simp [hx], fun e he hb => ?_⟩
          have h1 := (hB' x hx).1
          simp only [Array.getElem?_eq_getElem hx] at h1
          have h2 := Array.all_eq_true_iff_forall_mem.1 h1 e he
          simp only [hb, Bool.not_true, Bool.false_or, decide_eq_true_eq] at h2
          have h3 : e.on ∉ x :: xs := by
            intro hm
            rcases List.mem_cons.1 hm with h4 | h4
            · omega
            · have := (List.pairwise_cons.1 hp).1 _ h4
              omega
          have h4 : ¬ listed.getD e.on true = false := fun h => h3 ((hmem _).2 h)
          have h5 : e.on < listed.size := by omega
          simp [h5] at h4 ⊢
          exact h4
        rw [hr] at hxr
        cases hxr
    · have hjr := mem_ready.1 hj
      have hjl : j ∈ l := (hmem j).2 hjr.1
      obtain ⟨l1, l2, rfl⟩ := List.append_of_mem hjl
      have hjs := hlt j hjl
      rw [List.pairwise_append] at hp
      obtain ⟨hp1, hp2, hp12⟩ := hp
      rw [List.pairwise_cons] at hp2
      have hcs : ∀ i ∈ l1, comms m.g ops i j = true := fun i hi => by
        have hij : i < j := hp12 i hi j (by simp)
        rcases (hB' j hjs).2 i hij with hw | hc
        · exfalso
          obtain ⟨_, oj, hoj, hall⟩ := hjr
          have h2 := (hmem i).1 (by simp [hi])
          have h3 : i < listed.size := by have := hlt i (by simp [hi]); omega
          have h4 : listed.getD i false = true := by
            cases hw with
            | one ho he hb => rw [hoj] at ho; cases ho; exact hall _ he hb
            | step ho he hb hd =>
              rw [hoj] at ho; cases ho
              exact dep_listed hcl hd (hall _ he hb)
          simp [h3] at h4 h2
          rw [h2] at h4
          cases h4
        · exact hc
      obtain ⟨oj, hoj, hh⟩ := front hQ j l2 l1 U a w hL hcs h
      refine wpOp_mono (fun a' w' ⟨U', hL', h'⟩ => ih (l1 ++ l2) _ U' a' w' hL' ?_ ?_ ?_ ?_ ?_ h') (hh.wpOp hoj hL)
      · simp at hl ⊢; omega
      · rw [List.pairwise_append]
        exact ⟨hp1, hp2.2, fun x hx y hy => hp12 x hx y (by simp [hy])⟩
      · simpa using hsz
      · intro i
        have h0 := hmem i
        by_cases hij : j = i
        · subst hij
          have hjs' : j < listed.size := by omega
          constructor
          · intro hm
            exfalso
            rcases List.mem_append.1 hm with hm | hm
            · exact absurd (hp12 j hm j (by simp)) (by omega)
            · exact absurd (hp2.1 j hm) (by omega)
          · intro hm
            simp [hjs'] at hm
        · rw [getD_set_ne true hij, ← h0]
          simp [Ne.symm hij]
      · intro k o ho hk e he hb
        by_cases hjk : j = k
        · subst hjk
          obtain ⟨_, oj', hoj', hall⟩ := hjr
          rw [hoj'] at ho; cases ho
          exact getD_set_true (hall e he hb)
        · rw [getD_set_ne false hjk] at hk
          exact getD_set_true (hcl k o ho hk e he hb)

/-- A region that draws its order. -/
theorem wp_region_draws {id : Nat} {a : Act} {w : World} (hm : P.follows .mixedOrders = true) (hQ : Calm Q) (hB : okDraw m.g ops = true) (hs : m.s0 ≤ w.heap.size)
    (h : wpL P m ops Q ops.toList (fun _ => False) a { w with drawn := w.drawn + 1 }) : (Code.region id ops true).wp P Q a w := by
  have hL : Laid m (fun _ => False) ({ w with drawn := w.drawn + 1 } : World) := ⟨hs, fun _ h => h.elim⟩
  refine wp_region_any hm (wpAny_of_wpI hQ hB ops.size (List.range ops.size) _ (fun _ => False) a _ hL (by simp) List.pairwise_lt_range (by simp) (fun i => ?_) (fun j o ho hl => ?_) ?_)
  · rw [List.mem_range]
    rcases Nat.lt_or_ge i ops.size with h' | h'
    · simp [h']
    · simp [h']
  · exfalso
    rcases Nat.lt_or_ge j ops.size with h' | h'
    · simp [h'] at hl
    · simp [h'] at hl
  · have := wpI_of_wpL ops.toList 0 _ a _ hL (by simp) h
    simpa [List.range_eq_range'] using this
end
end Go.Sx
