import Derived.Test.YtolmolkcjoibiaaDoorSn
/- Aids to the claim: what is shown here is said at each theorem. -/
namespace Go.Sx
open Go
set_option maxRecDepth 100000
/-! ### A piece that ends at a branch -/
abbrev CL := BE × List IE
def CL.vals (l : CL) (e : Env) : Nat → Int := fun j => (l.2.getD j (.c 0)).den e
def kC (c : Operand) (pp : Pat) : Xt → St → Option (Tree CL) := fun x st => match x with
  | .normal => match evO st.tm c with
    | some (.one (.at (.bool b))) => match matchSt pp st with
      | some l => some (.leaf (b, l))
      | none => none
    | _ => none
  | _ => none
theorem piece_cond {P : Program} {qf pf : QSum} (hm : P.follows .mixedOrders = true) (hnum : NumOk P) (hq : QOk P qf) (hp : POk P pf) {n : Nat} {cs : List Code} {c : Operand} {x y : Code} {p pp : Pat} {t : Tree CL} (hsx : sxs P qf pf n cs p.st (kC c pp) = some t)
    (hs : p.self) (hbd : t.bd p.ni 0 0 = true) {w0 : World} {x0 : Nat → Addr} {vals : Nat → Int} {a : Act} {w : World} (hat : At w0 x0 p vals a w) {Φ : Bool → (Nat → Int) → Prop}
    (law : ∀ e, AgreeE p.ni 0 0 (envOf vals x0) e → t.goal e fun l => Φ (l.1.den e) (CL.vals l e)) {R : Act → World → Prop} {Q : Exit → Act → World → Prop} (hc : Calm Q)
    (hF : ∀ b vals', Φ b vals' → Facts (envOf vals' x0) pp.facts) (hT : ∀ vals' a' w', Φ true vals' → At w0 x0 pp vals' a' w' → nest P (flat x) R Q a' w') (hE : ∀ vals' a' w', Φ false vals' → At w0 x0 pp vals' a' w' → nest P (flat y) R Q a' w') : nest P (cs ++ [.cond c x y]) R Q a w := by
  obtain ⟨β, hrel⟩ := hat.env hs
  obtain ⟨e', he, hmeet⟩ := t.meet (envOf vals x0) hbd
  have hh := hmeet _ (law e' he)
  rw [nest_append]
  refine sxs_sound hm hnum hq hp n cs hsx hh (hrel e' he) hc fun β' z st' tree' a' w' g1 g2 g3 g4 g5 g6 => ?_
  unfold kC at g4
  split at g4
  · split at g4
    · rename_i b hev
      split at g4
      · rename_i l hl
        cases g4
        obtain ⟨h1, _⟩ := evO_sound g6.fr hev
        have hcb : a'.eval c = .bool (b.den e') := by rw [h1]; rfl
        have g5 : Φ (b.den e') (CL.vals (b, l) e') := g5
        have hat' := at_of_match hl g6 he.ext (hF _ _ g5)
        show (Code.cond c x y).wp P (Exit.then R Q) a' w'
        refine wp_cond hcb ?_
        cases hb : b.den e' with
        | true =>
          rw [hb] at g5
          exact nest_flat x (hT _ a' w' g5 hat')
        | false =>
          rw [hb] at g5
          exact nest_flat y (hE _ a' w' g5 hat')
      · cases g4
    · cases g4
  · cases g4
/-! ### What is known of the numbers of a pattern -/
theorem At.tmpR {w0 : World} {x0 : Nat → Addr} {p : Pat} {vals : Nat → Int} {a : Act} {w : World} (h : At w0 x0 p vals a w) {t j : Nat} {k : IntKind} (hg : p.st.tm.get t = some (.one (.at (.int k (.v j))))) : inR k (vals j) := by
  obtain ⟨β, hr⟩ := h
  exact (hr.fr t _ hg).2
theorem At.blkR {w0 : World} {x0 : Nat → Addr} {p : Pat} {vals : Nat → Int} {a : Act} {w : World} (h : At w0 x0 p vals a w) {k j ty : Nat} (hg : p.st.h.blk.get k = some ⟨ws j, ty⟩) : Wd (vals j) ∧ Wd (vals (j + 1)) ∧ Wd (vals (j + 2)) ∧ Wd (vals (j + 3)) := by
  obtain ⟨β, hr⟩ := h
  obtain ⟨_, _, _, g⟩ := hr.hp.blk k _ hg
  exact ⟨inR_wd (g (.int .u64 (.v j)) (by simp [ws])), inR_wd (g (.int .u64 (.v (j + 1))) (by simp [ws])), inR_wd (g (.int .u64 (.v (j + 2))) (by simp [ws])), inR_wd (g (.int .u64 (.v (j + 3))) (by simp [ws]))⟩
theorem At.factR {w0 : World} {x0 : Nat → Addr} {p : Pat} {vals : Nat → Int} {a : Act} {w : World} (h : At w0 x0 p vals a w) : Facts (envOf vals x0) p.facts := by
  obtain ⟨β, hr⟩ := h
  exact hr.hp.facts
/-! ### The patterns -/
def hdT : List (Nat × IntKind) := [(10, .i64), (11, .i64), (12, .i64), (13, .i64), (14, .u64)]
def xo (d : Bool) (m : Nat) : Nat := m + (bif d then 24 else 20)
def bsP (ty : Nat) (m : Nat) : List (Nat × Blk) := [(0, ⟨ws m, ty⟩), (1, ⟨ws (m + 4), ty⟩), (2, ⟨ws (m + 8), ty⟩), (3, ⟨ws (m + 12), ty⟩), (4, ⟨ws (m + 16), ty⟩)]
def exP (d : Bool) (m : Nat) : List (List Atom) := bif d then [ws (m + 20), ws (m + 24)] else [ws (m + 20)]
def ivP (ty : Nat) (d : Bool) (l : List (Nat × IntKind)) (cs : List (Nat × SV)) : Pat :=
  { n := 239, tms := cs ++ ((l.zipIdx.map fun p => (p.1.1, SV.one (.at (.int p.1.2 (.v p.2))))) ++ [(0, pt 0), (1, pt (bif d then 1 else 0)), po 5 0, po 6 1, po 7 2, po 15 3, po 16 4]), bs := bsP ty l.length, cnt := 5, ni := xo d l.length + 4, ext := exP d l.length,
    facts := [(.low (.v (xo d l.length)) (.v (xo d l.length + 1)) (.v (xo d l.length + 2)) (.v (xo d l.length + 3)), true)] }
def W4.l (z : W4) : List IE := [z.a, z.b, z.c, z.d]
/-- The numbers that stay. -/
def rst (d : Bool) (m : Nat) (a b s : W4) : List IE :=
  [.v (m - 5), .v (m - 4), .v (m - 3), .v (m - 2), .v (m - 1)] ++ (a.l ++ (b.l ++ ((vW (m + 8)).l ++ ((vW (m + 12)).l ++ (s.l ++ (bif d then (vW (m + 20)).l ++ (vW (m + 24)).l else (vW (m + 20)).l))))))
/-- What the numbers are: the counter, both numbers, the one asked about. -/
structure Iv (d : Bool) (m : Nat) (i A B X : Nat) (v : Nat → Int) : Prop where
  hi : v (m - 1) = i
  hA : v4 (v m) (v (m + 1)) (v (m + 2)) (v (m + 3)) = A
  hB : v4 (v (m + 4)) (v (m + 5)) (v (m + 6)) (v (m + 7)) = B
  hX : v4 (v (xo d m)) (v (xo d m + 1)) (v (xo d m + 2)) (v (xo d m + 3)) = X
section
variable {d : Bool} {m i A B X : Nat} {e : Env}
theorem vals_app {x : Xt} {ts l : List IE} (k : Nat) : VL.vals (x, ts ++ l) e (ts.length + k) = (l.getD k (.c 0)).den e := by
  simp only [VL.vals, List.getD_eq_getElem?_getD]
  rw [List.getElem?_append_right (by omega), Nat.add_sub_cancel_left]
theorem xo_lt (d : Bool) (m k : Nat) (h : k < m + 20) : k < xo d m + 4 := by
  unfold xo
  cases d <;> simp only [cond_true, cond_false] <;> omega
theorem Iv.agree {v : Nat → Int} (h : Iv d m i A B X v) (he : ∀ k, k < xo d m + 4 → e.i k = v k) : Iv d m i A B X e.i where
  hi := by rw [he (m - 1) (xo_lt _ _ _ (by omega))]; exact h.hi
  hA := by rw [he m (xo_lt _ _ _ (by omega)), he (m + 1) (xo_lt _ _ _ (by omega)), he (m + 2) (xo_lt _ _ _ (by omega)), he (m + 3) (xo_lt _ _ _ (by omega))]; exact h.hA
  hB := by rw [he (m + 4) (xo_lt _ _ _ (by omega)), he (m + 5) (xo_lt _ _ _ (by omega)), he (m + 6) (xo_lt _ _ _ (by omega)), he (m + 7) (xo_lt _ _ _ (by omega))]; exact h.hB
  hX := by rw [he (xo d m) (by omega), he (xo d m + 1) (by omega), he (xo d m + 2) (by omega), he (xo d m + 3) (by omega)]; exact h.hX
theorem Iv.rst {m' i' A' B' : Nat} {ts : List IE} {a b s : W4} {x : Xt} (h : Iv d m i A B X e.i) (hm : m' = ts.length + 5) (hi : (IE.v (m - 1)).den e = i') (ha : a.val e = A') (hb : b.val e = B') : Iv d m' i' A' B' X (VL.vals (x, ts ++ Go.Sx.rst d m a b s) e) := by
  subst hm
  have key : ∀ k y, (Go.Sx.rst d m a b s).getD k (.c 0) = y → VL.vals (x, ts ++ Go.Sx.rst d m a b s) e (ts.length + k) = y.den e := fun k y hy => by rw [vals_app, hy]
  refine ⟨?_, ?_, ?_, ?_⟩
  · show VL.vals _ e (ts.length + 4) = _
    rw [key 4 (.v (m - 1)) rfl, hi]
  · show v4 (VL.vals _ e (ts.length + 5)) (VL.vals _ e (ts.length + 6)) (VL.vals _ e (ts.length + 7)) (VL.vals _ e (ts.length + 8)) = _
    rw [key 5 a.a rfl, key 6 a.b rfl, key 7 a.c rfl, key 8 a.d rfl]
    exact ha
  · show v4 (VL.vals _ e (ts.length + 9)) (VL.vals _ e (ts.length + 10)) (VL.vals _ e (ts.length + 11)) (VL.vals _ e (ts.length + 12)) = _
    rw [key 9 b.a rfl, key 10 b.b rfl, key 11 b.c rfl, key 12 b.d rfl]
    exact hb
  · cases d with
    | true =>
      show v4 (VL.vals _ e (ts.length + 29)) (VL.vals _ e (ts.length + 30)) (VL.vals _ e (ts.length + 31)) (VL.vals _ e (ts.length + 32)) = _
      rw [key 29 (.v (m + 24)) rfl, key 30 (.v (m + 24 + 1)) rfl, key 31 (.v (m + 24 + 2)) rfl, key 32 (.v (m + 24 + 3)) rfl]
      exact h.hX
    | false =>
      show v4 (VL.vals _ e (ts.length + 25)) (VL.vals _ e (ts.length + 26)) (VL.vals _ e (ts.length + 27)) (VL.vals _ e (ts.length + 28)) = _
      rw [key 25 (.v (m + 20)) rfl, key 26 (.v (m + 20 + 1)) rfl, key 27 (.v (m + 20 + 2)) rfl, key 28 (.v (m + 20 + 3)) rfl]
      exact h.hX
/-- The copy of the first number. -/
theorem rst_s {S : Nat} {ts : List IE} {a b s : W4} {x : Xt} (hs : s.val e = S) : v4 (VL.vals (x, ts ++ Go.Sx.rst d m a b s) e (ts.length + 21)) (VL.vals (x, ts ++ Go.Sx.rst d m a b s) e (ts.length + 22)) (VL.vals (x, ts ++ Go.Sx.rst d m a b s) e (ts.length + 23)) (VL.vals (x, ts ++ Go.Sx.rst d m a b s) e (ts.length + 24)) = S := by
  have key : ∀ k y, (Go.Sx.rst d m a b s).getD k (.c 0) = y → VL.vals (x, ts ++ Go.Sx.rst d m a b s) e (ts.length + k) = y.den e := fun k y hy => by rw [vals_app, hy]
  rw [key 21 s.a rfl, key 22 s.b rfl, key 23 s.c rfl, key 24 s.d rfl]
  exact hs
/-- Its fourth block. -/
theorem rst_v {V : Nat} {ts : List IE} {a b s : W4} {x : Xt} (hs : (vW (m + 12)).val e = V) : v4 (VL.vals (x, ts ++ Go.Sx.rst d m a b s) e (ts.length + 17)) (VL.vals (x, ts ++ Go.Sx.rst d m a b s) e (ts.length + 18)) (VL.vals (x, ts ++ Go.Sx.rst d m a b s) e (ts.length + 19)) (VL.vals (x, ts ++ Go.Sx.rst d m a b s) e (ts.length + 20)) = V := by
  have key : ∀ k y, (Go.Sx.rst d m a b s).getD k (.c 0) = y → VL.vals (x, ts ++ Go.Sx.rst d m a b s) e (ts.length + k) = y.den e := fun k y hy => by rw [vals_app, hy]
  rw [key 17 (.v (m + 12)) rfl, key 18 (.v (m + 12 + 1)) rfl, key 19 (.v (m + 12 + 2)) rfl, key 20 (.v (m + 12 + 3)) rfl]
  exact hs
theorem Iv.fact {v : Nat → Int} {x0 : Nat → Addr} {ty : Nat} {l : List (Nat × IntKind)} {cs : List (Nat × SV)} (h : Iv d l.length i A B X v) (hX : X < q) : Facts (envOf v x0) (ivP ty d l cs).facts := by
  intro f hf
  simp only [ivP, List.mem_cons, List.not_mem_nil, or_false] at hf
  subst hf
  refine decide_eq_true ?_
  show v4 (v (xo d l.length)) (v (xo d l.length + 1)) (v (xo d l.length + 2)) (v (xo d l.length + 3)) < _
  rw [h.hX]
  unfold q at hX
  omega
end
/-! ### The trees -/
def LF (d : Bool) (x : Xt) : Tree VL := .leaf (x, [] ++ rst d 5 (vW 5) (vW 9) (vW 21))
def niO (d : Bool) (m : Nat) : Nat := xo d m + 4
def tH (d : Bool) : Tree VL :=
  .dn (.i (niO d 5) (.bt .and .u64 (.v 4) (.c 1))) (.br (.eq (.v (niO d 5)) (.c 1)) (LF d .normal)
    (.dn (.i (niO d 5 + 1) (.bt .or .u64 (.v 8) (.v 7))) (.dn (.i (niO d 5 + 2) (.bt .or .u64 (.v (niO d 5 + 1)) (.v 6))) (.dn (.i (niO d 5 + 3) (.bt .or .u64 (.v (niO d 5 + 2)) (.v 5))) (.br (.eq (.v (niO d 5 + 3)) (.c 0)) (LF d (.exit 0)) (LF d .normal))))))
def bitT {L : Type} (ni j : Nat) (k : Nat → IE → Tree L) : Tree L :=
  .br (.eq (.v (j + 3)) (.c 0)) (.br (.eq (.v (j + 2)) (.c 0)) (.br (.eq (.v (j + 1)) (.c 0)) (.dn (.i ni (.fn 1 [.v j, .c 0, .c 0, .c 0])) (k (ni + 1) (.v ni)))
    (.dn (.i ni (.fn 1 [.v (j + 1), .c 0, .c 0, .c 0])) (.dn (.i (ni + 1) (.ar .add .i64 (.c 64) (.v ni))) (k (ni + 2) (.v (ni + 1))))))
    (.dn (.i ni (.fn 1 [.v (j + 2), .c 0, .c 0, .c 0])) (.dn (.i (ni + 1) (.ar .add .i64 (.c 128) (.v ni))) (k (ni + 2) (.v (ni + 1))))))
    (.dn (.i ni (.fn 1 [.v (j + 3), .c 0, .c 0, .c 0])) (.dn (.i (ni + 1) (.ar .add .i64 (.c 192) (.v ni))) (k (ni + 2) (.v (ni + 1)))))
def LFn (d : Bool) (x : IE) : Tree VL := .leaf (.normal, [x] ++ rst d 5 (vW 5) (vW 9) (vW 21))
def t11 (d : Bool) : Tree VL := bitT (niO d 5) 5 fun n x => bitT n 9 fun _ y => .br (.lt x y) (LFn d y) (LFn d x)
def apT {L : Type} (ni j n : Nat) (k : IE → Tree L) : Tree L :=
  .dn (.i ni (.bt .and .u64 (.c 2147483647) (.v j))) <| .dn (.i (ni + 1) (.bt .and .u64 (.v (j + apHw n)) (.c (apM1 n : Nat)))) <| .dn (.i (ni + 2) (.sh .shl .u64 (.v (ni + 1)) (64 - apAv n))) <|
  .dn (.i (ni + 3) (.bt .and .u64 (.c (apM2 n : Nat)) (.v (j + (apHw n - 1))))) <| .dn (.i (ni + 4) (.sh .shr .u64 (.v (ni + 3)) (apUs n))) <| .dn (.i (ni + 5) (.bt .or .u64 (.v ni) (.v (ni + 4)))) <| .dn (.i (ni + 6) (.bt .or .u64 (.v (ni + 5)) (.v (ni + 2)))) <| k (.v (ni + 6))
def LF2 (d : Bool) (x y : IE) : Tree VL := .leaf (.normal, [x, y] ++ rst d 6 (vW 6) (vW 10) (vW 22))
def t12 (d : Bool) (n : Nat) : Tree VL := bif Nat.ble n 64 then LF2 d (.v 6) (.v 10) else apT (niO d 6) 6 n fun x => apT (niO d 6 + 7) 10 n fun y => LF2 d x y
def t13 (d : Bool) : Tree VL := .leaf (.normal, [.v 0, .v 1, .c 1, .c 4294967296] ++ rst d 7 (vW 7) (vW 11) (vW 23))
def tIn (d : Bool) : Tree VL := inT (niO d 9) fun x y z t => .leaf (.normal, [x, y, z, t] ++ rst d 9 (vW 9) (vW 13) (vW 25))
def tInE (d : Bool) : Tree VL := .leaf (.exit 2, [.v 2, .v 3] ++ rst d 9 (vW 9) (vW 13) (vW 25))
def t5a (d : Bool) : Tree VL := decT (niO d 7) 0 fun f g => .leaf (.normal, [f, g, .v 1] ++ rst d 7 (vW 7) (vW 11) (vW 7))
def linT (ni jb js : Nat) (k : W4 → IE → Tree VL) : Tree VL := mulWT ni 0 (vW jb) (.v 1) fun n nb y yh => mulWT n nb (vW js) (.v 0) fun n nb x xh => addT n nb x xh y yh fun _ _ z h => k z h
def t5b (d : Bool) : Tree VL := linT (niO d 8) 12 24 fun z h => .leaf (.normal, [h, .v 0, .v 1, .v 2] ++ rst d 8 z (vW 12) (vW 24))
def t5c (d : Bool) : Tree VL := signT (niO d 9) 9 fun z h f g => .leaf (.normal, [h, f, g, .v 3] ++ rst d 9 z (vW 13) (vW 25))
def t5d (d : Bool) : Tree VL := shT (niO d 9) 9 fun z => .leaf (.normal, [.v 1, .v 2, .v 3] ++ rst d 9 z (vW 13) (vW 25))
def t6a (d : Bool) : Tree VL := decT (niO d 8) 2 fun f g => .leaf (.normal, [f, g, .v 0, .v 1] ++ rst d 8 (vW 8) (vW 12) (vW 24))
def t6b (d : Bool) : Tree VL := linT (niO d 9) 13 25 fun z h => .leaf (.normal, [h, .v 0, .v 1, .v 2, .v 3] ++ rst d 9 (vW 9) z (vW 25))
def t6c (d : Bool) : Tree VL := signT (niO d 10) 14 fun z h f g => .leaf (.normal, [h, f, g, .v 3, .v 4] ++ rst d 10 (vW 10) z (vW 26))
def t6d (d : Bool) : Tree VL := shT (niO d 10) 14 fun z => .leaf (.normal, [.v 1, .v 2, .v 3, .v 4] ++ rst d 10 (vW 10) z (vW 26))
end Go.Sx
namespace Go.Sx
open Go
set_option maxRecDepth 100000
section
variable {d : Bool} {i A B X : Nat} {e : Env}
abbrev W4d (e : Env) (j : Nat) : Prop := Wd (e.i j) ∧ Wd (e.i (j + 1)) ∧ Wd (e.i (j + 2)) ∧ Wd (e.i (j + 3))
theorem v4_zero {a b c d : Int} {n : Nat} (ha : Wd a) (hb : Wd b) (hc : Wd c) (hd : Wd d) (h : v4 a b c d = n) : n = 0 ↔ a = 0 ∧ b = 0 ∧ c = 0 ∧ d = 0 := by
  unfold v4 Wd at *
  omega
theorem LF_goal {x : Xt} (h : Iv d 5 i A B X e.i) : Iv d 5 i A B X (VL.vals (x, [] ++ rst d 5 (vW 5) (vW 9) (vW 21)) e) := h.rst (ts := []) rfl h.hi h.hA h.hB
theorem law_H {V : Nat} (h : Iv d 5 i A B X e.i) (w : W4d e 5) (wi : Wd (e.i 4)) (hV : v4 (e.i 17) (e.i 18) (e.i 19) (e.i 20) = V) :
    (tH d).goal e fun l => Iv d 5 i A B X (VL.vals l e) ∧ v4 (VL.vals l e 17) (VL.vals l e 18) (VL.vals l e 19) (VL.vals l e 20) = V ∧ ((l.1 = .exit 0 ∧ i % 2 = 0 ∧ A = 0) ∨ (l.1 = .normal ∧ ¬ (i % 2 = 0 ∧ A = 0))) := by
  have hv : ∀ x, v4 (VL.vals (x, [] ++ rst d 5 (vW 5) (vW 9) (vW 21)) e 17) (VL.vals (x, [] ++ rst d 5 (vW 5) (vW 9) (vW 21)) e 18) (VL.vals (x, [] ++ rst d 5 (vW 5) (vW 9) (vW 21)) e 19) (VL.vals (x, [] ++ rst d 5 (vW 5) (vW 9) (vW 21)) e 20) = V := fun x => rst_v (ts := []) hV
  intro d0
  have d0 : e.i (niO d 5) = btI .and .u64 (e.i 4) 1 := d0
  rw [and1 wi, show e.i 4 = i from h.hi] at d0
  have hz := v4_zero w.1 w.2.1 w.2.2.1 w.2.2.2 h.hA
  refine ⟨fun g => ⟨LF_goal h, hv _, .inr ⟨rfl, fun hh => ?_⟩⟩, fun g d1 d2 d3 => ?_⟩
  · have := (be_eq g).2 rfl
    omega
  · have g : ¬ e.i (niO d 5) = 1 := fun h => absurd ((be_eq g).1 h) (by decide)
    have ho := ors_zero w.1 w.2.1 w.2.2.1 w.2.2.2 (x := e.i (niO d 5 + 1)) (y := e.i (niO d 5 + 2)) (z := e.i (niO d 5 + 3)) d1 d2 d3
    rw [← hz] at ho
    refine ⟨fun g2 => ⟨LF_goal h, hv _, .inl ⟨rfl, by omega, ho.1 ((be_eq g2).2 rfl)⟩⟩, fun g2 => ⟨LF_goal h, hv _, .inr ⟨rfl, fun hh => ?_⟩⟩⟩
    exact absurd ((be_eq g2).1 (ho.2 hh.2)) (by decide)
/-- The length of four words. -/
theorem blen4 {a b c d : Int} {n : Nat} (ha : Wd a) (hb : Wd b) (hc : Wd c) (hd : Wd d) (h : v4 a b c d = n) :
    (d ≠ 0 → blen n = 192 + blen d.toNat) ∧ (d = 0 → c ≠ 0 → blen n = 128 + blen c.toNat) ∧ (d = 0 → c = 0 → b ≠ 0 → blen n = 64 + blen b.toNat) ∧ (d = 0 → c = 0 → b = 0 → blen n = blen a.toNat) := by
  have key : ∀ (s : Nat) (y : Int), Wd y → y ≠ 0 → n / 2 ^ s = y.toNat → blen n = s + blen y.toNat := fun s y wy hy hs => by
    have : n / 2 ^ s ≠ 0 := by rw [hs]; unfold Wd at wy; omega
    rw [blen_div this, hs]
  unfold v4 at h
  refine ⟨fun g => key 192 d hd g ?_, fun g1 g => key 128 c hc g ?_, fun g1 g2 g => key 64 b hb g ?_, fun g1 g2 g3 => ?_⟩
  · simp only [Nat.reducePow]
    unfold Wd at *
    omega
  · simp only [Nat.reducePow]
    unfold Wd at *
    omega
  · simp only [Nat.reducePow]
    unfold Wd at *
    omega
  · congr 1
    unfold Wd at *
    omega
theorem fnDef {n j : Nat} (h : (Dn.i n (.fn 1 [.v j, .c 0, .c 0, .c 0])).holds e) (hw : Wd (e.i j)) : e.i n = (blen (e.i j).toNat : Nat) ∧ blen (e.i j).toNat ≤ 64 := by
  have h : e.i n = (ikind 1).wrap (itab 1 [e.i j, 0, 0, 0]) := h
  exact ⟨h.trans (fn1_ev hw), blen_bound (by unfold Wd at hw; omega)⟩
theorem addDef {n m : Nat} {c : Int} (h : (Dn.i n (.ar .add .i64 (.c c) (.v m))).holds e) {k : Nat} (hm : e.i m = k) (hk : k ≤ 64) (hc : 0 ≤ c ∧ c ≤ 192) : e.i n = c + k := by
  have h : e.i n = IntKind.i64.wrap (c + e.i m) := h
  rw [h, wrap64, hm]
  omega
theorem bitT_goal {L : Type} {Φ : L → Prop} {ni j N : Nat} {k : Nat → IE → Tree L} (w : W4d e j) (hN : v4 (e.i j) (e.i (j + 1)) (e.i (j + 2)) (e.i (j + 3)) = N) (hk : ∀ (n : Nat) (x : IE), x.den e = ((blen N : Nat) : Int) → (k n x).goal e Φ) : (bitT ni j k).goal e Φ := by
  obtain ⟨b1, b2, b3, b4⟩ := blen4 w.1 w.2.1 w.2.2.1 w.2.2.2 hN
  have fin : ∀ {c : Nat} {n m u : Nat}, c ≤ 192 → Wd (e.i u) → (Dn.i n (.fn 1 [.v u, .c 0, .c 0, .c 0])).holds e → (Dn.i m (.ar .add .i64 (.c (c : Nat)) (.v n))).holds e → blen N = c + blen (e.i u).toNat → (IE.v m).den e = (blen N : Nat) := fun hc hu h1 h2 hb => by
    obtain ⟨g1, g2⟩ := fnDef h1 hu
    have := addDef h2 g1 g2 (by omega)
    rw [den_v, this, hb]
    omega
  refine ⟨fun g3 => ⟨fun g2 => ⟨fun g1 h1 => ?_, fun g1 h1 h2 => ?_⟩, fun g2 h1 h2 => ?_⟩, fun g3 h1 h2 => ?_⟩
  · refine hk _ _ ?_
    rw [den_v, (fnDef h1 w.1).1, b4 ((be_eq g3).2 rfl) ((be_eq g2).2 rfl) ((be_eq g1).2 rfl)]
  · exact hk _ _ (fin (c := 64) (by omega) w.2.1 h1 h2 (b3 ((be_eq g3).2 rfl) ((be_eq g2).2 rfl) fun h => absurd ((be_eq g1).1 h) (by decide)))
  · exact hk _ _ (fin (c := 128) (by omega) w.2.2.1 h1 h2 (b2 ((be_eq g3).2 rfl) fun h => absurd ((be_eq g2).1 h) (by decide)))
  · exact hk _ _ (fin (c := 192) (by omega) w.2.2.2 h1 h2 (b1 fun h => absurd ((be_eq g3).1 h) (by decide)))
theorem law_11 (h : Iv d 5 i A B X e.i) (wa : W4d e 5) (wb : W4d e 9) : (t11 d).goal e fun l => l.1 = .normal ∧ Iv d 6 i A B X (VL.vals l e) ∧ VL.vals l e 0 = ((max (blen A) (blen B) : Nat) : Int) := by
  have fin : ∀ x : IE, x.den e = ((max (blen A) (blen B) : Nat) : Int) → (LFn d x).goal e fun l => l.1 = .normal ∧ Iv d 6 i A B X (VL.vals l e) ∧ VL.vals l e 0 = ((max (blen A) (blen B) : Nat) : Int) := fun x hx =>
    ⟨rfl, h.rst (ts := [x]) rfl h.hi h.hA h.hB, hx⟩
  refine bitT_goal wa h.hA fun n x hx => bitT_goal wb h.hB fun _ y hy => ⟨fun g => fin y ?_, fun g => fin x ?_⟩
  · have g : x.den e < y.den e := of_decide_eq_true g
    rw [hy]
    omega
  · have g : ¬ x.den e < y.den e := of_decide_eq_false g
    rw [hx]
    omega
theorem apT_goal {L : Type} {Φ : L → Prop} {ni j n N : Nat} {k : IE → Tree L} (hn : 64 < n) (hn' : n ≤ 256) (w : W4d e j) (hN : v4 (e.i j) (e.i (j + 1)) (e.i (j + 2)) (e.i (j + 3)) = N) (hk : ∀ x : IE, x.den e = ((apV N n : Nat) : Int) → (k x).goal e Φ) : (apT ni j n k).goal e Φ := by
  obtain ⟨w0, w1, w2, w3⟩ := w4_of w.1 w.2.1 w.2.2.1 w.2.2.2 hN
  have hw : ∀ u, u < 4 → e.i (j + u) = w4 N u := fun u hu => by
    have : u = 0 ∨ u = 1 ∨ u = 2 ∨ u = 3 := by omega
    rcases this with rfl | rfl | rfl | rfl
    · exact w0
    · exact w1
    · exact w2
    · exact w3
  obtain ⟨g1, g2, g3, g4, g5, g6, g7⟩ := ap_rng hn
  have hh : apHw n < 4 := by omega
  intro d0 d1 d2 d3 d4 d5 d6
  have d0 : e.i ni = btI .and .u64 2147483647 (e.i j) := d0
  have d1 : e.i (ni + 1) = btI .and .u64 (e.i (j + apHw n)) (apM1 n : Nat) := d1
  have d2 : e.i (ni + 2) = shI .shl .u64 (e.i (ni + 1)) (64 - apAv n) := d2
  have d3 : e.i (ni + 3) = btI .and .u64 (apM2 n : Nat) (e.i (j + (apHw n - 1))) := d3
  have d4 : e.i (ni + 4) = shI .shr .u64 (e.i (ni + 3)) (apUs n) := d4
  have d5 : e.i (ni + 5) = btI .or .u64 (e.i ni) (e.i (ni + 4)) := d5
  have d6 : e.i (ni + 6) = btI .or .u64 (e.i (ni + 5)) (e.i (ni + 2)) := d6
  have e0 : e.i j = w4 N 0 := w0
  rw [e0, show (2147483647 : Int) = ((2147483647 : Nat) : Int) from rfl, and_nat (by decide) (w4_lt _ _)] at d0
  rw [hw _ hh, and_nat (w4_lt _ _) (apM1_lt n)] at d1
  rw [d1, shl_nat (by omega)] at d2
  rw [hw _ (by omega), and_nat (apM2_lt n) (w4_lt _ _)] at d3
  rw [d3, shr_natI (by omega)] at d4
  have l0 : apLo N < 18446744073709551616 := by have := apLo_lt N; omega
  have l4 : apMid N n < 18446744073709551616 := by have := apMid_lt (a := N) hn; omega
  have d5' : e.i (ni + 5) = ((apLo N ||| apMid N n : Nat) : Int) := by rw [d5, d0, d4]; exact or_nat l0 l4
  have d6' : e.i (ni + 6) = ((apV N n : Nat) : Int) := by rw [d6, d5', d2]; exact or_nat (or_lt64 l0 l4) apHi_lt
  exact hk _ d6'
theorem law_12 {n : Nat} (hn : n = max (blen A) (blen B)) (hn' : n ≤ 256) (h : Iv d 6 i A B X e.i) (wa : W4d e 6) (wb : W4d e 10) : (t12 d n).goal e fun l => l.1 = .normal ∧ Iv d 7 i A B X (VL.vals l e) ∧ Apx A B (VL.vals l e 0) (VL.vals l e 1) := by
  have fin : ∀ x y : IE, Apx A B (x.den e) (y.den e) → (LF2 d x y).goal e fun l => l.1 = .normal ∧ Iv d 7 i A B X (VL.vals l e) ∧ Apx A B (VL.vals l e 0) (VL.vals l e 1) := fun x y hx => ⟨rfl, h.rst (ts := [x, y]) rfl h.hi h.hA h.hB, hx⟩
  unfold t12
  cases hb : Nat.ble n 64 with
  | true =>
    have hle := Nat.le_of_ble_eq_true hb
    have la : A < 18446744073709551616 := Nat.lt_of_lt_of_le (blen_lt A) (Nat.pow_le_pow_right (n := 2) (j := 64) (by decide) (by omega))
    have lb : B < 18446744073709551616 := Nat.lt_of_lt_of_le (blen_lt B) (Nat.pow_le_pow_right (n := 2) (j := 64) (by decide) (by omega))
    refine fin _ _ ?_
    have ea : e.i 6 = A := by
      have := h.hA
      unfold v4 at this
      unfold W4d Wd at wa
      simp only [Nat.reduceAdd] at this wa
      omega
    have eb : e.i 10 = B := by
      have := h.hB
      unfold v4 at this
      unfold W4d Wd at wb
      simp only [Nat.reduceAdd] at this wb
      omega
    rw [den_v, den_v, ea, eb]
    exact apx_low la lb
  | false =>
    have hgt : 64 < n := by
      rcases Nat.lt_or_ge 64 n with h | h
      · exact h
      · rw [Nat.ble_eq_true_of_le h] at hb
        cases hb
    refine apT_goal hgt hn' wa h.hA fun x hx => apT_goal hgt hn' wb h.hB fun y hy => fin x y ?_
    rw [hx, hy]
    exact apx_of hn hgt
theorem law_13 {A0 B0 : Int} (h : Iv d 7 i A B X e.i) (hA : e.i 0 = A0) (hB : e.i 1 = B0) : (t13 d).goal e fun l => l.1 = .normal ∧ Iv d 9 i A B X (VL.vals l e) ∧ VL.vals l e 0 = A0 ∧ VL.vals l e 1 = B0 ∧ VL.vals l e 2 = 1 ∧ VL.vals l e 3 = 4294967296 :=
  ⟨rfl, h.rst (ts := [.v 0, .v 1, .c 1, .c 4294967296]) rfl h.hi h.hA h.hB, hA, hB, rfl, rfl⟩
theorem law_In (h : Iv d 9 i A B X e.i) (hA : Wd (e.i 0)) (hB : Wd (e.i 1)) : (tIn d).goal e fun l => l.1 = .normal ∧ Iv d 9 i A B X (VL.vals l e) ∧ StepR (e.i 0) (e.i 1) (e.i 2) (e.i 3) (VL.vals l e 0) (VL.vals l e 1) (VL.vals l e 2) (VL.vals l e 3) :=
  inT_goal hA hB fun x y z t hs => ⟨rfl, h.rst (ts := [x, y, z, t]) rfl h.hi h.hA h.hB, hs⟩
theorem law_InE (h : Iv d 9 i A B X e.i) : (tInE d).goal e fun l => l.1 = .exit 2 ∧ Iv d 7 i A B X (VL.vals l e) ∧ VL.vals l e 0 = e.i 2 ∧ VL.vals l e 1 = e.i 3 :=
  ⟨rfl, h.rst (ts := [.v 2, .v 3]) rfl h.hi h.hA h.hB, rfl, rfl⟩
abbrev SV4 (v : Nat → Int) (j S : Nat) : Prop := v4 (v j) (v (j + 1)) (v (j + 2)) (v (j + 3)) = S
theorem law_5a {f g c c1 : Int} (h : Iv d 7 i A B X e.i) (hc : e.i 0 = f + 4294967296 * g + 18446744073709551616 * c) (hf : -2147483648 < f ∧ f ≤ 2147483648) (hg : -2147483648 < g ∧ g ≤ 2147483648) (h1 : e.i 1 = c1) :
    (t5a d).goal e fun l => l.1 = .normal ∧ Iv d 8 i A B X (VL.vals l e) ∧ SV4 (VL.vals l e) 24 A ∧ VL.vals l e 0 = f ∧ VL.vals l e 1 = g ∧ VL.vals l e 2 = c1 :=
  decT_goal hc hf hg fun x y hx hy => ⟨rfl, h.rst (ts := [x, y, .v 1]) rfl h.hi h.hA h.hB, rst_s (ts := [x, y, .v 1]) h.hA, hx, hy, h1⟩
theorem linT_goal {ni jb js : Nat} {k : W4 → IE → Tree VL} {Φ : VL → Prop} {S B : Nat} {f g : Int} (wb : W4d e jb) (ws : W4d e js) (hB : SV4 e.i jb B) (hS : SV4 e.i js S) (hf : e.i 0 = f) (hg : e.i 1 = g) (bf : -2147483648 < f ∧ f ≤ 2147483648) (bg : -2147483648 < g ∧ g ≤ 2147483648)
    (hk : ∀ z h, z.ok e → Wd (h.den e) → (∃ c, N5 e z h = f * S + g * B + T320 * c) → (k z h).goal e Φ) : (linT ni jb js k).goal e Φ := by
  have b0 : -9223372036854775808 < (IE.v 1).den e ∧ (IE.v 1).den e < 9223372036854775808 := by rw [den_v, hg]; omega
  have b1 : -9223372036854775808 < (IE.v 0).den e ∧ (IE.v 0).den e < 9223372036854775808 := by rw [den_v, hf]; omega
  refine mulWT_goal wb b0.1 b0.2 fun n nb y yh oy oyh hy => mulWT_goal ws b1.1 b1.2 fun n' nb' x xh ox oxh hx => addT_goal ox oxh oy oyh fun _ _ z h oz oh hz => hk z h oz oh ?_
  obtain ⟨c1, hy⟩ := hy
  obtain ⟨c2, hx⟩ := hx
  obtain ⟨c3, hz⟩ := hz
  have eB : (vW jb).val e = B := hB
  have eS : (vW js).val e = S := hS
  rw [den_v, hg, eB] at hy
  rw [den_v, hf, eS] at hx
  refine ⟨c1 + c2 + c3, ?_⟩
  rw [hz, hx, hy, Int.mul_add, Int.mul_add, Int.mul_comm (S : Int) f, Int.mul_comm (B : Int) g]
  omega
theorem law_5b {S : Nat} {f g c1 : Int} (h : Iv d 8 i A B X e.i) (hS : SV4 e.i 24 S) (wb : W4d e 12) (ws : W4d e 24) (hf : e.i 0 = f) (hg : e.i 1 = g) (h1 : e.i 2 = c1) (bf : -2147483648 < f ∧ f ≤ 2147483648) (bg : -2147483648 < g ∧ g ≤ 2147483648) :
    (t5b d).goal e fun l => l.1 = .normal ∧ ∃ A' : Nat, Iv d 9 i A' B X (VL.vals l e) ∧ SV4 (VL.vals l e) 25 S ∧ VL.vals l e 3 = c1 ∧ ∃ c, A' + 115792089237316195423570985008687907853269984665640564039457584007913129639936 * VL.vals l e 0 = f * S + g * B + T320 * c :=
  linT_goal wb ws h.hB hS hf hg bf bg fun z hh oz oh hc => by
    obtain ⟨A', hA'⟩ := nat_of (W4.val_nonneg oz)
    refine ⟨rfl, A', h.rst (ts := [hh, .v 0, .v 1, .v 2]) rfl h.hi hA' h.hB, rst_s (ts := [hh, .v 0, .v 1, .v 2]) hS, h1, ?_⟩
    obtain ⟨c, hc⟩ := hc
    refine ⟨c, ?_⟩
    rw [← hc, ← hA']
    rfl
theorem law_6b {S : Nat} {f g : Int} (h : Iv d 9 i A B X e.i) (hS : SV4 e.i 25 S) (wb : W4d e 13) (ws : W4d e 25) (hf : e.i 0 = f) (hg : e.i 1 = g) (bf : -2147483648 < f ∧ f ≤ 2147483648) (bg : -2147483648 < g ∧ g ≤ 2147483648) :
    (t6b d).goal e fun l => l.1 = .normal ∧ ∃ B' : Nat, Iv d 10 i A B' X (VL.vals l e) ∧ ∃ c, B' + 115792089237316195423570985008687907853269984665640564039457584007913129639936 * VL.vals l e 0 = f * S + g * B + T320 * c :=
  linT_goal wb ws h.hB hS hf hg bf bg fun z hh oz oh hc => by
    obtain ⟨B', hB'⟩ := nat_of (W4.val_nonneg oz)
    refine ⟨rfl, B', h.rst (ts := [hh, .v 0, .v 1, .v 2, .v 3]) rfl h.hi h.hA hB', ?_⟩
    obtain ⟨c, hc⟩ := hc
    refine ⟨c, ?_⟩
    rw [← hc, ← hB']
    rfl
theorem law_5c {S : Nat} {V c1 : Int} (h : Iv d 9 i A B X e.i) (hS : SV4 e.i 25 S) (wa : W4d e 9) (wh : Wd (e.i 0)) (h3 : e.i 3 = c1) (hV : ∃ c, A + 115792089237316195423570985008687907853269984665640564039457584007913129639936 * e.i 0 = V + T320 * c)
    (h0 : -248661618204893321077691124073410420050228075398673858720231988446579748506266687766528 ≤ V) (h1 : V ≤ 248661618204893321077691124073410420050228075398673858720231988446579748506266687766528) :
    (t5c d).goal e fun l => l.1 = .normal ∧ ∃ A' : Nat, Iv d 9 i A' B X (VL.vals l e) ∧ SV4 (VL.vals l e) 25 S ∧ VL.vals l e 3 = c1 ∧ A' + 115792089237316195423570985008687907853269984665640564039457584007913129639936 * VL.vals l e 0 = (V.natAbs : Nat) :=
  signT_goal wa wh (by
    obtain ⟨c, hc⟩ := hV
    refine ⟨c, ?_⟩
    rw [← hc, ← h.hA]
    rfl) h0 h1 fun z hh f g oz oh hN => by
      obtain ⟨A', hA'⟩ := nat_of (W4.val_nonneg oz)
      refine ⟨rfl, A', h.rst (ts := [hh, f, g, .v 3]) rfl h.hi hA' h.hB, rst_s (ts := [hh, f, g, .v 3]) hS, h3, ?_⟩
      rw [← hN, ← hA']
      rfl
theorem law_6c {V : Int} (h : Iv d 10 i A B X e.i) (wb : W4d e 14) (wh : Wd (e.i 0)) (hV : ∃ c, B + 115792089237316195423570985008687907853269984665640564039457584007913129639936 * e.i 0 = V + T320 * c)
    (h0 : -248661618204893321077691124073410420050228075398673858720231988446579748506266687766528 ≤ V) (h1 : V ≤ 248661618204893321077691124073410420050228075398673858720231988446579748506266687766528) :
    (t6c d).goal e fun l => l.1 = .normal ∧ ∃ B' : Nat, Iv d 10 i A B' X (VL.vals l e) ∧ B' + 115792089237316195423570985008687907853269984665640564039457584007913129639936 * VL.vals l e 0 = (V.natAbs : Nat) :=
  signT_goal wb wh (by
    obtain ⟨c, hc⟩ := hV
    refine ⟨c, ?_⟩
    rw [← hc, ← h.hB]
    rfl) h0 h1 fun z hh f g oz oh hN => by
      obtain ⟨B', hB'⟩ := nat_of (W4.val_nonneg oz)
      refine ⟨rfl, B', h.rst (ts := [hh, f, g, .v 3, .v 4]) rfl h.hi h.hA hB', ?_⟩
      rw [← hN, ← hB']
      rfl
theorem law_5d {S N : Nat} {c1 : Int} (h : Iv d 9 i A B X e.i) (hS : SV4 e.i 25 S) (wa : W4d e 9) (wh : Wd (e.i 0)) (h3 : e.i 3 = c1) (hN : A + 115792089237316195423570985008687907853269984665640564039457584007913129639936 * e.i 0 = N) (hl : N < 248661618204893321077691124073410420050228075398673858720231988446579748506266687766528) :
    (t5d d).goal e fun l => l.1 = .normal ∧ Iv d 8 i (N / 2147483648) B X (VL.vals l e) ∧ SV4 (VL.vals l e) 24 S ∧ VL.vals l e 2 = c1 :=
  shT_goal wa wh (by
    rw [← hN, ← h.hA]
    rfl) hl fun z oz hz => ⟨rfl, h.rst (ts := [.v 1, .v 2, .v 3]) rfl h.hi hz h.hB, rst_s (ts := [.v 1, .v 2, .v 3]) hS, h3⟩
theorem law_6d {N : Nat} (h : Iv d 10 i A B X e.i) (wb : W4d e 14) (wh : Wd (e.i 0)) (hN : B + 115792089237316195423570985008687907853269984665640564039457584007913129639936 * e.i 0 = N) (hl : N < 248661618204893321077691124073410420050228075398673858720231988446579748506266687766528) :
    (t6d d).goal e fun l => l.1 = .normal ∧ Iv d 9 i A (N / 2147483648) X (VL.vals l e) :=
  shT_goal wb wh (by
    rw [← hN, ← h.hB]
    rfl) hl fun z oz hz => ⟨rfl, h.rst (ts := [.v 1, .v 2, .v 3, .v 4]) rfl h.hi h.hA hz⟩
theorem law_6a {S : Nat} {f g c : Int} (h : Iv d 8 i A B X e.i) (hS : SV4 e.i 24 S) (hc : e.i 2 = f + 4294967296 * g + 18446744073709551616 * c) (hf : -2147483648 < f ∧ f ≤ 2147483648) (hg : -2147483648 < g ∧ g ≤ 2147483648) :
    (t6a d).goal e fun l => l.1 = .normal ∧ Iv d 9 i A B X (VL.vals l e) ∧ SV4 (VL.vals l e) 25 S ∧ VL.vals l e 0 = f ∧ VL.vals l e 1 = g :=
  decT_goal hc hf hg fun x y hx hy => ⟨rfl, h.rst (ts := [x, y, .v 0, .v 1]) rfl h.hi h.hA h.hB, rst_s (ts := [x, y, .v 0, .v 1]) hS, hx, hy⟩
end
end Go.Sx
namespace Go.Sx
open Go
set_option maxRecDepth 100000
/-! ### Pieces of which only what stays is asked -/
def isV (x : IE) (k : Nat) : Bool := match x with
  | .v j => Nat.beq j k
  | _ => false
theorem isV_spec {x : IE} {k : Nat} (h : isV x k = true) : x = .v k := by
  unfold isV at h
  split at h
  · rw [Nat.eq_of_beq_eq_true h]
  · cases h
def okL (d : Bool) (m nt : Nat) (l : List IE) : Bool :=
  isV (l.getD (nt + 4) (.c 0)) (m - 1) && ((List.range 8).all fun j => isV (l.getD (nt + 5 + j) (.c 0)) (m + j)) && ((List.range 4).all fun j => isV (l.getD (xo d (nt + 5) + j) (.c 0)) (xo d m + j))
def okIv (d : Bool) (m nt : Nat) : Tree VL → Bool
  | .leaf (.normal, l) => okL d m nt l
  | .leaf _ => false
  | .no => false
  | .dn _ t => okIv d m nt t
  | .br _ t f => okIv d m nt t && okIv d m nt f
section
variable {d : Bool} {i A B X : Nat} {e : Env}
theorem okL_sound {m nt : Nat} {x : Xt} {l : List IE} (h : okL d m nt l = true) (hI : Iv d m i A B X e.i) : Iv d (nt + 5) i A B X (VL.vals (x, l) e) := by
  unfold okL at h
  simp only [Bool.and_eq_true] at h
  obtain ⟨⟨h1, h2⟩, h3⟩ := h
  have g1 := isV_spec h1
  have g2 : ∀ j, j < 8 → VL.vals (x, l) e (nt + 5 + j) = e.i (m + j) := fun j hj => by
    have := isV_spec (List.all_eq_true.1 h2 j (List.mem_range.2 hj))
    show (l.getD (nt + 5 + j) (.c 0)).den e = _
    rw [this, den_v]
  have g3 : ∀ j, j < 4 → VL.vals (x, l) e (xo d (nt + 5) + j) = e.i (xo d m + j) := fun j hj => by
    have := isV_spec (List.all_eq_true.1 h3 j (List.mem_range.2 hj))
    show (l.getD (xo d (nt + 5) + j) (.c 0)).den e = _
    rw [this, den_v]
  refine ⟨?_, ?_, ?_, ?_⟩
  · show (l.getD (nt + 4) (.c 0)).den e = _
    rw [g1, den_v]
    exact hI.hi
  · have := g2 0 (by omega)
    rw [Nat.add_zero, Nat.add_zero] at this
    rw [this, g2 1 (by omega), g2 2 (by omega), g2 3 (by omega)]
    exact hI.hA
  · rw [g2 4 (by omega), g2 5 (by omega), g2 6 (by omega), g2 7 (by omega)]
    exact hI.hB
  · have := g3 0 (by omega)
    rw [Nat.add_zero, Nat.add_zero] at this
    rw [this, g3 1 (by omega), g3 2 (by omega), g3 3 (by omega)]
    exact hI.hX
theorem okIv_goal {m nt : Nat} (hI : Iv d m i A B X e.i) : ∀ {t : Tree VL}, okIv d m nt t = true → t.goal e fun l => l.1 = .normal ∧ Iv d (nt + 5) i A B X (VL.vals l e)
  | .leaf (.normal, l), h => ⟨rfl, okL_sound h hI⟩
  | .dn _ t, h => fun _ => okIv_goal hI (t := t) h
  | .br _ t f, h => by
    simp only [okIv, Bool.and_eq_true] at h
    exact ⟨fun _ => okIv_goal hI h.1, fun _ => okIv_goal hI h.2⟩
end
def okIvO (d : Bool) (m nt ni : Nat) : Option (Tree VL) → Bool
  | some t => okIv d m nt t && t.bd ni 0 0
  | none => false
theorem okIvO_some {d : Bool} {m nt ni : Nat} {o : Option (Tree VL)} (h : okIvO d m nt ni o = true) : ∃ t, o = some t ∧ okIv d m nt t = true ∧ t.bd ni 0 0 = true := by
  cases o with
  | none => cases h
  | some t =>
    rw [okIvO, Bool.and_eq_true] at h
    exact ⟨t, rfl, h.1, h.2⟩
def t7c (d : Bool) : Tree CL := .dn (.i (niO d 9) (.bt .and .u64 (.v 8) (.c 1))) (.leaf (.eq (.v (niO d 9)) (.c 1), [.v 0, .v 1, .v 2, .v 3] ++ rst d 9 (vW 9) (vW 13) (vW 25)))
def t10 (d : Bool) : Tree VL := .dn (.i (niO d 5) (.ar .add .u64 (.v 4) (.c 1))) (.leaf (.normal, [.v 0, .v 1, .v 2, .v 3, .v (niO d 5)] ++ (rst d 5 (vW 5) (vW 9) (vW 21)).drop 5))
/-! ### The patterns of one round -/
def pABl : List (Nat × IntKind) := [(18, .u64), (19, .u64)] ++ hdT
def pInl : List (Nat × IntKind) := [(18, .u64), (19, .u64), (8, .i64), (9, .i64)] ++ hdT
def p4l : List (Nat × IntKind) := [(8, .i64), (9, .i64)] ++ hdT
def p5al : List (Nat × IntKind) := [(8, .i64), (22, .i64), (9, .i64)] ++ hdT
def p5bl : List (Nat × IntKind) := [(23, .u64), (8, .i64), (22, .i64), (9, .i64)] ++ hdT
def p6al : List (Nat × IntKind) := [(24, .i64), (9, .i64), (8, .i64), (22, .i64)] ++ hdT
def p6bl : List (Nat × IntKind) := [(25, .u64), (24, .i64), (9, .i64), (8, .i64), (22, .i64)] ++ hdT
def pNl : List (Nat × IntKind) := (17, .i64) :: hdT
def pNc (ty : Nat) (d : Bool) (n : Nat) : Pat := { ivP ty d pNl [] with tms := (17, .one (.at (.int .i64 (.c n)))) :: (ivP ty d pNl []).tms.tail }
def pIn (ty : Nat) (d : Bool) (k : Nat) : Pat := ivP ty d pInl [(47, .one (.at (.int .i64 (.c k))))]
/-- What the kernel checks of one round. -/
structure IvChk (P : Program) (qb ql : QSum) (ty : Nat) (d : Bool) (B X B2 T E : Code) (c : Operand) : Prop where
  fB : flat B = (flat B).take 2 ++ ([.block 1 X] ++ (flat B).drop 3)
  fX : flat X = (flat X).take 1 ++ (((flat X).drop 1).take 1 ++ (((flat X).drop 2).take 2 ++ ([.block 2 (.loop B2)] ++ (((flat X).drop 5).take 3 ++ (((flat X).drop 8).take 1 ++ (((flat X).drop 9).take 2 ++ (((flat X).drop 11).take 4 ++
    (((flat X).drop 15).take 2 ++ (((flat X).drop 17).take 1 ++ (((flat X).drop 18).take 2 ++ (((flat X).drop 20).take 4 ++ (((flat X).drop 24).take 1 ++ [.cond c T E]))))))))))))
  fT : flat T = (flat T).take 2 ++ (((flat T).drop 2).take 1 ++ (flat T).drop 3)
  cH : sxs P qb noF 300 ((flat B).take 2) (ivP ty d hdT []).st (kM fun _ => ivP ty d hdT []) = some (tH d)
  c11 : sxs P ql noF 300 ((flat X).take 1) (ivP ty d hdT []).st (kM fun _ => ivP ty d pNl []) = some (t11 d)
  c12 : ∀ n, n ≤ 256 → sxs P qb noF 300 (((flat X).drop 1).take 1) (pNc ty d n).st (kM fun _ => ivP ty d pABl []) = some (t12 d n)
  c13 : sxs P qb noF 300 (((flat X).drop 2).take 2) (ivP ty d pABl []).st (kM fun _ => pIn ty d 0) = some (t13 d)
  cIn : ∀ k, k < 31 → sxs P qb noF 300 (flat B2) (pIn ty d k).st (kM fun _ => pIn ty d (k + 1)) = some (tIn d)
  cInE : sxs P qb noF 300 (flat B2) (pIn ty d 31).st (kM fun _ => ivP ty d p4l []) = some (tInE d)
  c5a : sxs P qb noF 300 (((flat X).drop 5).take 3) (ivP ty d p4l []).st (kM fun _ => ivP ty d p5al []) = some (t5a d)
  c5b : sxs P qb noF 300 (((flat X).drop 8).take 1) (ivP ty d p5al []).st (kM fun _ => ivP ty d p5bl []) = some (t5b d)
  c5c : sxs P qb noF 300 (((flat X).drop 9).take 2) (ivP ty d p5bl []).st (kM fun _ => ivP ty d p5bl []) = some (t5c d)
  c5d : sxs P qb noF 300 (((flat X).drop 11).take 4) (ivP ty d p5bl []).st (kM fun _ => ivP ty d p5al []) = some (t5d d)
  c6a : sxs P qb noF 300 (((flat X).drop 15).take 2) (ivP ty d p5al []).st (kM fun _ => ivP ty d p6al []) = some (t6a d)
  c6b : sxs P qb noF 300 (((flat X).drop 17).take 1) (ivP ty d p6al []).st (kM fun _ => ivP ty d p6bl []) = some (t6b d)
  c6c : sxs P qb noF 300 (((flat X).drop 18).take 2) (ivP ty d p6bl []).st (kM fun _ => ivP ty d p6bl []) = some (t6c d)
  c6d : sxs P qb noF 300 (((flat X).drop 20).take 4) (ivP ty d p6bl []).st (kM fun _ => ivP ty d p6al []) = some (t6d d)
  c7 : sxs P qb noF 300 (((flat X).drop 24).take 1) (ivP ty d p6al []).st (kC c (ivP ty d p6al [])) = some (t7c d)
  c7a : okIvO d 9 4 (niO d 9) (sxs P qb noF 300 ((flat T).take 2) (ivP ty d p6al []).st (kM fun _ => ivP ty d p6al [])) = true
  c7b : okIvO d 9 4 (niO d 9) (sxs P qb noF 300 (((flat T).drop 2).take 1) (ivP ty d p6al []).st (kM fun _ => ivP ty d p6al [])) = true
  c7d : okIvO d 9 0 (niO d 9) (sxs P qb noF 300 ((flat T).drop 3) (ivP ty d p6al []).st (kM fun _ => ivP ty d hdT [])) = true
  c7e : okIvO d 9 0 (niO d 9) (sxs P qb noF 300 (flat E) (ivP ty d p6al []).st (kM fun _ => ivP ty d hdT [])) = true
  c10 : sxs P qb noF 300 ((flat B).drop 3) (ivP ty d hdT []).st (kM fun _ => ivP ty d hdT []) = some (t10 d)
end Go.Sx
