import Derived.Test.YtolmolkcjoibiaaDoorSm
import Derived.Test.YtolmolkcjoibiaaDoorLw1
/- Aids to the claim: what is shown here is said at each theorem. -/
namespace Go.Sx
open Go
set_option maxRecDepth 100000
/-! ### The inverse of the reference: a table -/
def invF (fn : FuncId) : QSum := fun f args h =>
  bif Nat.beq f fn then match args with
    | [a, .one (.agg lc)] => match toW4 lc with
      | some c => match c.c? with
        | some n => bif decide (n = 21888242871839275222246405745257275088696311157297823662689037894645226208583) then match argEls h [a] with
            | some (ds, [[i]], h1) => some (ds ++ [.f h1.nf (.fn 0 [i])], .one (.agg (eps h1.nf)), { h1 with nf := h1.nf + 1 })
            | _ => none
          else none
        | none => none
      | none => none
    | _ => none
  else none
theorem invF_q {P : Program} {fn : FuncId} (hc : InvC P fn) : QOk P (invF fn) := by
  intro f args h ds v h' hh
  unfold invF at hh
  cases hb : Nat.beq f fn with
  | false => rw [hb] at hh; cases hh
  | true =>
    rw [hb] at hh
    have hf := Nat.eq_of_beq_eq_true hb
    subst hf
    simp only [cond_true] at hh
    split at hh
    · rename_i a lc
      split at hh
      · rename_i c hlc
        split at hh
        · rename_i n hn
          cases hq : decide (n = 21888242871839275222246405745257275088696311157297823662689037894645226208583) with
          | false => rw [hq] at hh; cases hh
          | true =>
            rw [hq] at hh
            have hq := of_decide_eq_true hq
            simp only [cond_true] at hh
            split at hh
            · rename_i ds' i h1 ha
              cases hh
              obtain ⟨m1, _⟩ := argEls_sound (e := elEnv fun _ => 0) (β := fun _ => 0) (n := 0) ha
              refine ⟨m1.trans (SameMem.nf _ _), fun e β hf hok hds => ?_⟩
              obtain ⟨_, s1⟩ := argEls_sound (e := e) (β := β) (n := h.cnt) ha
              have hargs := s1 hf (fun s hs => hok s (by
                simp only [List.mem_cons, List.not_mem_nil, or_false] at hs
                subst hs; simp)) fun d hd => hds d (by simp [hd])
              have hnew : e.f h1.nf = finv (e.f i) := hds (.f h1.nf (.fn 0 [i])) (by simp)
              refine ⟨eps_ok _ _ _, fun w0 w _ => ?_⟩
              simp only [List.map_cons, List.map_nil, List.cons.injEq, and_true] at hargs
              have oc : c.ok e := W4.ok_of hlc (hok (.one (.agg lc)) (by simp))
              have ic : c.is e q := W4.is_of oc (by rw [W4.c?_spec hn e, hq]; rfl)
              simp only [List.map_cons, List.map_nil]
              rw [hargs, W4.agg_den hlc, is_words ic]
              have hv : (SV.one (.agg (eps h1.nf))).den β e = agN (finv (e.f i)).val := by
                rw [← hnew]; rfl
              rw [hv]
              have := hc (e.f i) w
              simpa [elsV] using this
            · cases hh
        · cases hh
      · cases hh
    · cases hh
end Go.Sx
namespace Go.Sx
open Go
set_option maxRecDepth 100000
/-! ### Quiet functions of elements: some definitions, one behind the other -/
def outV (tup : Bool) (l : List Fq) : Value := bif tup then .tuple #[elsV l, .bool true] else elsV l
def outS (tup : Bool) (outs : List Nat) : SV := bif tup then .tup [.agg ((outs.map eps).flatten), .at (.bool (.c true))] else .one (.agg ((outs.map eps).flatten))
def elG (tup : Bool) (fn : FuncId) (mk : Nat → List (List Nat) → Option (List FD × List Nat)) : QSum := fun f args h =>
  bif Nat.beq f fn then match argEls h args with
    | some (ds, is, h1) => match mk h1.nf is with
      | some (fd, outs) => some (ds ++ newEls h1.nf fd, outS tup outs, { h1 with nf := h1.nf + fd.length })
      | none => none
    | none => none
  else none
theorem outS_den {tup : Bool} {outs : List Nat} {β : Nat → Nat} {e : Env} : (outS tup outs).den β e = outV tup (outs.map e.f) := by
  have h : SV1.den β e (.agg ((outs.map eps).flatten)) = elsV (outs.map e.f) := by
    simp only [SV1.den, elsV, List.map_flatten, List.map_map]
    rfl
  cases tup with
  | false => exact h
  | true =>
    show Value.tuple #[SV1.den β e (.agg ((outs.map eps).flatten)), .bool true] = _
    rw [h]
    rfl
theorem outS_ok {tup : Bool} {outs : List Nat} {n : Nat} {e : Env} : (outS tup outs).ok n e := by
  have h : SV1.ok n e (.agg ((outs.map eps).flatten)) := fun a ha => by
    obtain ⟨x, hx, hax⟩ := List.mem_flatten.1 ha
    obtain ⟨j, _, rfl⟩ := List.mem_map.1 hx
    exact eps_ok _ _ _ a hax
  cases tup with
  | false => exact h
  | true =>
    intro x hx
    simp only [List.mem_cons, List.not_mem_nil, or_false] at hx
    rcases hx with rfl | rfl
    · exact h
    · trivial
/-- Definitions from number n on hold. -/
def Defs (e : Env) (n : Nat) (fd : List FD) : Prop := ∀ (j : Nat) (d : FD), fd[j]? = some d → e.f (n + j) = d.ev e
theorem elG_q {P : Program} {tup : Bool} {fn : FuncId} {mk : Nat → List (List Nat) → Option (List FD × List Nat)}
    (hc : ∀ (n : Nat) (is : List (List Nat)) (fd : List FD) (outs : List Nat), mk n is = some (fd, outs) → ∀ (e : Env) (w : World), Defs e n fd → QuietRun P (callFunc fn (is.map fun l => elsV (l.map e.f)).toArray) (outV tup (outs.map e.f)) w) : QOk P (elG tup fn mk) := by
  intro f args h ds v h' hh
  unfold elG at hh
  cases hb : Nat.beq f fn with
  | false => rw [hb] at hh; cases hh
  | true =>
    rw [hb] at hh
    have hf := Nat.eq_of_beq_eq_true hb
    subst hf
    simp only [cond_true] at hh
    split at hh
    · rename_i ds' is h1 ha
      split at hh
      · rename_i fd outs hfd
        cases hh
        obtain ⟨m1, _⟩ := argEls_sound (e := elEnv fun _ => 0) (β := fun _ => 0) (n := 0) ha
        refine ⟨m1.trans (SameMem.nf _ _), fun e β hf hok hds => ?_⟩
        obtain ⟨_, s1⟩ := argEls_sound (e := e) (β := β) (n := h.cnt) ha
        have hargs := s1 hf hok fun d hd => hds d (by simp [hd])
        have hnew := newEls_holds (e := e) (ds := fd) (n := h1.nf) fun d hd => hds d (by simp [hd])
        refine ⟨outS_ok, fun w0 w _ => ?_⟩
        rw [hargs, outS_den]
        exact hc _ is fd outs hfd e w hnew
      · cases hh
    · cases hh
def TW1 : Nat := 19485874751759354771024239261021720505790618469301721065564631296452457478373
def TW2 : Nat := 266929791119991161246907387137283842545076965332900288569378510910307636690
theorem fn0 {e : Env} {k : Nat} : (FD.fn 0 [k]).ev e = finv (e.f k) := rfl
/-- Two elements of two parts each. -/
def EE2C (P : Program) (f : FuncId) (tup : Bool) (op : F2 → F2 → F2) : Prop := ∀ (a b : F2) (w : World), QuietRun P (callFunc f #[elsV [a.1, a.2], elsV [b.1, b.2]]) (outV tup [(op a b).1, (op a b).2]) w
def E1C (P : Program) (f : FuncId) (tup : Bool) (op : F2 → F2) : Prop := ∀ (a : F2) (w : World), QuietRun P (callFunc f #[elsV [a.1, a.2]]) (outV tup [(op a).1, (op a).2]) w
def E0C (P : Program) (f : FuncId) (a : F2) : Prop := ∀ (w : World), QuietRun P (callFunc f #[]) (elsV [a.1, a.2]) w
def mkMulE : Nat → List (List Nat) → Option (List FD × List Nat) := fun n is => match is with
  | [[a, b], [c, d]] => some ([.mul a c, .mul b d, .sub n (n + 1), .mul a d, .mul b c, .add (n + 3) (n + 4)], [n + 2, n + 5])
  | _ => none
def mkAddE : Nat → List (List Nat) → Option (List FD × List Nat) := fun n is => match is with
  | [[a, b], [c, d]] => some ([.add a c, .add b d], [n, n + 1])
  | _ => none
def mkSubE : Nat → List (List Nat) → Option (List FD × List Nat) := fun n is => match is with
  | [[a, b], [c, d]] => some ([.sub a c, .sub b d], [n, n + 1])
  | _ => none
def mkInvE : Nat → List (List Nat) → Option (List FD × List Nat) := fun n is => match is with
  | [[a, b]] => some ([.mul a a, .mul b b, .add n (n + 1), .fn 0 [n + 2], .mul a (n + 3), .mul b (n + 3), .k 0, .sub (n + 6) (n + 5)], [n + 4, n + 7])
  | _ => none
def mkTw : Nat → List (List Nat) → Option (List FD × List Nat) := fun n is => match is with
  | [] => some ([.k TW1, .k TW2], [n, n + 1])
  | _ => none
section
variable {P : Program} {fn : FuncId}
theorem mulE_q (hc : EE2C P fn false F2.mul) : QOk P (elG false fn mkMulE) := elG_q fun n is fd outs h e w hd => by
  unfold mkMulE at h
  split at h
  · rename_i a b c d
    cases h
    have d0 : e.f n = e.f a * e.f c := hd 0 _ rfl
    have d1 : e.f (n + 1) = e.f b * e.f d := hd 1 _ rfl
    have d2 : e.f (n + 2) = e.f n - e.f (n + 1) := hd 2 _ rfl
    have d3 : e.f (n + 3) = e.f a * e.f d := hd 3 _ rfl
    have d4 : e.f (n + 4) = e.f b * e.f c := hd 4 _ rfl
    have d5 : e.f (n + 5) = e.f (n + 3) + e.f (n + 4) := hd 5 _ rfl
    have := hc (e.f a, e.f b) (e.f c, e.f d) w
    simp only [List.map_cons, List.map_nil]
    rw [d2, d5, d0, d1, d3, d4]
    exact this
  · cases h
theorem addE_q (hc : EE2C P fn false F2.add) : QOk P (elG false fn mkAddE) := elG_q fun n is fd outs h e w hd => by
  unfold mkAddE at h
  split at h
  · rename_i a b c d
    cases h
    have d0 : e.f n = e.f a + e.f c := hd 0 _ rfl
    have d1 : e.f (n + 1) = e.f b + e.f d := hd 1 _ rfl
    have := hc (e.f a, e.f b) (e.f c, e.f d) w
    simp only [List.map_cons, List.map_nil]
    rw [d0, d1]
    exact this
  · cases h
theorem subE_q (hc : EE2C P fn false F2.sub) : QOk P (elG false fn mkSubE) := elG_q fun n is fd outs h e w hd => by
  unfold mkSubE at h
  split at h
  · rename_i a b c d
    cases h
    have d0 : e.f n = e.f a - e.f c := hd 0 _ rfl
    have d1 : e.f (n + 1) = e.f b - e.f d := hd 1 _ rfl
    have := hc (e.f a, e.f b) (e.f c, e.f d) w
    simp only [List.map_cons, List.map_nil]
    rw [d0, d1]
    exact this
  · cases h
theorem invE_q (hc : E1C P fn false F2.inv) : QOk P (elG false fn mkInvE) := elG_q fun n is fd outs h e w hd => by
  unfold mkInvE at h
  split at h
  · rename_i a b
    cases h
    have d0 : e.f n = e.f a * e.f a := hd 0 _ rfl
    have d1 : e.f (n + 1) = e.f b * e.f b := hd 1 _ rfl
    have d2 : e.f (n + 2) = e.f n + e.f (n + 1) := hd 2 _ rfl
    have d3 := hd 3 (.fn 0 [n + 2]) rfl
    rw [fn0] at d3
    have d4 : e.f (n + 4) = e.f a * e.f (n + 3) := hd 4 _ rfl
    have d5 : e.f (n + 5) = e.f b * e.f (n + 3) := hd 5 _ rfl
    have d6 : e.f (n + 6) = 0 := hd 6 _ rfl
    have d7 : e.f (n + 7) = e.f (n + 6) - e.f (n + 5) := hd 7 _ rfl
    have := hc (e.f a, e.f b) w
    simp only [List.map_cons, List.map_nil]
    rw [d7, d4, d6, d5, d3, d2, d0, d1]
    exact this
  · cases h
theorem tw_val : tw = (F TW1, F TW2) := by decide +kernel
theorem tw_q (hc : E0C P fn tw) : QOk P (elG false fn mkTw) := elG_q fun n is fd outs h e w hd => by
  unfold mkTw at h
  split at h
  · cases h
    have d0 := hd 0 (.k TW1) rfl
    have d1 := hd 1 (.k TW2) rfl
    have := hc w
    rw [tw_val] at this
    rw [Nat.add_zero] at d0
    simp only [List.map_cons, List.map_nil]
    rw [d0, d1]
    exact this
  · cases h
end

/-! ### Their walks -/
def fsOf (l : List Fq) (k : Nat) : Fq := l.getD k 0
def lf2 (i j : Nat) : Tree Lf := .leaf (.one (.agg (eps i ++ eps j)), [])
theorem lf2_goal {e : Env} {i j : Nat} {x y : Fq} (hx : e.f i = x) (hy : e.f j = y) : (lf2 i j).goal e fun l => (∀ β, l.1.den β e = elsV [x, y]) ∧ l.2 = [] := by
  refine ⟨fun β => ?_, rfl⟩
  rw [← hx, ← hy]
  rfl
def tMulE : Tree Lf := .dn (.f 4 (.mul 0 2)) <| .dn (.f 5 (.mul 1 3)) <| .dn (.f 6 (.sub 4 5)) <| .dn (.f 7 (.mul 0 3)) <| .dn (.f 8 (.mul 1 2)) <| .dn (.f 9 (.add 7 8)) <| lf2 6 9
def tAddE : Tree Lf := .dn (.f 4 (.add 0 2)) <| .dn (.f 5 (.add 1 3)) <| lf2 4 5
def tSubE : Tree Lf := .dn (.f 4 (.sub 0 2)) <| .dn (.f 5 (.sub 1 3)) <| lf2 4 5
def tInvE : Tree Lf := .dn (.f 2 (.mul 0 0)) <| .dn (.f 3 (.mul 1 1)) <| .dn (.f 4 (.add 2 3)) <| .dn (.f 5 (.fn 0 [4])) <| .dn (.f 6 (.mul 0 5)) <| .dn (.f 7 (.mul 1 5)) <| .dn (.f 8 (.k 0)) <| .dn (.f 9 (.sub 8 7)) <| lf2 6 9
/-- Over the tables of the two-part functions. -/
def tTw : Tree Lf := .dn (.f 0 (.k 9)) <| .dn (.f 1 (.k 1)) <| .dn (.f 2 (.mul 0 0)) <| .dn (.f 3 (.mul 1 1)) <| .dn (.f 4 (.add 2 3)) <| .dn (.f 5 (.fn 0 [4])) <| .dn (.f 6 (.mul 0 5)) <| .dn (.f 7 (.mul 1 5)) <| .dn (.f 8 (.k 0)) <| .dn (.f 9 (.sub 8 7)) <|
  .dn (.f 10 (.k 3)) <| .dn (.f 11 (.k 0)) <| .dn (.f 12 (.mul 10 6)) <| .dn (.f 13 (.mul 11 9)) <| .dn (.f 14 (.sub 12 13)) <| .dn (.f 15 (.mul 10 9)) <| .dn (.f 16 (.mul 11 6)) <| .dn (.f 17 (.add 15 16)) <| lf2 14 17
section
variable {P : Program} {qf pf : QSum}
theorem ee2_of (hm : P.follows .mixedOrders = true) (hnum : NumOk P) (hq : QOk P qf) (hp : POk P pf) {f : FuncId} {t : Tree Lf} {op : F2 → F2 → F2} (h : sxCall P qf pf 5000 f [.one (.agg (eps 0 ++ eps 1)), .one (.agg (eps 2 ++ eps 3))] (hp0 [] 0 4) leafE = some t)
    (hbd : t.bd 0 0 4 = true) (law : ∀ (e : Env) (a b : F2), e.f 0 = a.1 → e.f 1 = a.2 → e.f 2 = b.1 → e.f 3 = b.2 → t.goal e fun l => (∀ β, l.1.den β e = elsV [(op a b).1, (op a b).2]) ∧ l.2 = []) : EE2C P f false op := fun a b w =>
  quiet_els (fs := fsOf [a.1, a.2, b.1, b.2]) hm hnum hq hp h hbd rfl rfl
    (fun e he => law e a b (he 0 (by omega)) (he 1 (by omega)) (he 2 (by omega)) (he 3 (by omega))) rfl w
theorem e1_of (hm : P.follows .mixedOrders = true) (hnum : NumOk P) (hq : QOk P qf) (hp : POk P pf) {f : FuncId} {t : Tree Lf} {op : F2 → F2} (h : sxCall P qf pf 5000 f [.one (.agg (eps 0 ++ eps 1))] (hp0 [] 0 2) leafE = some t)
    (hbd : t.bd 0 0 2 = true) (law : ∀ (e : Env) (a : F2), e.f 0 = a.1 → e.f 1 = a.2 → t.goal e fun l => (∀ β, l.1.den β e = elsV [(op a).1, (op a).2]) ∧ l.2 = []) : E1C P f false op := fun a w =>
  quiet_els (fs := fsOf [a.1, a.2]) hm hnum hq hp h hbd rfl rfl
    (fun e he => law e a (he 0 (by omega)) (he 1 (by omega))) rfl w
theorem mulE_of (hm : P.follows .mixedOrders = true) (hnum : NumOk P) (hq : QOk P qf) (hp : POk P pf) {f : FuncId} (h : sxCall P qf pf 5000 f [.one (.agg (eps 0 ++ eps 1)), .one (.agg (eps 2 ++ eps 3))] (hp0 [] 0 4) leafE = some tMulE) : EE2C P f false F2.mul :=
  ee2_of hm hnum hq hp h rfl fun e a b e0 e1 e2 e3 d4 d5 d6 d7 d8 d9 => by
    have d4 : e.f 4 = e.f 0 * e.f 2 := d4
    have d5 : e.f 5 = e.f 1 * e.f 3 := d5
    have d6 : e.f 6 = e.f 4 - e.f 5 := d6
    have d7 : e.f 7 = e.f 0 * e.f 3 := d7
    have d8 : e.f 8 = e.f 1 * e.f 2 := d8
    have d9 : e.f 9 = e.f 7 + e.f 8 := d9
    refine lf2_goal ?_ ?_
    · rw [d6, d4, d5, e0, e1, e2, e3]; rfl
    · rw [d9, d7, d8, e0, e1, e2, e3]; rfl
theorem addE_of (hm : P.follows .mixedOrders = true) (hnum : NumOk P) (hq : QOk P qf) (hp : POk P pf) {f : FuncId} (h : sxCall P qf pf 5000 f [.one (.agg (eps 0 ++ eps 1)), .one (.agg (eps 2 ++ eps 3))] (hp0 [] 0 4) leafE = some tAddE) : EE2C P f false F2.add :=
  ee2_of hm hnum hq hp h rfl fun e a b e0 e1 e2 e3 d4 d5 => by
    have d4 : e.f 4 = e.f 0 + e.f 2 := d4
    have d5 : e.f 5 = e.f 1 + e.f 3 := d5
    refine lf2_goal ?_ ?_
    · rw [d4, e0, e2]; rfl
    · rw [d5, e1, e3]; rfl
theorem subE_of (hm : P.follows .mixedOrders = true) (hnum : NumOk P) (hq : QOk P qf) (hp : POk P pf) {f : FuncId} (h : sxCall P qf pf 5000 f [.one (.agg (eps 0 ++ eps 1)), .one (.agg (eps 2 ++ eps 3))] (hp0 [] 0 4) leafE = some tSubE) : EE2C P f false F2.sub :=
  ee2_of hm hnum hq hp h rfl fun e a b e0 e1 e2 e3 d4 d5 => by
    have d4 : e.f 4 = e.f 0 - e.f 2 := d4
    have d5 : e.f 5 = e.f 1 - e.f 3 := d5
    refine lf2_goal ?_ ?_
    · rw [d4, e0, e2]; rfl
    · rw [d5, e1, e3]; rfl
theorem dfn0 {e : Env} {n k : Nat} (h : (Dn.f n (.fn 0 [k])).holds e) : e.f n = finv (e.f k) := by
  rw [← fn0]
  exact h
theorem inv_goal {e : Env} {a : F2} {i : Nat} {x y n2 n3 n4 n5 n6 n7 n8 n9 : Fq} (hx : x = a.1) (hy : y = a.2) (d2 : n2 = x * x) (d3 : n3 = y * y) (d4 : n4 = n2 + n3) (d5 : n5 = finv n4) (d6 : n6 = x * n5) (d7 : n7 = y * n5) (d8 : n8 = 0) (d9 : n9 = n8 - n7) : n6 = (F2.inv a).1 ∧ n9 = (F2.inv a).2 := by
  rw [d9, d8, d7, d6, d5, d4, d3, d2, hx, hy]
  simp only [F2.inv, and_self]
theorem invE_of (hm : P.follows .mixedOrders = true) (hnum : NumOk P) (hq : QOk P qf) (hp : POk P pf) {f : FuncId} (h : sxCall P qf pf 5000 f [.one (.agg (eps 0 ++ eps 1))] (hp0 [] 0 2) leafE = some tInvE) : E1C P f false F2.inv :=
  e1_of hm hnum hq hp h rfl fun e a e0 e1 d2 d3 d4 d5 d6 d7 d8 d9 => by
    obtain ⟨g1, g2⟩ := inv_goal (e := e) (i := 0) e0 e1 d2 d3 d4 (dfn0 d5) d6 d7 d8 d9
    exact lf2_goal g1 g2
theorem tw_eq {z : F2} (h : F2.inv (9, 1) = z) : tw = (3 * z.1 - 0 * z.2, 3 * z.2 + 0 * z.1) := by
  unfold tw
  rw [h]
  rfl
theorem tw_of (hm : P.follows .mixedOrders = true) (hnum : NumOk P) (hq : QOk P qf) (hp : POk P pf) {f : FuncId} (h : sxCall P qf pf 5000 f [] (hp0 [] 0 0) leafE = some tTw) : E0C P f tw := fun w => by
  have key := quiet_els (fs := fsOf []) (u := elsV [tw.1, tw.2]) hm hnum hq hp h (by decide +kernel) rfl rfl
    (fun e _ d0 d1 d2 d3 d4 d5 d6 d7 d8 d9 d10 d11 d12 d13 d14 d15 d16 d17 => by
      have d0 : e.f 0 = 9 := d0
      have d1 : e.f 1 = 1 := d1
      obtain ⟨g1, g2⟩ := inv_goal (e := e) (i := 0) (a := (9, 1)) d0 d1 d2 d3 d4 (dfn0 d5) d6 d7 d8 d9
      generalize hz : F2.inv (9, 1) = z at g1 g2
      rw [tw_eq hz]
      have d10 : e.f 10 = 3 := d10
      have d11 : e.f 11 = 0 := d11
      have d12 : e.f 12 = e.f 10 * e.f 6 := d12
      have d13 : e.f 13 = e.f 11 * e.f 9 := d13
      have d14 : e.f 14 = e.f 12 - e.f 13 := d14
      have d15 : e.f 15 = e.f 10 * e.f 9 := d15
      have d16 : e.f 16 = e.f 11 * e.f 6 := d16
      have d17 : e.f 17 = e.f 15 + e.f 16 := d17
      refine lf2_goal ?_ ?_
      · rw [d14, d12, d13, d10, d11, g1, g2]
      · rw [d17, d15, d16, d10, d11, g1, g2]) (vs := []) rfl w
  exact key
end
end Go.Sx
namespace Go.Sx
open Go
set_option maxRecDepth 100000
/-! ### The second curve's test -/
def on2B : List (List Nat) → Option BE
  | [[i, j, k, l]] => some (.fn 2 [i, j, k, l])
  | _ => none
def On2C (P : Program) (f : FuncId) : Prop := ∀ (x x' y y' : Fq) (w : World), QuietRun P (callFunc f #[elsV [x, x', y, y']]) (.bool (btab 2 [x, x', y, y'])) w
theorem on2_q {P : Program} {fn : FuncId} (hc : On2C P fn) : QOk P (tsF fn on2B) :=
  tsF_q fun is b h e w => by
    unfold on2B at h
    split at h
    · cases h; exact hc _ _ _ _ w
    · cases h
def On2P (x x' y y' : Fq) : Prop := (((x = 0 ∧ x' = 0) ∧ y = 0) ∧ y' = 0) ∨ F2.mul (y, y') (y, y') = F2.add (F2.mul (x, x') (F2.mul (x, x') (x, x'))) tw
instance (x x' y y' : Fq) : Decidable (On2P x x' y y') := inferInstanceAs (Decidable (_ ∨ _))
theorem btab2 (x x' y y' : Fq) : btab 2 [x, x', y, y'] = decide (On2P x x' y y') := rfl
def tOn2b : Tree Lf :=
  .dn (.f 4 (.mul 2 2)) <| .dn (.f 5 (.mul 3 3)) <| .dn (.f 6 (.sub 4 5)) <| .dn (.f 7 (.mul 2 3)) <| .dn (.f 8 (.mul 3 2)) <| .dn (.f 9 (.add 7 8)) <|
  .dn (.f 10 (.mul 0 0)) <| .dn (.f 11 (.mul 1 1)) <| .dn (.f 12 (.sub 10 11)) <| .dn (.f 13 (.mul 0 1)) <| .dn (.f 14 (.mul 1 0)) <| .dn (.f 15 (.add 13 14)) <|
  .dn (.f 16 (.mul 0 12)) <| .dn (.f 17 (.mul 1 15)) <| .dn (.f 18 (.sub 16 17)) <| .dn (.f 19 (.mul 0 15)) <| .dn (.f 20 (.mul 1 12)) <| .dn (.f 21 (.add 19 20)) <|
  .dn (.f 22 (.k TW1)) <| .dn (.f 23 (.k TW2)) <| .dn (.f 24 (.add 18 22)) <| .dn (.f 25 (.add 21 23)) <|
  .leaf (.one (.at (.bool (.and (.fe 6 24) (.fe 9 25)))), [])
def tOn2 : Tree Lf := .br (.fz 0) (.br (.fz 1) (.br (.fz 2) (.br (.fz 3) (.leaf (.one (.at (.bool (.c true))), [])) tOn2b) tOn2b) tOn2b) tOn2b
theorem f2mul (a b : F2) : F2.mul a b = (a.1 * b.1 - a.2 * b.2, a.1 * b.2 + a.2 * b.1) := rfl
theorem f2add (a b : F2) : F2.add a b = (a.1 + b.1, a.2 + b.2) := rfl
theorem tOn2b_law {e : Env} {x x' y y' : Fq} (h0 : e.f 0 = x) (h1 : e.f 1 = x') (h2 : e.f 2 = y) (h3 : e.f 3 = y') (hn : ¬ (((x = 0 ∧ x' = 0) ∧ y = 0) ∧ y' = 0)) : tOn2b.goal e fun l => (∀ β, l.1.den β e = .bool (btab 2 [x, x', y, y'])) ∧ l.2 = [] := by
  intro d4 d5 d6 d7 d8 d9 d10 d11 d12 d13 d14 d15 d16 d17 d18 d19 d20 d21 d22 d23 d24 d25
  have d4 : e.f 4 = e.f 2 * e.f 2 := d4
  have d5 : e.f 5 = e.f 3 * e.f 3 := d5
  have d6 : e.f 6 = e.f 4 - e.f 5 := d6
  have d7 : e.f 7 = e.f 2 * e.f 3 := d7
  have d8 : e.f 8 = e.f 3 * e.f 2 := d8
  have d9 : e.f 9 = e.f 7 + e.f 8 := d9
  have d10 : e.f 10 = e.f 0 * e.f 0 := d10
  have d11 : e.f 11 = e.f 1 * e.f 1 := d11
  have d12 : e.f 12 = e.f 10 - e.f 11 := d12
  have d13 : e.f 13 = e.f 0 * e.f 1 := d13
  have d14 : e.f 14 = e.f 1 * e.f 0 := d14
  have d15 : e.f 15 = e.f 13 + e.f 14 := d15
  have d16 : e.f 16 = e.f 0 * e.f 12 := d16
  have d17 : e.f 17 = e.f 1 * e.f 15 := d17
  have d18 : e.f 18 = e.f 16 - e.f 17 := d18
  have d19 : e.f 19 = e.f 0 * e.f 15 := d19
  have d20 : e.f 20 = e.f 1 * e.f 12 := d20
  have d21 : e.f 21 = e.f 19 + e.f 20 := d21
  have d22 : e.f 22 = F TW1 := d22
  have d23 : e.f 23 = F TW2 := d23
  have d24 : e.f 24 = e.f 18 + e.f 22 := d24
  have d25 : e.f 25 = e.f 21 + e.f 23 := d25
  refine ⟨fun β => ?_, rfl⟩
  rw [btab2]
  show Value.bool (decide (e.f 6 = e.f 24) && decide (e.f 9 = e.f 25)) = _
  congr 1
  rw [← Bool.decide_and, decide_eq_decide]
  unfold On2P
  rw [tw_val, d6, d9, d24, d25, d4, d5, d7, d8, d18, d21, d16, d17, d19, d20, d12, d15, d10, d11, d13, d14, d22, d23, h0, h1, h2, h3, f2mul, f2mul, f2mul, f2add, Prod.mk.injEq]
  exact ⟨.inr, fun h => h.resolve_left hn⟩
theorem tOn2_law {e : Env} {x x' y y' : Fq} (h0 : e.f 0 = x) (h1 : e.f 1 = x') (h2 : e.f 2 = y) (h3 : e.f 3 = y') : tOn2.goal e fun l => (∀ β, l.1.den β e = .bool (btab 2 [x, x', y, y'])) ∧ l.2 = [] := by
  refine ⟨fun g0 => ⟨fun g1 => ⟨fun g2 => ⟨fun g3 => ?_, fun g3 => tOn2b_law h0 h1 h2 h3 fun h => of_decide_eq_false g3 (h3.trans h.2)⟩, fun g2 => tOn2b_law h0 h1 h2 h3 fun h => of_decide_eq_false g2 (h2.trans h.1.2)⟩,
    fun g1 => tOn2b_law h0 h1 h2 h3 fun h => of_decide_eq_false g1 (h1.trans h.1.1.2)⟩, fun g0 => tOn2b_law h0 h1 h2 h3 fun h => of_decide_eq_false g0 (h0.trans h.1.1.1)⟩
  refine ⟨fun β => ?_, rfl⟩
  rw [btab2]
  have hp : On2P x x' y y' := .inl ⟨⟨⟨h0.symm.trans (of_decide_eq_true g0), h1.symm.trans (of_decide_eq_true g1)⟩, h2.symm.trans (of_decide_eq_true g2)⟩, h3.symm.trans (of_decide_eq_true g3)⟩
  rw [decide_eq_true hp]
  rfl
section
variable {P : Program} {qf pf : QSum}
theorem on2_of (hm : P.follows .mixedOrders = true) (hnum : NumOk P) (hq : QOk P qf) (hp : POk P pf) {f : FuncId} (h : sxCall P qf pf 5000 f [.one (.agg (eps 0 ++ eps 1 ++ eps 2 ++ eps 3))] (hp0 [] 0 4) leafE = some tOn2) : On2C P f := fun x x' y y' w => by
  have key := quiet_els (fs := fsOf [x, x', y, y']) (u := .bool (btab 2 [x, x', y, y'])) hm hnum hq hp h (by decide +kernel) rfl rfl (fun e he => tOn2_law (he 0 (by omega)) (he 1 (by omega)) (he 2 (by omega)) (he 3 (by omega))) (vs := [elsV [x, x', y, y']]) rfl w
  exact key
end
/-! ### FnG2Equal -/
def same4 : BE := .and (.and (.fe 0 4) (.fe 1 5)) (.and (.fe 2 6) (.fe 3 7))
def tEqual2 : Tree Lf :=
  .br (.fn 2 [0, 1, 2, 3]) (.br (.fn 2 [4, 5, 6, 7]) (.br (.fe 0 4) (.br (.fe 1 5) (.br (.fe 2 6)
    (lfB (.or (.and (.fe 3 7) same4) (.and (.not (.fe 3 7)) (.not same4))))
    (lfB (.not same4))) (lfB (.not same4))) (lfB (.not same4))) lfT) lfT
theorem equal2_law (e : Env) : tEqual2.goal e (IsTrue e) := by
  refine ⟨fun _ => ⟨fun _ => ⟨fun h0 => ⟨fun h1 => ⟨fun h2 => lfB_goal ?_, fun h => lfB_goal ?_⟩, fun h => lfB_goal ?_⟩, fun h => lfB_goal ?_⟩, fun _ => lfT_goal⟩, fun _ => lfT_goal⟩
  · simp only [BE.den, same4] at h0 h1 h2 ⊢
    rw [h0, h1, h2]
    cases decide (e.f 3 = e.f 7) <;> rfl
  · simp only [BE.den, same4] at h ⊢
    rw [h]
    cases decide (e.f 0 = e.f 4) <;> cases decide (e.f 1 = e.f 5) <;> rfl
  · simp only [BE.den, same4] at h ⊢
    rw [h]
    cases decide (e.f 0 = e.f 4) <;> rfl
  · simp only [BE.den, same4] at h ⊢
    rw [h]
    rfl
end Go.Sx
