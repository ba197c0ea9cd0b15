import Derived.Test.YtolmolkcjoibiaaDoorSd
import Derived.Test.YtolmolkcjoibiaaDoorSda
/- Aids to the claim: what is shown here is said at each theorem. -/
namespace Go.Sx
open Go

/-! ### What has been reckoned on the way -/
inductive FD where
  | add (a b : Nat) | sub (a b : Nat) | mul (a b : Nat) | neg (a : Nat) | pow (a n : Nat) | k (n : Nat) | w (a b c d : IE) | wm (a b c d : IE) | fn (k : Nat) (l : List Nat)
def FD.ev (e : Env) : FD → Fq
  | .add a b => e.f a + e.f b
  | .sub a b => e.f a - e.f b
  | .mul a b => e.f a * e.f b
  | .neg a => - e.f a
  | .pow a n => fpow (e.f a) n
  | .k n => Fin.ofNat q n
  | .w x y z t => Fin.ofNat q (v4 (x.den e) (y.den e) (z.den e) (t.den e)).toNat
  | .wm x y z t => unmont (v4 (x.den e) (y.den e) (z.den e) (t.den e)).toNat
  | .fn m l => ftab m (l.map e.f)
/-- A definition: of a number; of a sum with its carry, a difference with its borrow, a product's two words; of an element; of a truth. -/
inductive Dn where
  | i (n : Nat) (d : ID)
  | ad (n nb : Nat) (x y z : IE)
  | sb (n nb : Nat) (x y z : IE)
  | mu (nh nl : Nat) (x y : IE)
  | f (n : Nat) (d : FD)
  | b (n : Nat) (x : BE)
def Dn.holds (e : Env) : Dn → Prop
  | .i n d => e.i n = d.ev (IE.den e)
  | .ad n m x y z => e.i n = (x.den e + y.den e + z.den e) % 18446744073709551616 ∧ e.b m = decide (18446744073709551616 ≤ x.den e + y.den e + z.den e)
  | .sb n m x y z => e.i n = (x.den e - y.den e - z.den e) % 18446744073709551616 ∧ e.b m = decide (x.den e < y.den e + z.den e)
  | .mu n m x y => e.i n = x.den e * y.den e / 18446744073709551616 ∧ e.i m = x.den e * y.den e % 18446744073709551616
  | .f n d => e.f n = d.ev e
  | .b n x => e.b n = x.den e
inductive Tree (L : Type) where
  | leaf (l : L)
  | no
  | dn (d : Dn) (t : Tree L)
  | br (b : BE) (t f : Tree L)
def Tree.holds {L : Type} (e : Env) (Φ : L → Prop) : Tree L → Prop
  | .leaf l => Φ l
  | .no => False
  | .dn d t => d.holds e ∧ t.holds e Φ
  | .br b t f => (b.den e = true → t.holds e Φ) ∧ (b.den e = false → f.holds e Φ)
def dns {L : Type} : List Dn → Option (Tree L) → Option (Tree L)
  | [], t => t
  | d :: ds, t => (dns ds t).map (Tree.dn d)
theorem dns_holds {L : Type} {e : Env} {Φ : L → Prop} : ∀ {ds : List Dn} {t : Option (Tree L)} {u : Tree L}, dns ds t = some u → u.holds e Φ →
    (∀ d ∈ ds, d.holds e) ∧ ∃ v, t = some v ∧ v.holds e Φ
  | [], t, u, h, hu => ⟨by simp, u, h, hu⟩
  | d :: ds, t, u, h, hu => by
    obtain ⟨v, hv, rfl⟩ := Option.map_eq_some_iff.1 h
    obtain ⟨h1, h2⟩ := dns_holds hv hu.2
    refine ⟨fun x hx => ?_, h2⟩
    rcases List.mem_cons.1 hx with hx | hx
    · subst hx; exact hu.1
    · exact h1 x hx

/-! ### Open tests -/
/-- A test that the facts leave open. -/
def BE.atom (fs : List (BE × Bool)) : BE → Option BE
  | .c _ => none
  | .not x => x.atom fs
  | .and x y => match x.nb fs with
    | none => x.atom fs
    | some _ => y.atom fs
  | .or x y => match x.nb fs with
    | none => x.atom fs
    | some _ => y.atom fs
  | x => match look fs x with
    | none => some x
    | some _ => none

def withF (h : Hp) (fs : List (BE × Bool)) : Hp := { h with facts := fs }
def decideB {L : Type} : Nat → BE → Hp → (Bool → Hp → Option (Tree L)) → Option (Tree L)
  | 0, _, _, _ => none
  | n + 1, x, h, k => match x.nb h.facts with
    | some b => k b h
    | none => match x.atom h.facts with
      | some y => match decideB n x (withF h ((y, true) :: h.facts)) k, decideB n x (withF h ((y, false) :: h.facts)) k with
        | some t, some f => some (.br y t f)
        | _, _ => none
      | none => none

theorem HRel.withF {w0 : World} {e : Env} {β : Nat → Nat} {h : Hp} {w : World} (hr : HRel w0 e β h w) {fs : List (BE × Bool)} (hf : Facts e fs) : HRel w0 e β (withF h fs) w :=
  ⟨hr.tape, hr.os, hr.output, hr.size, hr.blk, hr.inj, hr.old, hr.logok, hr.extb, hr.ext, hr.frz, hr.dis, hr.gl, hf⟩

theorem decideB_sound {L : Type} {w0 : World} {e : Env} {β : Nat → Nat} {w : World} {Φ : L → Prop} {C : Prop} : ∀ (n : Nat) {x : BE} {h : Hp} {k : Bool → Hp → Option (Tree L)} {tree : Tree L},
    decideB n x h k = some tree → tree.holds e Φ → HRel w0 e β h w →
    (∀ b fs tree', HRel w0 e β (withF h fs) w → x.den e = b → k b (withF h fs) = some tree' → tree'.holds e Φ → C) → C
  | 0, _, _, _, _, hd, _, _, _ => by cases hd
  | n + 1, x, h, k, tree, hd, ht, hr, hk => by
    unfold decideB at hd
    split at hd
    · rename_i b hb
      exact hk b h.facts tree hr (BE.nb_sound hr.facts hb) hd ht
    · split at hd
      · rename_i y hy
        split at hd
        · rename_i t f h1 h2
          cases hd
          cases hyb : y.den e with
          | true =>
            have hr' : HRel w0 e β (withF h ((y, true) :: h.facts)) w := hr.withF fun z hz => by
              rcases List.mem_cons.1 hz with hz | hz
              · subst hz; exact hyb
              · exact hr.facts z hz
            exact decideB_sound n h1 (ht.1 hyb) hr' fun b fs tree' h1 h2 h3 h4 => hk b fs tree' h1 h2 h3 h4
          | false =>
            have hr' : HRel w0 e β (withF h ((y, false) :: h.facts)) w := hr.withF fun z hz => by
              rcases List.mem_cons.1 hz with hz | hz
              · subst hz; exact hyb
              · exact hr.facts z hz
            exact decideB_sound n h2 (ht.2 hyb) hr' fun b fs tree' h1 h2 h3 h4 => hk b fs tree' h1 h2 h3 h4
        · cases hd
      · cases hd

/-! ### The walk -/
structure St where
  tm : T SV
  n : Nat
  h : Hp
inductive Xt where
  | normal | exit (id : Nat) | ret
def Xt.ex : Xt → Exit
  | .normal => .normal
  | .exit id => .exit id
  | .ret => .ret

abbrev QSum := FuncId → List SV → Hp → Option (List Dn × SV × Hp)

def putS (st : St) (h : Hp) (dst : Option Tmp) (v : SV) : Option St :=
  match dst with
  | none => some { st with h := h }
  | some d => bif Nat.blt d st.n then some { tm := st.tm.set d v, n := st.n, h := h } else none
def evs (tm : T SV) : List Operand → Option (List SV)
  | [] => some []
  | x :: xs => match evO tm x, evs tm xs with
    | some s, some l => some (s :: l)
    | _, _ => none
def newH {L : Type} (h : Hp) (cells : List Atom) (t : TypeId) (k : SV → Hp → Option (Tree L)) : Option (Tree L) :=
  k (.one (.at (.ptr ⟨.own h.cnt, 0⟩))) (allocH h cells t)

def newS {L : Type} (h : Hp) (cells : List Atom) (t : TypeId) (l c : Nat) (k : SV → Hp → Option (Tree L)) : Option (Tree L) :=
  k (.one (.at (.slice ⟨.own h.cnt, 0⟩ l c))) (allocH h cells t)
/-- A row of zero values. -/
def repL (z : List Atom) (m : Nat) : List Atom := (List.range m).map fun j => z.getD (j % z.length) (.bool (.c false))
/-- The cells of a slice that is built. -/
def bsCells (P : Program) (el : TypeId) (len : Nat) (l : List (Nat × SV)) : Option (List Atom) :=
  match P.info? el, zeroT P el with
  | some i, some z => bif Nat.blt 0 (len * i.size) && Nat.ble (len * i.size) 16777216 && Nat.blt 0 z.length then fillA (fun j => some (j * i.size, i.size)) (repL z (len * i.size)) l else bif Nat.beq (len * i.size) 0 && l.isEmpty then some [] else none
  | _, _ => none
def msCells (P : Program) (el : TypeId) (l c : Int) : Option (List Atom) :=
  match P.info? el, zeroT P el with
  | some i, some z => bif decide (0 ≤ l) && decide (l ≤ c) && decide (c ≤ 1048576) && Nat.blt 0 (c.toNat * i.size) && Nat.ble (c.toNat * i.bytes) 16777216 && Nat.blt 0 z.length then some (repL z (c.toNat * i.size)) else none
  | _, _ => none
def inRs : SV → Bool
  | .one (.at (.int k (.c n))) => inRb k n
  | _ => false
/-- Where a slice lies, how long it is. -/
def seqOf : SV → Option (SA × Nat)
  | .one (.at (.slice b n _)) => some (b, n)
  | .one (.at (.slc b n _ _)) => some (b, n)
  | _ => none
/-- len and cap. -/
def bltn (P : Program) (b : Builtin) (ts : Array TypeId) (args : List SV) : Option SV :=
  match ts[0]?, args with
  | some t, [x] => match P.underlying t, seqOf x with
    | some (.slice _), some (_, l) => match b with
      | .len => some (.one (.at (.int .i64 (.c l))))
      | _ => none
    | _, _ => none
  | _, _ => none

/-- max and min of two whole numbers. -/
def mmOp {L : Type} (b : Builtin) (args : List SV) (h : Hp) (k : SV → Hp → Option (Tree L)) : Option (Tree L) :=
  match b, args with
  | .max, [.one (.at (.int t x)), .one (.at (.int t' y))] => bif decide (t = t') then decideB 20 (ltI x y) h fun c h => k (.one (.at (.int t (bif c then y else x)))) h else none
  | .min, [.one (.at (.int t x)), .one (.at (.int t' y))] => bif decide (t = t') then decideB 20 (ltI y x) h fun c h => k (.one (.at (.int t (bif c then y else x)))) h else none
  | _, _ => none
/-- append of a row to a slice that has no room for it: of bytes alone. -/
def appOp {L : Type} (P : Program) (types : List TypeId) (args : List SV) (h : Hp) (k : SV → Hp → Option (Tree L)) : Option (Tree L) :=
  match types, args with
  | [t, t'], [.one (.at (.slice a l c)), y] => bif Nat.beq t t' then match P.underlying t, seqOf y with
      | some (.slice el), some (b, n) => match P.info? el with
        | some i => bif Nat.beq i.size 1 && Nat.beq i.bytes 1 && Nat.blt c (l + n) && Nat.ble (l + n) 1000 && i.zero.isSome then match rd h a l, rd h b n with
            | some x, some z => k (.one (.at (.slc ⟨.own h.cnt, 0⟩ (l + n) (l + n) (h.cnt + 1)))) { allocH h (x ++ z) el with cnt := h.cnt + 1 + 1 }
            | _, _ => none
          else none
        | none => none
      | _, _ => none
    else none
  | _, _ => none
/-- copy of a row of bytes. -/
def copyOp {L : Type} (P : Program) (types : List TypeId) (args : List SV) (h : Hp) (k : SV → Hp → Option (Tree L)) : Option (Tree L) :=
  match types, args with
  | [t, _], [x, y] => match P.underlying t, seqOf x, seqOf y with
    | some (.slice el), some (a, l), some (b, n) => match P.info? el with
      | some i => bif Nat.beq i.size 1 && Nat.ble (Nat.min n l) 1000 then match rd h b (Nat.min n l) with
          | some cs => match wr h a.root a.off cs with
            | some h' => k (.one (.at (.int .i64 (.c (cs.length : Int))))) h'
            | none => none
          | none => none
        else none
      | none => none
    | _, _, _ => none
  | _, _ => none
def bOp {L : Type} (P : Program) (types : List TypeId) (b : Builtin) (args : List SV) (h : Hp) (k : SV → Hp → Option (Tree L)) : Option (Tree L) :=
  match b with
  | .append => appOp P types args h k
  | .copy => copyOp P types args h k
  | b => mmOp b args h k
section
variable {L : Type} (P : Program) (qf pf : QSum) (callF : FuncId → List SV → Hp → (SV → Hp → Option (Tree L)) → Option (Tree L))

/-- What is neither pure nor a definition. -/
def effOp (g : Bool) (tm : T SV) (h : Hp) (k : SV → Hp → Option (Tree L)) : Op → Option (Tree L)
  | .load t a => match ap1 (loadOp P h t) (evO tm a) with
    | some s => k s h
    | none => none
  | .store t a v => match evO tm a, evO tm v with
    | some a, some v => match storeOp P h t a v with
      | some h' => k (.tup []) h'
      | none => none
    | _, _ => none
  | .alloc t => match zeroT P t with
    | some cs => newH h cs t k
    | none => none
  | .box t x => bif g then none else match evO tm x with
    | some s => match cellsOf s with
      | some cs => newH h cs t k
      | none => none
    | none => none
  | .call c => match c.callee with
    | .value (.func f) => match evs tm c.args.toList with
      | some args => match qf f args h with
        | some (ds, v, h') => dns ds (k v h')
        | none => bif g || Nat.beq f pFn then none else match pf f args h with
          | some (ds, v, h') => dns ds (k v h')
          | none => callF f args h k
      | none => none
    | .builtin b => match evs tm c.args.toList with
      | some args => match bltn P b c.argTypes args with
        | some v => bif inRs v then k v h else none
        | none => bif g then none else bOp P c.argTypes.toList b args h k
      | none => none
    | _ => none
  | .buildSlice t len ps => bif g then none else match P.underlying t, evPs tm ps.toList with
    | some (.slice el), some l => match bsCells P el len l with
      | some cs => newS h cs el len len k
      | none => none
    | _, _ => none
  | .makeSlice t l c => bif g then none else match P.underlying t, evO tm l, evO tm c with
    | some (.slice el), some (.one (.at (.int _ (.c l)))), some (.one (.at (.int _ (.c c)))) => match msCells P el l c with
      | some cs => newS h cs el l.toNat c.toNat k
      | none => none
    | _, _, _ => none
  | _ => none

def doOp (g : Bool) (tm : T SV) (h : Hp) (op : Op) (k : SV → Hp → Option (Tree L)) : Option (Tree L) :=
  match pureOp P h.facts tm op with
  | some s => k s h
  | none => match defOp P tm op with
    | some d => match d.cst with
      | some c => k (.one (.at (.int d.kind (.c c)))) h
      | none => (k (.one (.at (.int d.kind (.v h.ni)))) { h with ni := h.ni + 1 }).map (Tree.dn (.i h.ni d))
    | none => effOp P qf pf callF g tm h k op

/-- Is the operation wanted? -/
def wantB (opsL : List Oper) (tm : T SV) (h : Hp) (o : Oper) (k : Bool → Hp → Option (Tree L)) : Option (Tree L) :=
  match o.guard with
  | none => k true h
  | some (j, want) => match opsL[j]? with
    | some oj => match oj.dst with
      | some d => match tm.get d with
        | some (.one (.at (.bool b))) => decideB 20 b h fun t h => k (t == want) h
        | some (.tup _) => k false h
        | _ => none
      | none => none
    | none => none

def sxOps (g : Bool) (opsL : List Oper) : List Oper → St → (St → Option (Tree L)) → Option (Tree L)
  | [], st, k => k st
  | o :: rest, st, k => wantB opsL st.tm st.h o fun want h =>
    bif want then doOp P qf pf callF g st.tm h o.op fun v h' => match putS st h' o.dst v with
      | some st' => sxOps g opsL rest st' k
      | none => none
    else match putS st h o.dst (.tup []) with
      | some st' => sxOps g opsL rest st' k
      | none => none
end

def argsT : List SV → Nat → T SV → T SV
  | [], _, t => t
  | s :: l, i, t => argsT l (i + 1) (t.set i s)
def resV (P : Program) (tm : T SV) (h : Hp) : ResultVar → Option SV1
  | .tmp t => match tm.get t with
    | some (.one x) => some x
    | _ => none
  | .cell a t => match ap1 (loadOp P h t) (tm.get a) with
    | some (.one x) => some x
    | _ => none
def resVs (P : Program) (tm : T SV) (h : Hp) : List ResultVar → Option (List SV1)
  | [] => some []
  | r :: rs => match resV P tm h r, resVs P tm h rs with
    | some x, some l => some (x :: l)
    | _, _ => none
def resS : List SV1 → SV
  | [x] => .one x
  | l => .tup l

/-- A region that draws: the way to walk it. -/
def wayOf (draw : Bool) (ops : Array Oper) : Option Bool :=
  bif draw then (bif okDraw false ops then some false else bif okDraw true ops then some true else none) else some false

/-! ### When two walks are the same -/
def eqRoot : Root → Root → Bool
  | .own i, .own j => Nat.beq i j
  | .ext i, .ext j => Nat.beq i j
  | .glob i, .glob j => Nat.beq i j
  | _, _ => false
def eqSA (a b : SA) : Bool := eqRoot a.root b.root && Nat.beq a.off b.off
def eqVal : Value → Value → Bool
  | .nilIface, .nilIface => true
  | .pointer none, .pointer none => true
  | .slice none 0 0, .slice none 0 0 => true
  | _, _ => false
def eqAtom : Atom → Atom → Bool
  | .int k x, .int k' y => decide (k = k') && IE.beq x y
  | .bool x, .bool y => BE.beq x y
  | .ptr a, .ptr b => eqSA a b
  | .slice a l c, .slice b l' c' => eqSA a b && Nat.beq l l' && Nat.beq c c'
  | .slc a l m k, .slc b l' m' k' => eqSA a b && Nat.beq l l' && Nat.beq m m' && Nat.beq k k'
  | .lit v, .lit u => eqVal v u
  | .iface t a, .iface t' b => Nat.beq t t' && eqAtom a b
  | _, _ => false
def eqL {α : Type} (f : α → α → Bool) : List α → List α → Bool
  | [], [] => true
  | x :: l, y :: l' => f x y && eqL f l l'
  | _, _ => false
def eqSV1 : SV1 → SV1 → Bool
  | .at a, .at b => eqAtom a b
  | .agg l, .agg l' => eqL eqAtom l l'
  | _, _ => false
def eqSV : SV → SV → Bool
  | .one x, .one y => eqSV1 x y
  | .tup l, .tup l' => eqL eqSV1 l l'
  | _, _ => false
def eqOO {α : Type} (f : α → α → Bool) : Option α → Option α → Bool
  | none, none => true
  | some x, some y => f x y
  | _, _ => false
def eqTT {α : Type} (f : α → α → Bool) : T α → T α → Bool
  | .leaf, .leaf => true
  | .node l x r, .node l' y r' => eqTT f l l' && eqOO f x y && eqTT f r r'
  | _, _ => false
def eqBlk (a b : Blk) : Bool := eqL eqAtom a.cells b.cells && Nat.beq a.ty b.ty
def eqHp (a b : Hp) : Bool := eqTT eqBlk a.blk b.blk && Nat.beq a.cnt b.cnt && Nat.beq a.ni b.ni && Nat.beq a.nb b.nb && Nat.beq a.nf b.nf && eqL (eqL eqAtom) a.ext b.ext &&
  eqL (fun x y => Nat.beq x.1 y.1 && eqAtom x.2 y.2) a.log b.log && eqL (fun x y => BE.beq x.1 y.1 && (x.2 == y.2)) a.facts b.facts
def eqSt (a b : St) : Bool := eqTT eqSV a.tm b.tm && Nat.beq a.n b.n && eqHp a.h b.h
def eqID (a b : ID) : Bool :=
  match a with
  | .ar o k a c => (match b with | .ar o' k' a' c' => decide (o = o') && decide (k = k') && IE.beq a a' && IE.beq c c' | _ => false)
  | .bt o k a c => (match b with | .bt o' k' a' c' => decide (o = o') && decide (k = k') && IE.beq a a' && IE.beq c c' | _ => false)
  | .sh o k a n => (match b with | .sh o' k' a' n' => decide (o = o') && decide (k = k') && IE.beq a a' && Nat.beq n n' | _ => false)
  | .dv o k a n => (match b with | .dv o' k' a' n' => decide (o = o') && decide (k = k') && IE.beq a a' && (n == n') | _ => false)
  | .cv k a => (match b with | .cv k' a' => decide (k = k') && IE.beq a a' | _ => false)
  | .fn k l => (match b with | .fn k' l' => Nat.beq k k' && eqL IE.beq l l' | _ => false)
def eqFD (a b : FD) : Bool :=
  match a with
  | .add a c => (match b with | .add a' c' => Nat.beq a a' && Nat.beq c c' | _ => false)
  | .sub a c => (match b with | .sub a' c' => Nat.beq a a' && Nat.beq c c' | _ => false)
  | .mul a c => (match b with | .mul a' c' => Nat.beq a a' && Nat.beq c c' | _ => false)
  | .neg a => (match b with | .neg a' => Nat.beq a a' | _ => false)
  | .pow a n => (match b with | .pow a' n' => Nat.beq a a' && Nat.beq n n' | _ => false)
  | .k a => (match b with | .k a' => Nat.beq a a' | _ => false)
  | .w x y z u => (match b with | .w x' y' z' u' => IE.beq x x' && IE.beq y y' && IE.beq z z' && IE.beq u u' | _ => false)
  | .wm x y z u => (match b with | .wm x' y' z' u' => IE.beq x x' && IE.beq y y' && IE.beq z z' && IE.beq u u' | _ => false)
  | .fn k l => (match b with | .fn k' l' => Nat.beq k k' && lbeq l l' | _ => false)
def eqDn (a b : Dn) : Bool :=
  match a with
  | .i n d => (match b with | .i n' d' => Nat.beq n n' && eqID d d' | _ => false)
  | .f n d => (match b with | .f n' d' => Nat.beq n n' && eqFD d d' | _ => false)
  | _ => false
def eqTree : Tree St → Tree St → Bool
  | .leaf a, u => (match u with | .leaf b => eqSt a b | _ => false)
  | .dn d t, u => (match u with | .dn d' t' => eqDn d d' && eqTree t t' | _ => false)
  | .br b t f, u => (match u with | .br b' t' f' => BE.beq b b' && eqTree t t' && eqTree f f' | _ => false)
  | .no, _ => false
theorem eqRoot_eq {a b : Root} (h : eqRoot a b = true) : a = b := by
  cases a <;> cases b <;> simp only [eqRoot, Bool.false_eq_true] at h <;> rw [Nat.eq_of_beq_eq_true h]
theorem eqSA_eq {a b : SA} (h : eqSA a b = true) : a = b := by
  obtain ⟨r, o⟩ := a
  obtain ⟨r', o'⟩ := b
  simp only [eqSA, Bool.and_eq_true] at h
  rw [eqRoot_eq h.1, Nat.eq_of_beq_eq_true h.2]
theorem eqVal_eq {v u : Value} (h : eqVal v u = true) : v = u := by
  unfold eqVal at h
  split at h <;> first | rfl | cases h
theorem eqAtom_eq : ∀ {a b : Atom}, eqAtom a b = true → a = b
  | .int k x, .int k' y, h => by
    simp only [eqAtom, Bool.and_eq_true, decide_eq_true_eq] at h
    rw [h.1, IE.beq_eq h.2]
  | .bool x, .bool y, h => by rw [BE.beq_eq (show BE.beq x y = true from h)]
  | .ptr a, .ptr b, h => by rw [eqSA_eq (show eqSA a b = true from h)]
  | .slice a l c, .slice b l' c', h => by
    simp only [eqAtom, Bool.and_eq_true] at h
    rw [eqSA_eq h.1.1, Nat.eq_of_beq_eq_true h.1.2, Nat.eq_of_beq_eq_true h.2]
  | .slc a l m k, .slc b l' m' k', h => by
    simp only [eqAtom, Bool.and_eq_true] at h
    rw [eqSA_eq h.1.1.1, Nat.eq_of_beq_eq_true h.1.1.2, Nat.eq_of_beq_eq_true h.1.2, Nat.eq_of_beq_eq_true h.2]
  | .lit v, .lit u, h => by rw [eqVal_eq (show eqVal v u = true from h)]
  | .iface t a, .iface t' b, h => by
    simp only [eqAtom, Bool.and_eq_true] at h
    rw [Nat.eq_of_beq_eq_true h.1, eqAtom_eq h.2]
theorem eqL_eq {α : Type} {f : α → α → Bool} (hf : ∀ {a b}, f a b = true → a = b) : ∀ {l l' : List α}, eqL f l l' = true → l = l'
  | [], [], _ => rfl
  | x :: l, y :: l', h => by
    simp only [eqL, Bool.and_eq_true] at h
    rw [hf h.1, eqL_eq hf h.2]
theorem eqSV1_eq {a b : SV1} (h : eqSV1 a b = true) : a = b := by
  cases a <;> cases b <;> simp only [eqSV1, Bool.false_eq_true] at h
  · rw [eqAtom_eq h]
  · rw [eqL_eq eqAtom_eq h]
theorem eqSV_eq {a b : SV} (h : eqSV a b = true) : a = b := by
  cases a <;> cases b <;> simp only [eqSV, Bool.false_eq_true] at h
  · rw [eqSV1_eq h]
  · rw [eqL_eq eqSV1_eq h]
theorem eqOO_eq {α : Type} {f : α → α → Bool} (hf : ∀ {a b}, f a b = true → a = b) {x y : Option α} (h : eqOO f x y = true) : x = y := by
  cases x <;> cases y <;> simp only [eqOO, Bool.false_eq_true] at h
  · rfl
  · rw [hf h]
theorem eqTT_eq {α : Type} {f : α → α → Bool} (hf : ∀ {a b}, f a b = true → a = b) : ∀ {t u : T α}, eqTT f t u = true → t = u
  | .leaf, .leaf, _ => rfl
  | .node l x r, .node l' y r', h => by
    simp only [eqTT, Bool.and_eq_true] at h
    rw [eqTT_eq hf h.1.1, eqOO_eq hf h.1.2, eqTT_eq hf h.2]
theorem eqBlk_eq {a b : Blk} (h : eqBlk a b = true) : a = b := by
  obtain ⟨c, t⟩ := a
  obtain ⟨c', t'⟩ := b
  simp only [eqBlk, Bool.and_eq_true] at h
  rw [eqL_eq eqAtom_eq h.1, Nat.eq_of_beq_eq_true h.2]
theorem eqHp_eq {a b : Hp} (h : eqHp a b = true) : a = b := by
  obtain ⟨a1, a2, a3, a4, a5, a6, a7, a8⟩ := a
  obtain ⟨b1, b2, b3, b4, b5, b6, b7, b8⟩ := b
  simp only [eqHp, Bool.and_eq_true] at h
  obtain ⟨⟨⟨⟨⟨⟨⟨h1, h2⟩, h3⟩, h4⟩, h5⟩, h6⟩, h7⟩, h8⟩ := h
  rw [eqTT_eq eqBlk_eq h1, Nat.eq_of_beq_eq_true h2, Nat.eq_of_beq_eq_true h3, Nat.eq_of_beq_eq_true h4, Nat.eq_of_beq_eq_true h5, eqL_eq (eqL_eq eqAtom_eq) h6,
    eqL_eq (fun {x y} h => by simp only [Bool.and_eq_true] at h; exact Prod.ext (Nat.eq_of_beq_eq_true h.1) (eqAtom_eq h.2)) h7,
    eqL_eq (fun {x y} h => by simp only [Bool.and_eq_true, beq_iff_eq] at h; exact Prod.ext (BE.beq_eq h.1) h.2) h8]
theorem eqSt_eq {a b : St} (h : eqSt a b = true) : a = b := by
  obtain ⟨a1, a2, a3⟩ := a
  obtain ⟨b1, b2, b3⟩ := b
  simp only [eqSt, Bool.and_eq_true] at h
  rw [eqTT_eq eqSV_eq h.1.1, Nat.eq_of_beq_eq_true h.1.2, eqHp_eq h.2]
theorem eqID_eq {a b : ID} (h : eqID a b = true) : a = b := by
  cases a <;> simp only [eqID] at h <;> split at h
  · simp only [Bool.and_eq_true, decide_eq_true_eq] at h
    rw [h.1.1.1, h.1.1.2, IE.beq_eq h.1.2, IE.beq_eq h.2]
  · cases h
  · simp only [Bool.and_eq_true, decide_eq_true_eq] at h
    rw [h.1.1.1, h.1.1.2, IE.beq_eq h.1.2, IE.beq_eq h.2]
  · cases h
  · simp only [Bool.and_eq_true, decide_eq_true_eq] at h
    rw [h.1.1.1, h.1.1.2, IE.beq_eq h.1.2, Nat.eq_of_beq_eq_true h.2]
  · cases h
  · simp only [Bool.and_eq_true, decide_eq_true_eq, beq_iff_eq] at h
    rw [h.1.1.1, h.1.1.2, IE.beq_eq h.1.2, h.2]
  · cases h
  · simp only [Bool.and_eq_true, decide_eq_true_eq] at h
    rw [h.1, IE.beq_eq h.2]
  · cases h
  · simp only [Bool.and_eq_true] at h
    rw [Nat.eq_of_beq_eq_true h.1, eqL_eq IE.beq_eq h.2]
  · cases h
theorem eqFD_eq {a b : FD} (h : eqFD a b = true) : a = b := by
  cases a <;> simp only [eqFD] at h <;> split at h
  · simp only [Bool.and_eq_true] at h
    rw [Nat.eq_of_beq_eq_true h.1, Nat.eq_of_beq_eq_true h.2]
  · cases h
  · simp only [Bool.and_eq_true] at h
    rw [Nat.eq_of_beq_eq_true h.1, Nat.eq_of_beq_eq_true h.2]
  · cases h
  · simp only [Bool.and_eq_true] at h
    rw [Nat.eq_of_beq_eq_true h.1, Nat.eq_of_beq_eq_true h.2]
  · cases h
  · rw [Nat.eq_of_beq_eq_true h]
  · cases h
  · simp only [Bool.and_eq_true] at h
    rw [Nat.eq_of_beq_eq_true h.1, Nat.eq_of_beq_eq_true h.2]
  · cases h
  · rw [Nat.eq_of_beq_eq_true h]
  · cases h
  · simp only [Bool.and_eq_true] at h
    rw [IE.beq_eq h.1.1.1, IE.beq_eq h.1.1.2, IE.beq_eq h.1.2, IE.beq_eq h.2]
  · cases h
  · simp only [Bool.and_eq_true] at h
    rw [IE.beq_eq h.1.1.1, IE.beq_eq h.1.1.2, IE.beq_eq h.1.2, IE.beq_eq h.2]
  · cases h
  · simp only [Bool.and_eq_true] at h
    rw [Nat.eq_of_beq_eq_true h.1, lbeq_eq h.2]
  · cases h
theorem eqDn_eq {a b : Dn} (h : eqDn a b = true) : a = b := by
  unfold eqDn at h
  split at h
  · split at h
    · simp only [Bool.and_eq_true] at h
      rw [Nat.eq_of_beq_eq_true h.1, eqID_eq h.2]
    · cases h
  · split at h
    · simp only [Bool.and_eq_true] at h
      rw [Nat.eq_of_beq_eq_true h.1, eqFD_eq h.2]
    · cases h
  · cases h
theorem eqTree_eq : ∀ {t u : Tree St}, eqTree t u = true → t = u
  | .leaf a, u, h => by
    unfold eqTree at h
    split at h
    · rw [eqSt_eq h]
    · cases h
  | .dn d t, u, h => by
    unfold eqTree at h
    split at h
    · simp only [Bool.and_eq_true] at h
      rw [eqDn_eq h.1, eqTree_eq h.2]
    · cases h
  | .br b t f, u, h => by
    unfold eqTree at h
    split at h
    · simp only [Bool.and_eq_true] at h
      rw [BE.beq_eq h.1.1, eqTree_eq h.1.2, eqTree_eq h.2]
    · cases h
  | .no, _, h => by cases h
def bindT {L : Type} : Tree St → (St → Option (Tree L)) → Option (Tree L)
  | .leaf s, k => k s
  | .no, _ => some .no
  | .dn d t, k => (bindT t k).map (Tree.dn d)
  | .br b t f, k => match bindT t k, bindT f k with
    | some x, some y => some (.br b x y)
    | _, _ => none
theorem bindT_holds {L : Type} {e : Env} {Φ : L → Prop} {k : St → Option (Tree L)} : ∀ {t : Tree St} {u : Tree L}, bindT t k = some u → u.holds e Φ → t.holds e fun s => ∃ v, k s = some v ∧ v.holds e Φ
  | .leaf s, u, h, hu => ⟨u, h, hu⟩
  | .no, u, h, hu => by cases h; exact hu
  | .dn d t, u, h, hu => by
    obtain ⟨v, hv, rfl⟩ := Option.map_eq_some_iff.1 h
    exact ⟨hu.1, bindT_holds hv hu.2⟩
  | .br b t f, u, h, hu => by
    unfold bindT at h
    split at h
    · rename_i x y hx hy
      cases h
      exact ⟨fun hb => bindT_holds hx (hu.1 hb), fun hb => bindT_holds hy (hu.2 hb)⟩
    · cases h
/-- The one pair of a region that drawing can set in two orders: which, and the other order. -/
def twoOf (g : Bool) (ops : Array Oper) : Option (Nat × Nat × List Nat) :=
  let ms := masks ops.toList []
  let l := List.range ops.size
  match (l.map fun j => ((List.range j).filter fun i => !((ms.getD j 0).testBit i || comms g ops i j)).map fun i => (i, j)).flatten with
  | [(i, j)] => some (i, j, (l.filter fun x => Nat.blt x i || Nat.beq x j || (ms.getD j 0).testBit x) ++ l.filter fun x => !(Nat.blt x i || Nat.beq x j || (ms.getD j 0).testBit x))
  | _ => none

/-- A region in two orders: the one walk of both. -/
def twoT (P : Program) (qf pf : QSum) (cf : FuncId → List SV → Hp → (SV → Hp → Option (Tree St)) → Option (Tree St)) (g : Bool) (ops : Array Oper) (st : St) : Option (Tree St) :=
  match twoOf g ops with
  | some (i, j, l') => bif twoB g ops i j l' then
      match sxOps P qf pf cf g ops.toList ops.toList st (fun s => some (.leaf s)), sxOps P qf pf cf g ops.toList (l'.filterMap fun i => ops[i]?) st (fun s => some (.leaf s)) with
      | some t1, some t2 => bif eqTree t1 t2 then some t1 else none
      | _, _ => none
    else none
  | none => none
def twoE (P : Program) (qf pf : QSum) (cf : FuncId → List SV → Hp → (SV → Hp → Option (Tree St)) → Option (Tree St)) (ops : Array Oper) (st : St) : Option (Tree St) :=
  match twoT P qf pf cf false ops st with
  | some t => some t
  | none => twoT P qf pf cf true ops st
theorem twoE_spec {P : Program} {qf pf : QSum} {cf : FuncId → List SV → Hp → (SV → Hp → Option (Tree St)) → Option (Tree St)} {ops : Array Oper} {st : St} {t : Tree St} (h : twoE P qf pf cf ops st = some t) : ∃ g, twoT P qf pf cf g ops st = some t := by
  unfold twoE at h
  split at h
  · rename_i t' h1
    cases h
    exact ⟨false, h1⟩
  · exact ⟨true, h⟩
def sx (P : Program) (qf pf : QSum) : Nat → {L : Type} → Code → St → (Xt → St → Option (Tree L)) → Option (Tree L)
  | 0, _, _, _, _ => none
  | n + 1, L, c, st, k => match c with
    | .skip => k .normal st
    | .ret => k .ret st
    | .exit id => k (.exit id) st
    | .seq a b => sx P qf pf n a st fun x st' => match x with
      | .normal => sx P qf pf n b st' k
      | x => k x st'
    | .block id b => sx P qf pf n b st fun x st' => match x with
      | .exit id' => bif Nat.beq id' id then k .normal st' else k (.exit id') st'
      | x => k x st'
    | .loop b => sx P qf pf n b st fun x st' => match x with
      | .normal => sx P qf pf n (.loop b) st' k
      | x => k x st'
    | .cond c a b => match evO st.tm c with
      | some (.one (.at (.bool t))) => decideB 20 t st.h fun t h => bif t then sx P qf pf n a { st with h := h } k else sx P qf pf n b { st with h := h } k
      | _ => none
    | .region _ ops draw =>
      match (bif draw && !(okDraw false ops) then twoE P qf pf (fun f args h kk => match P.funcs[f]? with
          | some fn => match fn.body with
            | some body => sx P qf pf n body { tm := argsT args 0 .leaf, n := max fn.ntmps args.length, h := h } fun x st' => match x with
              | .exit _ => none
              | _ => match resVs P st'.tm st'.h fn.results.toList with
                | some l => kk (resS l) st'.h
                | none => none
            | none => none
          | none => none) ops st else none) with
      | some t1 => bindT t1 (k .normal)
      | none => match wayOf draw ops with
        | some g => sxOps P qf pf (fun f args h kk => match P.funcs[f]? with
          | some fn => match fn.body with
            | some body => sx P qf pf n body { tm := argsT args 0 .leaf, n := max fn.ntmps args.length, h := h } fun x st' => match x with
              | .exit _ => none
              | _ => match resVs P st'.tm st'.h fn.results.toList with
                | some l => kk (resS l) st'.h
                | none => none
            | none => none
          | none => none) g ops.toList ops.toList st fun st' => k .normal st'
        | none => some .no
    | _ => none

/-- A call, walked from its head. -/
def sxCall {L : Type} (P : Program) (qf pf : QSum) (n : Nat) (f : FuncId) (args : List SV) (h : Hp) (kk : SV → Hp → Option (Tree L)) : Option (Tree L) :=
  match P.funcs[f]? with
  | some fn => match fn.body with
    | some body => sx P qf pf n body { tm := argsT args 0 .leaf, n := max fn.ntmps args.length, h := h } fun x st' => match x with
      | .exit _ => none
      | _ => match resVs P st'.tm st'.h fn.results.toList with
        | some l => kk (resS l) st'.h
        | none => none
    | none => none
  | none => none
end Go.Sx
namespace Go.Sx
open Go
def carryB : IE → Bool
  | .c n => n == 0 || n == 1
  | .b _ => true
  | _ => false
/-- math/bits: Add64, Sub64, Mul64, by their numbers. -/
def bitsF (fa fs fm : FuncId) : QSum := fun f args h =>
  bif Nat.beq f fa then match args with
    | [.one (.at (.int .u64 x)), .one (.at (.int .u64 y)), .one (.at (.int .u64 z))] =>
      bif carryB z then some ([.ad h.ni h.nb x y z], .tup [.at (.int .u64 (.v h.ni)), .at (.int .u64 (.b h.nb))], { h with ni := h.ni + 1, nb := h.nb + 1 }) else none
    | _ => none
  else bif Nat.beq f fs then match args with
    | [.one (.at (.int .u64 x)), .one (.at (.int .u64 y)), .one (.at (.int .u64 z))] =>
      bif carryB z then some ([.sb h.ni h.nb x y z], .tup [.at (.int .u64 (.v h.ni)), .at (.int .u64 (.b h.nb))], { h with ni := h.ni + 1, nb := h.nb + 1 }) else none
    | _ => none
  else bif Nat.beq f fm then match args with
    | [.one (.at (.int .u64 x)), .one (.at (.int .u64 y))] =>
      some ([.mu h.ni (h.ni + 1) x y], .tup [.at (.int .u64 (.v h.ni)), .at (.int .u64 (.v (h.ni + 1)))], { h with ni := h.ni + 2 })
    | _ => none
  else none
def noF : QSum := fun _ _ _ => none
/-- One table, behind it another. -/
def orF (a b : QSum) : QSum := fun f args h => match a f args h with
  | some r => some r
  | none => b f args h
/-- Four words by their names. -/
def ws (k : Nat) : List Atom := [.int .u64 (.v k), .int .u64 (.v (k + 1)), .int .u64 (.v (k + 2)), .int .u64 (.v (k + 3))]
def ems (k : Nat) : List Atom := [.int .u64 (.em k 0), .int .u64 (.em k 1), .int .u64 (.em k 2), .int .u64 (.em k 3)]
def eps (k : Nat) : List Atom := [.int .u64 (.ep k 0), .int .u64 (.ep k 1), .int .u64 (.ep k 2), .int .u64 (.ep k 3)]
def hp0 (ext : List (List Atom)) (ni nf : Nat) : Hp := { blk := .leaf, cnt := 0, ni := ni, nb := 0, nf := nf, ext := ext, log := [], facts := [] }
def pt (j : Nat) : SV := .one (.at (.ptr ⟨.ext j, 0⟩))
/-- What a leaf of a contract tells: the value, what has been written through the first pointer. -/
abbrev Lf := SV × List (Nat × Atom)
def leafE : SV → Hp → Option (Tree (SV × List (Nat × Atom))) := fun v h => some (.leaf (v, h.log))

structure W4 where
  a : IE
  b : IE
  c : IE
  d : IE
def toW4 : List Atom → Option W4
  | [.int .u64 x, .int .u64 y, .int .u64 z, .int .u64 t] => some ⟨x, y, z, t⟩
  | _ => none
def rd4 (h : Hp) (a : SA) : Option W4 :=
  match rd h a 4 with
  | some l => toW4 l
  | none => none
/-- The words of an element in Montgomery's form, the plain ones, of a constant. -/
def W4.em? (w : W4) : Option Nat :=
  match w.a, w.b, w.c, w.d with
  | .em e 0, .em f 1, .em g 2, .em k 3 => bif Nat.beq e f && Nat.beq e g && Nat.beq e k then some e else none
  | _, _, _, _ => none
def W4.ep? (w : W4) : Option Nat :=
  match w.a, w.b, w.c, w.d with
  | .ep e 0, .ep f 1, .ep g 2, .ep k 3 => bif Nat.beq e f && Nat.beq e g && Nat.beq e k then some e else none
  | _, _, _, _ => none
def W4.c? (w : W4) : Option Int :=
  match w.a, w.b, w.c, w.d with
  | .c x, .c y, .c z, .c t => some (v4 x y z t)
  | _, _, _, _ => none
def W4.lowB (w : W4) : BE :=
  match w.em?, w.ep?, w.c? with
  | some _, _, _ => .c true
  | none, some _, _ => .c true
  | none, none, some n => .c (decide (n < 21888242871839275222246405745257275088696311157297823662689037894645226208583))
  | none, none, none => .low w.a w.b w.c w.d
/-- 'smallerThanModulus' of an element behind a pointer. -/
def smF (fn : FuncId) : QSum := fun f args h =>
  bif Nat.beq f fn then match args with
    | [.one (.at (.ptr a))] => match rd4 h a with
      | some w => some ([], .one (.at (.bool w.lowB)), h)
      | none => none
    | _ => none
  else none
end Go.Sx
