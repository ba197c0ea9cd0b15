import Derived.Test.YtolmolkcjoibiaaDoorOrd
import Derived.Laws.IdiomCopy
import Derived.Laws.AppendOwn
/- Aids to the claim: what is shown here is said at each theorem. -/
namespace Go.Sx
/-- The prime. -/
def q : Nat := 21888242871839275222246405745257275088696311157297823662689037894645226208583
instance : NeZero q := ⟨by unfold q; omega⟩
abbrev Fq := Fin q
/-- Word j of a number. -/
def w4 (n j : Nat) : Nat := n / 2 ^ (64 * j) % 18446744073709551616
/-- A number in Montgomery's form: times 2^256. -/
def mont (x : Fq) : Nat := x.val * 115792089237316195423570985008687907853269984665640564039457584007913129639936 % q
/-- An element behind a number by the Montgomery form of it: divided by 2^256. -/
def unmont (n : Nat) : Fq := Fin.ofNat q n * Fin.ofNat q 20988524275117001072002809824448087578619730785600314334253784976379291040311
/-- Powers, by squares. -/
def powF : Nat → Fq → Nat → Fq
  | 0, _, _ => 1
  | d + 1, x, n => if n = 0 then 1 else if n % 2 = 1 then powF d (x * x) (n / 2) * x else powF d (x * x) (n / 2)
def fpow (x : Fq) (n : Nat) : Fq := powF 256 x n
def finv (x : Fq) : Fq := fpow x (q - 2)
abbrev P1 := Fq × Fq
/-- The sum of two points by the chord or the tangent. -/
def add1 (p r : P1) : P1 :=
  if p = (0, 0) then r else if r = (0, 0) then p
  else if p.1 = r.1 ∧ ¬ (p.2 = r.2 ∧ p.2 ≠ 0) then (0, 0)
  else
    let s := if p.1 ≠ r.1 then (r.2 - p.2) * finv (r.1 - p.1) else (3 * (p.1 * p.1)) * finv (p.2 + p.2)
    let x := s * s - p.1 - r.1
    (x, s * (p.1 - x) - p.2)
abbrev F2 := Fq × Fq
def F2.mul (a b : F2) : F2 := (a.1 * b.1 - a.2 * b.2, a.1 * b.2 + a.2 * b.1)
def F2.add (a b : F2) : F2 := (a.1 + b.1, a.2 + b.2)
def F2.sub (a b : F2) : F2 := (a.1 - b.1, a.2 - b.2)
def F2.inv (a : F2) : F2 := (a.1 * finv (a.1 * a.1 + a.2 * a.2), 0 - a.2 * finv (a.1 * a.1 + a.2 * a.2))
abbrev P2 := F2 × F2
def add2 (p r : P2) : P2 :=
  if p = ((0, 0), (0, 0)) then r else if r = ((0, 0), (0, 0)) then p
  else if p.1 = r.1 ∧ ¬ (p.2 = r.2 ∧ p.2 ≠ (0, 0)) then ((0, 0), (0, 0))
  else
    let s := if p.1 ≠ r.1 then F2.mul (F2.sub r.2 p.2) (F2.inv (F2.sub r.1 p.1)) else F2.mul (F2.mul (3, 0) (F2.mul p.1 p.1)) (F2.inv (F2.add p.2 p.2))
    let x := F2.sub (F2.sub (F2.mul s s) p.1) r.1
    (x, F2.sub (F2.mul s (F2.sub p.1 x)) p.2)
/-- The number of bytes, the highest first. -/
def bnum : List Fq → Nat → Nat
  | [], n => n
  | x :: l, n => bnum l (n * 256 + x.val)
/-- The point whose first number is n, its second one the greater (or the smaller) of the two. -/
def rP (g : Bool) (n : Nat) : Option P1 :=
  if n < q then
    let x : Fq := Fin.ofNat q n
    let r := x * (x * x) + 3
    let y := fpow r 5472060717959818805561601436314318772174077789324455915672259473661306552146
    if y * y = r then some (x, if decide (q < 2 * y.val) = g then y else -y) else none
  else none
/-- The point of bytes with a mark. -/
def sP : List Fq → Option P1
  | [] => none
  | b :: r => rP (decide (192 ≤ b.val)) (bnum r (b.val % 64))
/-- The point of 32 bytes, as the package reads it. -/
def gP : List Fq → Option P1
  | [] => none
  | b :: r => if b.val < 64 then none else if b.val < 128 then (if b.val = 64 ∧ bnum r 0 = 0 then some (0, 0) else none) else sP (b :: r)
/-- The point of 64 bytes, as the package reads it. -/
def wP (l : List Fq) : Option P1 :=
  if (l.headD 0).val < 64 then
    if bnum (l.take 32) 0 < q ∧ bnum (l.drop 32) 0 < q then
      let x : Fq := Fin.ofNat q (bnum (l.take 32) 0)
      let y : Fq := Fin.ofNat q (bnum (l.drop 32) 0)
      if (x = 0 ∧ y = 0) ∨ y * y = x * (x * x) + 3 then some (x, y) else none
    else none
  else gP (l.take 32)
/-- What named functions of elements are. -/
def ftab (k : Nat) (l : List Fq) : Fq :=
  match k, l with
  | 0, [x] => finv x
  | 1, [a, b, c, d] => (add1 (a, b) (c, d)).1
  | 2, [a, b, c, d] => (add1 (a, b) (c, d)).2
  | 3, [a, b, c, d, a', b', c', d'] => (add2 ((a, b), (c, d)) ((a', b'), (c', d'))).1.1
  | 4, [a, b, c, d, a', b', c', d'] => (add2 ((a, b), (c, d)) ((a', b'), (c', d'))).1.2
  | 5, [a, b, c, d, a', b', c', d'] => (add2 ((a, b), (c, d)) ((a', b'), (c', d'))).2.1
  | 6, [a, b, c, d, a', b', c', d'] => (add2 ((a, b), (c, d)) ((a', b'), (c', d'))).2.2
  | 7, [x] => fpow x 5472060717959818805561601436314318772174077789324455915672259473661306552146
  | 8, [x, y] => if x = 0 ∧ y = 0 then 1 else x
  | 9, [x, y] => if x = 0 ∧ y = 0 then 1 else y
  | 10, [x, y] => if x = 0 ∧ y = 0 then 0 else 1
  | 11, [a, b, c, d] => if ((a = 0 ∧ b = 0) ∧ c = 0) ∧ d = 0 then 1 else a
  | 12, [a, b, c, d] => if ((a = 0 ∧ b = 0) ∧ c = 0) ∧ d = 0 then 0 else b
  | 13, [a, b, c, d] => if ((a = 0 ∧ b = 0) ∧ c = 0) ∧ d = 0 then 1 else c
  | 14, [a, b, c, d] => if ((a = 0 ∧ b = 0) ∧ c = 0) ∧ d = 0 then 0 else d
  | 15, [a, b, c, d] => if ((a = 0 ∧ b = 0) ∧ c = 0) ∧ d = 0 then 0 else 1
  | 16, l => ((gP l).getD (0, 0)).1
  | 17, l => ((gP l).getD (0, 0)).2
  | 18, l => if (gP l).isSome then 32 else 0
  | 19, l => ((sP l).getD (0, 0)).1
  | 20, l => ((sP l).getD (0, 0)).2
  | 21, l => ((wP l).getD (0, 0)).1
  | 22, l => ((wP l).getD (0, 0)).2
  | 23, l => if (wP l).isSome then (if (l.headD 0).val < 64 then 64 else 32) else 0
  | _, _ => 0
/-- The twist's number: 3 / (9 + u). -/
def tw : F2 := F2.mul (3, 0) (F2.inv (9, 1))
/-- What named tests of elements are. -/
def btab (k : Nat) (l : List Fq) : Bool :=
  match k, l with
  | 0, [x] => decide (q < 2 * x.val)
  | 1, [x, y] => decide ((x = 0 ∧ y = 0) ∨ y * y = x * (x * x) + 3)
  | 2, [x, x', y, y'] => decide ((((x = 0 ∧ x' = 0) ∧ y = 0) ∧ y' = 0) ∨ F2.mul (y, y') (y, y') = F2.add (F2.mul (x, x') (F2.mul (x, x') (x, x'))) tw)
  | 3, [x, x', y, y'] => decide (((x = 0 ∧ x' = 0) ∧ y = 0) ∧ y' = 0)
  | 4, [x, y] => decide (x = 0 ∧ y = 0)
  | 5, [x, y, x', y'] => decide (x = x' ∧ y = y')
  | 6, l => (gP l).isSome
  | 7, l => (sP l).isSome
  | 8, l => (wP l).isSome
  | _, _ => false
end Go.Sx
namespace Go.Sx
open Go

/-! ### A store of things by number -/
inductive T (α : Type) where
  | leaf
  | node (l : T α) (x : Option α) (r : T α)
namespace T
variable {α : Type}
def get : T α → Nat → Option α
  | .leaf, _ => none
  | .node _ x _, 0 => x
  | .node l _ r, i + 1 => bif Nat.beq (i % 2) 0 then l.get (i / 2) else r.get (i / 2)
def left : T α → T α
  | .leaf => .leaf
  | .node l _ _ => l
def right : T α → T α
  | .leaf => .leaf
  | .node _ _ r => r
def val : T α → Option α
  | .leaf => none
  | .node _ x _ => x
def setF : Nat → T α → Nat → α → T α
  | 0, t, _, _ => t
  | _ + 1, t, 0, v => .node t.left (some v) t.right
  | d + 1, t, i + 1, v => bif Nat.beq (i % 2) 0 then .node (setF d t.left (i / 2) v) t.val t.right else .node t.left t.val (setF d t.right (i / 2) v)
def set (t : T α) (i : Nat) (v : α) : T α := setF (i + 1) t i v

theorem left_node (l : T α) (x : Option α) (r : T α) : (node l x r).left = l := rfl
theorem right_node (l : T α) (x : Option α) (r : T α) : (node l x r).right = r := rfl
theorem get_zero (t : T α) : t.get 0 = t.val := by cases t <;> rfl
theorem get_succ (t : T α) (i : Nat) : t.get (i + 1) = bif Nat.beq (i % 2) 0 then t.left.get (i / 2) else t.right.get (i / 2) := by
  cases t with
  | leaf => cases h : Nat.beq (i % 2) 0 <;> simp [get, left, right]
  | node l x r => rfl
theorem get_setF : ∀ (d : Nat) (t : T α) (i : Nat) (v : α) (j : Nat), i < d → (setF d t i v).get j = if i = j then some v else t.get j
  | 0, _, _, _, _, h => by omega
  | d + 1, t, 0, v, j, _ => by
    cases j with
    | zero => simp [setF, get]
    | succ j => rw [get_succ, get_succ]; simp [setF, left, right]
  | d + 1, t, i + 1, v, j, h => by
    unfold setF
    cases hb : Nat.beq (i % 2) 0 with
    | true =>
      have hi : i % 2 = 0 := Nat.eq_of_beq_eq_true hb
      cases j with
      | zero => simp [get_zero, val]
      | succ j =>
        rw [get_succ, get_succ]
        cases hb' : Nat.beq (j % 2) 0 with
        | true =>
          have hj : j % 2 = 0 := Nat.eq_of_beq_eq_true hb'
          simp only [cond_true, left_node]
          rw [get_setF d t.left (i / 2) v (j / 2) (by omega)]
          by_cases e : i / 2 = j / 2
          · rw [if_pos e, if_pos (by omega)]
          · rw [if_neg e, if_neg (by omega)]
        | false =>
          have hj : j % 2 ≠ 0 := Nat.ne_of_beq_eq_false hb'
          simp only [cond_true, cond_false, right_node]
          rw [if_neg (by omega)]
    | false =>
      have hi : i % 2 ≠ 0 := Nat.ne_of_beq_eq_false hb
      cases j with
      | zero => simp [get_zero, val]
      | succ j =>
        rw [get_succ, get_succ]
        cases hb' : Nat.beq (j % 2) 0 with
        | true =>
          have hj : j % 2 = 0 := Nat.eq_of_beq_eq_true hb'
          simp only [cond_true, cond_false, left_node]
          rw [if_neg (by omega)]
        | false =>
          have hj : j % 2 ≠ 0 := Nat.ne_of_beq_eq_false hb'
          simp only [cond_false, right_node]
          rw [get_setF d t.right (i / 2) v (j / 2) (by omega)]
          by_cases e : i / 2 = j / 2
          · rw [if_pos e, if_pos (by omega)]
          · rw [if_neg e, if_neg (by omega)]
theorem get_set (t : T α) (i : Nat) (v : α) (j : Nat) : (t.set i v).get j = if i = j then some v else t.get j := get_setF _ t i v j (by omega)
end T

/-! ### Symbolic values -/
/-- A whole number: a constant, a name, a truth as 0 or 1, a word of an element of the field (in Montgomery's form, plain). -/
inductive IE where
  | c (n : Int) | v (k : Nat) | b (k : Nat) | em (e j : Nat) | ep (e j : Nat)
inductive BE where
  | c (b : Bool) | v (k : Nat) | lt (x y : IE) | eq (x y : IE) | not (x : BE) | and (x y : BE) | or (x y : BE) | fz (e : Nat) | fe (e e' : Nat) | low (a b c d : IE) | fn (k : Nat) (l : List Nat)
inductive Root where
  | own (k : Nat) | ext (j : Nat) | glob (g : Nat)
structure SA where
  root : Root
  off : Nat
inductive Atom where
  | int (k : IntKind) (x : IE) | bool (x : BE) | ptr (a : SA) | slice (a : SA) (len cap : Nat) | slc (a : SA) (len m kc : Nat) | lit (v : Value) | iface (t : TypeId) (a : Atom)
inductive SV1 where
  | at (a : Atom) | agg (l : List Atom)
inductive SV where
  | one (x : SV1) | tup (l : List SV1)

structure Env where
  i : Nat → Int
  b : Nat → Bool
  f : Nat → Fq
  ext : Nat → Addr

def IE.den (e : Env) : IE → Int
  | .c n => n
  | .v k => e.i k
  | .b k => if e.b k = true then 1 else 0
  | .em x j => ((w4 (mont (e.f x)) j : Nat) : Int)
  | .ep x j => ((w4 (e.f x).val j : Nat) : Int)
/-- Four words as one number. -/
def v4 (a b c d : Int) : Int := a + 18446744073709551616 * b + 340282366920938463463374607431768211456 * c + 6277101735386680763835789423207666416102355444464034512896 * d
def BE.den (e : Env) : BE → Bool
  | .c b => b
  | .v k => e.b k
  | .lt x y => decide (x.den e < y.den e)
  | .eq x y => x.den e == y.den e
  | .not x => !(x.den e)
  | .and x y => x.den e && y.den e
  | .or x y => x.den e || y.den e
  | .fz x => decide (e.f x = 0)
  | .fe x y => decide (e.f x = e.f y)
  | .low x y z t => decide (v4 (x.den e) (y.den e) (z.den e) (t.den e) < 21888242871839275222246405745257275088696311157297823662689037894645226208583)
  | .fn k l => btab k (l.map e.f)
def SA.den (β : Nat → Nat) (e : Env) (a : SA) : Addr :=
  match a.root with
  | .own k => ⟨β k, a.off, none⟩
  | .ext j => ⟨(e.ext j).block, (e.ext j).off + a.off, none⟩
  | .glob g => ⟨g, a.off, none⟩
def Atom.den (β : Nat → Nat) (e : Env) : Atom → Value
  | .int k x => .int k (x.den e)
  | .bool x => .bool (x.den e)
  | .ptr a => .pointer (some (a.den β e))
  | .slice a l c => .slice (some (a.den β e)) l c
  | .slc a l m kc => .slice (some (a.den β e)) l (m + β kc)
  | .lit v => v
  | .iface t a => .iface t (a.den β e)
def SV1.den (β : Nat → Nat) (e : Env) : SV1 → Value
  | .at a => a.den β e
  | .agg l => .agg (l.map (Atom.den β e)).toArray
def SV.den (β : Nat → Nat) (e : Env) : SV → Value
  | .one x => x.den β e
  | .tup l => .tuple (l.map (SV1.den β e)).toArray

/-- What one cell may hold. -/
abbrev single : Value → Bool := Value.oneCell'
def inR (k : IntKind) (n : Int) : Prop := k.min ≤ n ∧ n ≤ k.max
def inRb (k : IntKind) (n : Int) : Bool := decide (k.min ≤ n) && decide (n ≤ k.max)
def Root.ok (n : Nat) : Root → Prop
  | .own k => k < n
  | _ => True
def Atom.ok (n : Nat) (e : Env) : Atom → Prop
  | .int k x => inR k (x.den e)
  | .ptr a | .slice a _ _ => a.root.ok n
  | .slc a _ _ kc => a.root.ok n ∧ kc < n
  | .lit v => single v = true
  | .iface _ a => a.ok n e
  | .bool _ => True
def SV1.ok (n : Nat) (e : Env) : SV1 → Prop
  | .at a => a.ok n e
  | .agg l => ∀ a ∈ l, a.ok n e
def SV.ok (n : Nat) (e : Env) : SV → Prop
  | .one x => x.ok n e
  | .tup l => ∀ x ∈ l, x.ok n e

def Agree (n : Nat) (β β' : Nat → Nat) : Prop := ∀ k, k < n → β' k = β k
theorem Agree.refl (n : Nat) (β : Nat → Nat) : Agree n β β := fun _ _ => rfl
theorem Agree.trans {n n' : Nat} {β β' β'' : Nat → Nat} (h : Agree n β β') (hn : n ≤ n') (h' : Agree n' β' β'') : Agree n β β'' :=
  fun k hk => (h' k (by omega)).trans (h k hk)

theorem SA.den_agree {n : Nat} {β β' : Nat → Nat} {e : Env} {a : SA} (h : Agree n β β') (ho : a.root.ok n) : a.den β' e = a.den β e := by
  obtain ⟨r, o⟩ := a
  cases r <;> simp only [SA.den]
  rw [h _ ho]
theorem Atom.den_agree {n : Nat} {β β' : Nat → Nat} {e : Env} (h : Agree n β β') : ∀ {a : Atom}, a.ok n e → a.den β' e = a.den β e
  | .int _ _, _ | .bool _, _ | .lit _, _ => rfl
  | .ptr a, ho => by simp only [Atom.den]; rw [SA.den_agree h ho]
  | .slice a _ _, ho => by simp only [Atom.den]; rw [SA.den_agree h ho]
  | .slc a _ _ kc, ho => by simp only [Atom.den]; rw [SA.den_agree h ho.1, h _ ho.2]
  | .iface t a, ho => by simp only [Atom.den]; rw [Atom.den_agree (a := a) h ho]
theorem SV1.den_agree {n : Nat} {β β' : Nat → Nat} {e : Env} (h : Agree n β β') : ∀ {a : SV1}, a.ok n e → a.den β' e = a.den β e
  | .at _, ho => Atom.den_agree h ho
  | .agg l, ho => by simp only [SV1.den]; rw [List.map_congr_left fun a ha => Atom.den_agree h (ho a ha)]
theorem SV.den_agree {n : Nat} {β β' : Nat → Nat} {e : Env} (h : Agree n β β') : ∀ {a : SV}, a.ok n e → a.den β' e = a.den β e
  | .one _, ho => SV1.den_agree h ho
  | .tup l, ho => by simp only [SV.den]; rw [List.map_congr_left fun a ha => SV1.den_agree h (ho a ha)]
theorem Root.ok_le {n n' : Nat} (h : n ≤ n') : ∀ {r : Root}, r.ok n → r.ok n'
  | .own _, ho => Nat.lt_of_lt_of_le ho h
  | .ext _, _ | .glob _, _ => trivial
theorem Atom.ok_le {n n' : Nat} {e : Env} (h : n ≤ n') : ∀ {a : Atom}, a.ok n e → a.ok n' e
  | .int _ _, ho => ho
  | .bool _, _ => trivial
  | .lit _, ho => ho
  | .ptr _, ho => Root.ok_le h ho
  | .slice _ _ _, ho => Root.ok_le h ho
  | .slc _ _ _ _, ho => ⟨Root.ok_le h ho.1, Nat.lt_of_lt_of_le ho.2 h⟩
  | .iface _ a, ho => Atom.ok_le (a := a) h ho
theorem SV1.ok_le {n n' : Nat} {e : Env} (h : n ≤ n') : ∀ {a : SV1}, a.ok n e → a.ok n' e
  | .at _, ho => Atom.ok_le h ho
  | .agg _, ho => fun a ha => Atom.ok_le h (ho a ha)
theorem SV.ok_le {n n' : Nat} {e : Env} (h : n ≤ n') : ∀ {a : SV}, a.ok n e → a.ok n' e
  | .one _, ho => SV1.ok_le h ho
  | .tup _, ho => fun a ha => SV1.ok_le h (ho a ha)

/-- A symbolic cell's value is one cell. -/
theorem Atom.single_den {n : Nat} {β : Nat → Nat} {e : Env} : ∀ {a : Atom}, a.ok n e → single (a.den β e) = true
  | .int _ _, _ | .bool _, _ | .ptr _, _ | .slice _ _ _, _ | .slc _ _ _ _, _ | .iface _ _, _ => rfl
  | .lit _, ho => ho
theorem single_cells {v : Value} (h : single v = true) : v.cells = #[v] := by
  cases v <;> first | rfl | cases h

/-! ### Memory -/
structure Blk where
  cells : List Atom
  ty : TypeId
structure Hp where
  blk : T Blk
  cnt : Nat
  ni : Nat
  nb : Nat
  nf : Nat
  ext : List (List Atom)
  log : List (Nat × Atom)
  facts : List (BE × Bool)

/-- What has been written through the first pointer that came in (the newest write first). -/
def apLog (β : Nat → Nat) (e : Env) : List (Nat × Atom) → World → World
  | [], w => w
  | (i, a) :: l, w => (apLog β e l w).setCell ⟨(e.ext 0).block, (e.ext 0).off + i, none⟩ (a.den β e)

structure HRel (w0 : World) (e : Env) (β : Nat → Nat) (h : Hp) (w : World) : Prop where
  tape : w.tape = w0.tape
  os : w.os = w0.os
  output : w.output = w0.output
  size : w0.heap.size ≤ w.heap.size
  blk : ∀ k b, h.blk.get k = some b → k < h.cnt ∧ w0.heap.size ≤ β k ∧
    (∃ tl : List Value, w.heap[β k]? = some (.cells (b.cells.map (Atom.den β e) ++ tl).toArray b.ty (0, 0))) ∧ ∀ a ∈ b.cells, a.ok h.cnt e
  inj : ∀ k k' b b', h.blk.get k = some b → h.blk.get k' = some b' → β k = β k' → k = k'
  old : ∀ j, j < w0.heap.size → w.heap[j]? = (apLog β e h.log w0).heap[j]?
  logok : ∀ x ∈ h.log, x.2.ok h.cnt e
  extb : ∀ j c, h.ext[j]? = some c → (e.ext j).block < w0.heap.size
  ext : ∀ j c, h.ext[j]? = some c → ∀ i a, c[i]? = some a → w.cell? ⟨(e.ext j).block, (e.ext j).off + i, none⟩ = some (a.den β e) ∧ a.ok h.cnt e
  frz : ∀ c, h.ext[0]? = some c → ∀ i, i < c.length → w.frozen? ⟨(e.ext 0).block, (e.ext 0).off + i, none⟩ = false
  dis : ∀ j c c0, j ≠ 0 → h.ext[j]? = some c → h.ext[0]? = some c0 → ∀ i i', i < c.length → i' < c0.length →
    (⟨(e.ext j).block, (e.ext j).off + i, none⟩ : Addr) ≠ ⟨(e.ext 0).block, (e.ext 0).off + i', none⟩
  gl : ∀ g c, h.ext[g + 7]? = some c → e.ext (g + 7) = ⟨g, 0, none⟩
  facts : ∀ x ∈ h.facts, x.1.den e = x.2

theorem cell?_grow {w w' : World} (hg : Grow w w') {a : Addr} (hb : a.block < w.heap.size) : w'.cell? a = w.cell? a := by
  unfold World.cell?
  rw [hg.same _ hb]
theorem frozen?_grow {w w' : World} (hg : Grow w w') {a : Addr} (hb : a.block < w.heap.size) : w'.frozen? a = w.frozen? a := by
  unfold World.frozen?
  rw [hg.same _ hb]

theorem HRel.grow {w0 : World} {e : Env} {β : Nat → Nat} {h : Hp} {w w' : World} (hr : HRel w0 e β h w) (hg : Grow w w') : HRel w0 e β h w' where
  tape := hg.tape.trans hr.tape
  os := hg.os.trans hr.os
  output := hg.output.trans hr.output
  size := Nat.le_trans hr.size hg.size
  blk := fun k b hk => by
    obtain ⟨h1, h2, ⟨tl, h3⟩, h4⟩ := hr.blk k b hk
    refine ⟨h1, h2, ⟨tl, ?_⟩, h4⟩
    rw [hg.same _ (Array.getElem?_eq_some_iff.1 h3).1]
    exact h3
  inj := hr.inj
  old := fun j hj => by rw [hg.same j (Nat.lt_of_lt_of_le hj hr.size)]; exact hr.old j hj
  logok := hr.logok
  extb := hr.extb
  ext := fun j c hj i a ha => by
    rw [cell?_grow (a := ⟨(e.ext j).block, (e.ext j).off + i, none⟩) hg (Nat.lt_of_lt_of_le (hr.extb j c hj) hr.size)]
    exact hr.ext j c hj i a ha
  frz := fun c hc i hi => by
    rw [frozen?_grow (a := ⟨(e.ext 0).block, (e.ext 0).off + i, none⟩) hg (Nat.lt_of_lt_of_le (hr.extb 0 c hc) hr.size)]
    exact hr.frz c hc i hi
  dis := hr.dis
  gl := hr.gl
  facts := hr.facts

/-! ### Reading and writing cells -/
def cellsAt (h : Hp) : Root → Option (List Atom)
  | .own k => (h.blk.get k).map (·.cells)
  | .ext j => h.ext[j]?
  | .glob g => h.ext[g + 7]?
def rd (h : Hp) (a : SA) (n : Nat) : Option (List Atom) :=
  match cellsAt h a.root with
  | some l => let s := (l.drop a.off).take n; bif Nat.beq s.length n then some s else none
  | none => none
def wr1 (h : Hp) (a : SA) (v : Atom) : Option Hp :=
  match a.root with
  | .own k => match h.blk.get k with
    | some b => bif Nat.blt a.off b.cells.length then some { h with blk := h.blk.set k ⟨b.cells.set a.off v, b.ty⟩ } else none
    | none => none
  | .ext 0 => match h.ext with
    | c :: rest => bif Nat.blt a.off c.length then some { h with ext := c.set a.off v :: rest, log := (a.off, v) :: h.log } else none
    | [] => none
  | _ => none
def wr (h : Hp) (r : Root) : Nat → List Atom → Option Hp
  | _, [] => some h
  | o, v :: vs => match wr1 h ⟨r, o⟩ v with
    | some h' => wr h' r (o + 1) vs
    | none => none

theorem rd_spec {h : Hp} {a : SA} {n : Nat} {s : List Atom} (hr : rd h a n = some s) :
    ∃ l, cellsAt h a.root = some l ∧ s.length = n ∧ ∀ i, i < n → s[i]? = l[a.off + i]? := by
  unfold rd at hr
  cases hc : cellsAt h a.root with
  | none => rw [hc] at hr; cases hr
  | some l =>
    rw [hc] at hr
    simp only at hr
    cases hb : Nat.beq ((l.drop a.off).take n).length n with
    | false => rw [hb] at hr; cases hr
    | true =>
      rw [hb] at hr
      simp only [cond_true, Option.some.injEq] at hr
      subst hr
      refine ⟨l, rfl, Nat.eq_of_beq_eq_true hb, fun i hi => ?_⟩
      rw [List.getElem?_take_of_lt hi, List.getElem?_drop]

section
variable {w0 : World} {e : Env} {β : Nat → Nat} {h : Hp} {w : World}

/-- A symbolic cell, in memory. -/
theorem cell_of (hr : HRel w0 e β h w) {r : Root} {l : List Atom} (hc : cellsAt h r = some l) {i : Nat} {c : Atom} (hi : l[i]? = some c) :
    w.cell? ((⟨r, i⟩ : SA).den β e) = some (c.den β e) ∧ c.ok h.cnt e ∧ ((⟨r, i⟩ : SA).den β e).block < w.heap.size := by
  cases r with
  | own k =>
    simp only [cellsAt] at hc
    cases hk : h.blk.get k with
    | none => rw [hk] at hc; cases hc
    | some b =>
      rw [hk] at hc
      simp only [Option.map_some, Option.some.injEq] at hc
      subst hc
      obtain ⟨h1, h2, ⟨tl, h3⟩, h4⟩ := hr.blk k b hk
      refine ⟨?_, h4 c (List.mem_of_getElem? hi), (Array.getElem?_eq_some_iff.1 h3).1⟩
      have hlt : i < (b.cells.map (Atom.den β e)).length := by rw [List.length_map]; exact (List.getElem?_eq_some_iff.1 hi).1
      simp only [SA.den, World.cell?, h3, Option.isSome_none, Bool.false_eq_true, if_false, List.getElem?_toArray]
      rw [List.getElem?_append_left hlt, List.getElem?_map, hi]
      rfl
  | ext j =>
    simp only [cellsAt] at hc
    obtain ⟨h1, h2⟩ := hr.ext j l hc i c hi
    exact ⟨h1, h2, Nat.lt_of_lt_of_le (hr.extb j l hc) hr.size⟩
  | glob g =>
    simp only [cellsAt] at hc
    obtain ⟨h1, h2⟩ := hr.ext (g + 7) l hc i c hi
    have h3 := hr.extb (g + 7) l hc
    have hg := hr.gl g l hc
    rw [hg] at h1 h3
    rw [Nat.zero_add] at h1
    exact ⟨h1, h2, Nat.lt_of_lt_of_le h3 hr.size⟩

theorem rd_sound (hr : HRel w0 e β h w) {a : SA} {n : Nat} {s : List Atom} (hs : rd h a n = some s) :
    s.length = n ∧ (∀ c ∈ s, c.ok h.cnt e) ∧ ∀ i c, s[i]? = some c → w.cell? (((⟨a.root, a.off + i⟩ : SA)).den β e) = some (c.den β e) := by
  obtain ⟨l, hc, hl, hi⟩ := rd_spec hs
  refine ⟨hl, fun c hm => ?_, fun i c hic => ?_⟩
  · obtain ⟨i, hi'⟩ := List.getElem?_of_mem hm
    have hlt : i < n := by
      have := (List.getElem?_eq_some_iff.1 hi').1
      omega
    rw [hi i hlt] at hi'
    exact (cell_of hr hc hi').2.1
  · have hlt : i < n := by
      have := (List.getElem?_eq_some_iff.1 hic).1
      omega
    rw [hi i hlt] at hic
    exact (cell_of hr hc hic).1

theorem heap_setCell (w : World) (a : Addr) (v : Value) (ha : a.spot = none) (j : Nat) : (w.setCell a v).heap[j]? =
    if a.block = j then (w.heap[j]?).map (fun | .cells c t f => .cells (c.setIfInBounds a.off v) t f | o => o) else w.heap[j]? := by
  unfold World.setCell
  simp only [Array.getElem?_modify, ha]
  split <;> rfl

theorem wr1_sound (hr : HRel w0 e β h w) {a : SA} {v : Atom} (hv : v.ok h.cnt e) {h' : Hp} (hw : wr1 h a v = some h') :
    (w.cell? (a.den β e)).isSome = true ∧ w.frozen? (a.den β e) = false ∧ HRel w0 e β h' (w.setCell (a.den β e) (v.den β e)) ∧
      h'.cnt = h.cnt ∧ h'.ni = h.ni ∧ h'.nb = h.nb ∧ h'.nf = h.nf ∧ h'.facts = h.facts := by
  obtain ⟨r, o⟩ := a
  unfold wr1 at hw
  cases r with
  | glob g => cases hw
  | own k =>
    simp only at hw
    cases hk : h.blk.get k with
    | none => rw [hk] at hw; cases hw
    | some b =>
      rw [hk] at hw
      simp only at hw
      cases hb : Nat.blt o b.cells.length with
      | false => rw [hb] at hw; cases hw
      | true =>
        rw [hb] at hw
        simp only [cond_true, Option.some.injEq] at hw
        subst hw
        have hlt : o < b.cells.length := by simpa [Nat.blt_eq] using hb
        obtain ⟨h1, h2, ⟨tl, h3⟩, h4⟩ := hr.blk k b hk
        have hA : (⟨.own k, o⟩ : SA).den β e = ⟨β k, o, none⟩ := rfl
        rw [hA]
        refine ⟨?_, ?_, ?_, rfl, rfl, rfl, rfl, rfl⟩
        · have hlt' : o < (b.cells.map (Atom.den β e)).length := by rw [List.length_map]; exact hlt
          simp only [World.cell?, h3, Option.isSome_none, Bool.false_eq_true, if_false, List.getElem?_toArray]
          rw [List.getElem?_append_left hlt', List.getElem?_eq_getElem hlt']
          rfl
        · simp [World.frozen?, h3]
        · refine ⟨hr.tape, hr.os, hr.output, ?_, fun k' b' hk' => ?_, fun k1 k2 b1 b2 hk1 hk2 he => ?_, fun j hj => ?_, hr.logok, hr.extb, fun j c hj i a' ha => ?_, fun c hc i hi => ?_, hr.dis, hr.gl, hr.facts⟩
          · simpa [World.setCell] using hr.size
          · rw [T.get_set] at hk'
            by_cases hkk : k = k'
            · subst hkk
              rw [if_pos rfl] at hk'
              cases hk'
              refine ⟨h1, h2, ⟨tl, ?_⟩, fun a' ha' => ?_⟩
              · have hlt' : o < (b.cells.map (Atom.den β e)).length := by rw [List.length_map]; exact hlt
                rw [heap_setCell _ _ _ rfl, if_pos rfl, h3]
                simp only [Option.map_some, List.setIfInBounds_toArray]
                rw [List.set_append_left _ _ hlt', ← List.map_set]
              · rcases List.mem_or_eq_of_mem_set ha' with hm | hm
                · exact h4 a' hm
                · subst hm; exact hv
            · rw [if_neg hkk] at hk'
              obtain ⟨g1, g2, ⟨tl', g3⟩, g4⟩ := hr.blk k' b' hk'
              refine ⟨g1, g2, ⟨tl', ?_⟩, g4⟩
              rw [heap_setCell _ _ _ rfl, if_neg (fun he => hkk (hr.inj k k' b b' hk hk' he))]
              exact g3
          · rw [T.get_set] at hk1 hk2
            by_cases e1 : k = k1 <;> by_cases e2 : k = k2
            · omega
            · subst e1; rw [if_neg e2] at hk2; exact hr.inj _ _ b b2 hk hk2 he
            · subst e2; rw [if_neg e1] at hk1; exact hr.inj _ _ b1 b hk1 hk he
            · rw [if_neg e1] at hk1; rw [if_neg e2] at hk2; exact hr.inj _ _ b1 b2 hk1 hk2 he
          · rw [heap_setCell _ _ _ rfl, if_neg (by simp only; omega)]
            exact hr.old j hj
          · have hbk := hr.extb j c hj
            rw [World.cell?_setCell_other _ _ _ _ (by intro he; have := congrArg Addr.block he; simp only at this; omega)]
            exact hr.ext j c hj i a' ha
          · rw [World.frozen?_setCell]
            exact hr.frz c hc i hi
  | ext j0 =>
    cases j0 with
    | succ j0 => cases hw
    | zero =>
      simp only at hw
      cases hx : h.ext with
      | nil => rw [hx] at hw; cases hw
      | cons c rest =>
        rw [hx] at hw
        simp only at hw
        cases hb : Nat.blt o c.length with
        | false => rw [hb] at hw; cases hw
        | true =>
          rw [hb] at hw
          simp only [cond_true, Option.some.injEq] at hw
          subst hw
          have hlt : o < c.length := by simpa [Nat.blt_eq] using hb
          have h0 : h.ext[0]? = some c := by rw [hx]; rfl
          have hA : (⟨.ext 0, o⟩ : SA).den β e = ⟨(e.ext 0).block, (e.ext 0).off + o, none⟩ := rfl
          rw [hA]
          have hcell := (hr.ext 0 c h0 o c[o] (by simp [hlt])).1
          have hbk := hr.extb 0 c h0
          refine ⟨by rw [hcell]; rfl, hr.frz c h0 o hlt, ?_, rfl, rfl, rfl, rfl, rfl⟩
          refine ⟨hr.tape, hr.os, hr.output, ?_, fun k' b' hk' => ?_, hr.inj, fun j hj => ?_, fun x hx' => ?_, fun j c' hj => ?_, fun j c' hj i a' ha => ?_, fun c' hc i hi => ?_, fun j c' c0 hj hc hc0 i i' hi hi' => ?_, fun g c' hg => hr.gl g c' (by rw [hx]; simpa using hg), hr.facts⟩
          · simpa [World.setCell] using hr.size
          · obtain ⟨g1, g2, g3, g4⟩ := hr.blk k' b' hk'
            refine ⟨g1, g2, ?_, g4⟩
            rw [heap_setCell _ _ _ rfl, if_neg (by simp only; omega)]
            exact g3
          · simp only [apLog]
            rw [heap_setCell _ _ _ rfl, heap_setCell _ _ _ rfl, hr.old j hj]
          · rcases List.mem_cons.1 hx' with hm | hm
            · subst hm; exact hv
            · exact hr.logok x hm
          · cases j with
            | zero => exact hbk
            | succ j => exact hr.extb (j + 1) c' (by rw [hx]; simpa using hj)
          · cases j with
            | zero =>
              simp only [List.getElem?_cons_zero, Option.some.injEq] at hj
              subst hj
              by_cases hio : o = i
              · subst hio
                rw [List.getElem?_set_self hlt] at ha
                cases ha
                exact ⟨World.cell?_setCell_same _ _ _ hcell, hv⟩
              · rw [List.getElem?_set_ne hio] at ha
                rw [World.cell?_setCell_other _ _ _ _ (by intro he; have := congrArg Addr.off he; simp only at this; omega)]
                exact hr.ext 0 c h0 i a' ha
            | succ j =>
              have hj' : h.ext[j + 1]? = some c' := by rw [hx]; simpa using hj
              rw [World.cell?_setCell_other _ _ _ _ (Ne.symm (hr.dis (j + 1) c' c (by omega) hj' h0 i o (List.getElem?_eq_some_iff.1 ha).1 hlt))]
              exact hr.ext (j + 1) c' hj' i a' ha
          · rw [World.frozen?_setCell]
            simp only [List.getElem?_cons_zero, Option.some.injEq] at hc
            subst hc
            exact hr.frz c h0 i (by simpa using hi)
          · cases j with
            | zero => omega
            | succ j =>
              simp only [List.getElem?_cons_zero, Option.some.injEq] at hc0
              subst hc0
              exact hr.dis (j + 1) c' c hj (by rw [hx]; simpa using hc) h0 i i' hi (by simpa using hi')

/-- A row of cells is written. -/
theorem wr_sound : ∀ (vs : List Atom) {h : Hp} {w : World} (_ : HRel w0 e β h w) {r : Root} {o : Nat} (_ : ∀ v ∈ vs, v.ok h.cnt e) {h' : Hp} (_ : wr h r o vs = some h'),
    (∀ i, i < vs.length → (w.cell? ((⟨r, o + i⟩ : SA).den β e)).isSome = true ∧ w.frozen? ((⟨r, o + i⟩ : SA).den β e) = false) ∧
    HRel w0 e β h' (w.setCells ((⟨r, o⟩ : SA).den β e).block ((⟨r, o⟩ : SA).den β e).off (vs.map (Atom.den β e))) ∧
      h'.cnt = h.cnt ∧ h'.ni = h.ni ∧ h'.nb = h.nb ∧ h'.nf = h.nf ∧ h'.facts = h.facts
  | [], h, w, hr, r, o, _, h', hw => by
    simp only [wr, Option.some.injEq] at hw
    subst hw
    exact ⟨fun i hi => by simp at hi, hr, rfl, rfl, rfl, rfl, rfl⟩
  | v :: vs, h, w, hr, r, o, hv, h', hw => by
    unfold wr at hw
    cases h1 : wr1 h ⟨r, o⟩ v with
    | none => rw [h1] at hw; cases hw
    | some h2 =>
      rw [h1] at hw
      simp only at hw
      obtain ⟨a1, a2, a3, a4, a5, a6, a7, a8⟩ := wr1_sound hr (hv v (by simp)) h1
      obtain ⟨b1, b2, b3, b4, b5, b6, b7⟩ := wr_sound vs a3 (r := r) (o := o + 1) (fun v hm => by rw [a4]; exact hv v (by simp [hm])) hw
      have hsp : ∀ i, (⟨r, i⟩ : SA).den β e = ⟨((⟨r, o⟩ : SA).den β e).block, ((⟨r, i⟩ : SA).den β e).off, none⟩ := fun i => by cases r <;> rfl
      have hoff : ((⟨r, o + 1⟩ : SA).den β e).off = ((⟨r, o⟩ : SA).den β e).off + 1 := by cases r <;> simp [SA.den] <;> omega
      refine ⟨fun i hi => ?_, ?_, b3.trans a4, b4.trans a5, b5.trans a6, b6.trans a7, b7.trans a8⟩
      · cases i with
        | zero => exact ⟨a1, a2⟩
        | succ i =>
          have := b1 i (by simpa using hi)
          rw [show o + (i + 1) = o + 1 + i by omega]
          rw [World.frozen?_setCell] at this
          refine ⟨?_, this.2⟩
          have h3 := this.1
          by_cases he : (⟨r, o⟩ : SA).den β e = (⟨r, o + 1 + i⟩ : SA).den β e
          · rw [← he]; exact a1
          · rw [World.cell?_setCell_other _ _ _ _ he] at h3
            exact h3
      · have hs : (⟨r, o⟩ : SA).den β e = ⟨((⟨r, o⟩ : SA).den β e).block, ((⟨r, o⟩ : SA).den β e).off, none⟩ := hsp o
        have hblk : ((⟨r, o + 1⟩ : SA).den β e).block = ((⟨r, o⟩ : SA).den β e).block := by cases r <;> rfl
        rw [hblk, hoff] at b2
        rw [List.map_cons, World.setCells, ← hs]
        exact b2
end
end Go.Sx
