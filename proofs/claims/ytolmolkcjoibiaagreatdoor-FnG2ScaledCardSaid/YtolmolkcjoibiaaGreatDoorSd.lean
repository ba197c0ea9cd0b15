import Derived.Test.YtolmolkcjoibiaaGreatDoorSc
/- Aids to the claim: what is shown here is said at each theorem. -/
namespace Go.Sx
open Go

/-! ### Whole numbers that the code reckons -/
inductive ID where
  | ar (op : BinOp) (k : IntKind) (a b : IE)
  | bt (op : BinOp) (k : IntKind) (a b : IE)
  | sh (op : BinOp) (k : IntKind) (a : IE) (n : Nat)
  | dv (op : BinOp) (k : IntKind) (a : IE) (n : Int)
  | cv (k : IntKind) (a : IE)
  | fn (k : Nat) (l : List IE)

/-- How many bits a number has. -/
def blen (n : Nat) : Nat := if n = 0 then 0 else Nat.log2 n + 1
/-- A number's uppermost 33 bits behind its lowermost 31, where it has no more than n bits. -/
def approxN (x n : Nat) : Nat := if n ≤ 64 then x % 18446744073709551616 else x / 2 ^ (n - 33) % 8589934592 * 2147483648 + x % 2147483648
/-- What named functions of whole numbers are. -/
def itab (k : Nat) (l : List Int) : Int :=
  match k, l with
  | 1, [a, b, c, d] => (blen (v4 a b c d).toNat : Nat)
  | 2, [a, b, c, d, n] => (approxN (v4 a b c d).toNat n.toNat : Nat)
  | _, _ => 0
def ikind (k : Nat) : IntKind := bif Nat.beq (k % 2) 0 then .u64 else .i64

def arI (op : BinOp) (k : IntKind) (x y : Int) : Int :=
  match op with
  | .add => k.wrap (x + y)
  | .sub => k.wrap (x - y)
  | .mul => k.wrap (x * y)
  | _ => 0
def btI (op : BinOp) (k : IntKind) (x y : Int) : Int :=
  match op with
  | .and => k.wrap ((BitVec.ofInt k.bits x &&& BitVec.ofInt k.bits y).toNat : Nat)
  | .or => k.wrap ((BitVec.ofInt k.bits x ||| BitVec.ofInt k.bits y).toNat : Nat)
  | .xor => k.wrap ((BitVec.ofInt k.bits x ^^^ BitVec.ofInt k.bits y).toNat : Nat)
  | .andNot => k.wrap ((BitVec.ofInt k.bits x &&& ~~~BitVec.ofInt k.bits y).toNat : Nat)
  | _ => 0
def shI (op : BinOp) (k : IntKind) (x : Int) (n : Nat) : Int :=
  match op with
  | .shl => k.wrap (x * 2 ^ (min n k.bits))
  | .shr => x.fdiv (2 ^ (min n k.bits))
  | _ => 0
def dvI (op : BinOp) (k : IntKind) (x y : Int) : Int :=
  match op with
  | .quo => k.wrap (x.tdiv y)
  | .rem => x.tmod y
  | _ => 0
def ID.ev (g : IE → Int) : ID → Int
  | .ar op k a b => arI op k (g a) (g b)
  | .bt op k a b => btI op k (g a) (g b)
  | .sh op k a n => shI op k (g a) n
  | .dv op k a n => dvI op k (g a) n
  | .cv k a => k.wrap (g a)
  | .fn k l => (ikind k).wrap (itab k (l.map g))
def ID.kind : ID → IntKind
  | .ar _ k _ _ | .bt _ k _ _ | .sh _ k _ _ | .dv _ k _ _ | .cv k _ => k
  | .fn k _ => ikind k
def ID.cst : ID → Option Int
  | .ar op k (.c a) (.c b) => some (arI op k a b)
  | .bt op k (.c a) (.c b) => some (btI op k a b)
  | .sh op k (.c a) n => some (shI op k a n)
  | .dv op k (.c a) n => some (dvI op k a n)
  | .cv k (.c a) => some (k.wrap a)
  | _ => none
theorem ID.cst_sound {d : ID} {n : Int} (h : d.cst = some n) (e : Env) : d.ev (IE.den e) = n := by
  unfold ID.cst at h
  split at h <;> first | (cases h; rfl) | cases h

theorem wrap_inR (k : IntKind) (n : Int) : inR k (k.wrap n) := by
  cases k <;> simp only [inR, IntKind.min, IntKind.max, IntKind.wrap, IntKind.bits, IntKind.signed] <;> simp <;> (try split) <;> omega
theorem inR_between {k : IntKind} {x y : Int} (h : inR k x) (h1 : 0 ≤ y ∧ y ≤ x ∨ x ≤ y ∧ y ≤ 0) : inR k y := by
  cases k <;> simp only [inR, IntKind.min, IntKind.max, IntKind.bits, IntKind.signed] at h ⊢ <;> simp at h ⊢ <;> omega
theorem shr_inR {k : IntKind} {x : Int} (h : inR k x) (n : Nat) : inR k (x.fdiv (2 ^ n)) := by
  have hp : (0 : Int) < 2 ^ n := Int.pow_pos (by omega)
  refine inR_between h ?_
  rw [Int.fdiv_eq_ediv_of_nonneg _ (Int.le_of_lt hp)]
  rcases Int.lt_or_le x 0 with hx | hx
  · right
    refine ⟨?_, Int.le_of_lt (Int.ediv_neg_of_neg_of_pos hx hp)⟩
    rw [Int.le_ediv_iff_mul_le hp]
    have h1 : (1 : Int) ≤ 2 ^ n := by omega
    have h2 : x * 2 ^ n ≤ x * 1 := Int.mul_le_mul_of_nonpos_left (by omega) h1
    omega
  · left
    exact ⟨Int.ediv_nonneg hx (Int.le_of_lt hp), Int.ediv_le_self _ hx⟩
theorem tmod_inR {k : IntKind} {x : Int} (h : inR k x) (y : Int) : inR k (x.tmod y) := by
  have key : ∀ (m : Nat) (y : Int), 0 ≤ (m : Int).tmod y ∧ (m : Int).tmod y ≤ m := fun m y => by
    have nat : ∀ n : Nat, 0 ≤ (m : Int).tmod n ∧ (m : Int).tmod n ≤ m := fun n => by
      rw [show (m : Int).tmod n = ((m % n : Nat) : Int) from rfl]
      have := Nat.mod_le m n
      omega
    rcases Int.lt_or_le y 0 with hy | hy
    · obtain ⟨n, hn⟩ := Int.eq_ofNat_of_zero_le (show 0 ≤ -y by omega)
      have : y = -(n : Int) := by omega
      rw [this, Int.tmod_neg]
      exact nat n
    · obtain ⟨n, rfl⟩ := Int.eq_ofNat_of_zero_le hy
      exact nat n
  refine inR_between h ?_
  rcases Int.lt_or_le x 0 with hx | hx
  · obtain ⟨m, hm⟩ := Int.eq_ofNat_of_zero_le (show 0 ≤ -x by omega)
    have : x = -(m : Int) := by omega
    have hk := key m y
    rw [this, Int.neg_tmod]
    omega
  · obtain ⟨m, rfl⟩ := Int.eq_ofNat_of_zero_le hx
    exact .inl (key m y)

/-- A definition that the code may make. -/
def defOp (P : Program) (tm : T SV) : Op → Option ID
  | .binOp op _ x y _ => match evO tm x, evO tm y with
    | some (.one (.at (.int k a))), some (.one (.at (.int k' b))) => match op with
      | .add => bif decide (k = k') then some (.ar .add k a b) else none
      | .sub => bif decide (k = k') then some (.ar .sub k a b) else none
      | .mul => bif decide (k = k') then some (.ar .mul k a b) else none
      | .and => bif decide (k = k') then some (.bt .and k a b) else none
      | .or => bif decide (k = k') then some (.bt .or k a b) else none
      | .xor => bif decide (k = k') then some (.bt .xor k a b) else none
      | .andNot => bif decide (k = k') then some (.bt .andNot k a b) else none
      | .quo => match b with
        | .c n => bif decide (k = k') && !decide (n = 0) then some (.dv .quo k a n) else none
        | _ => none
      | .rem => match b with
        | .c n => bif decide (k = k') && !decide (n = 0) then some (.dv .rem k a n) else none
        | _ => none
      | .shl => match b with
        | .c n => bif decide (0 ≤ n) then some (.sh .shl k a n.toNat) else none
        | _ => none
      | .shr => match b with
        | .c n => bif decide (0 ≤ n) then some (.sh .shr k a n.toNat) else none
        | _ => none
      | _ => none
    | _, _ => none
  | .unOp .neg _ x => match evO tm x with
    | some (.one (.at (.int k a))) => some (.ar .sub k (.c 0) a)
    | _ => none
  | .unOp .xor _ x => match evO tm x with
    | some (.one (.at (.int k a))) => some (.bt .xor k (.c (if k.signed then -1 else k.max)) a)
    | _ => none
  | .convert src dst x => match evO tm x with
    | some (.one (.at (.int _ a))) => match P.underlying src, P.underlying dst with
      | some _, some (.int k') => some (.cv k' a)
      | _, _ => none
    | _ => none
  | _ => none

variable {P : Program} {e : Env} {β : Nat → Nat} {n : Nat}

theorem defOp_sound {tm : T SV} {a : Act} (hf : FOk β e n tm a) {o : Oper} {d : ID} (h : defOp P tm o.op = some d) :
    (∀ w, (execOp a.eval o).run P w = .ok (.value (.int d.kind (d.ev (IE.den e)))) w) ∧ inR d.kind (d.ev (IE.den e)) := by
  cases hop : o.op <;> rw [hop] at h <;> simp only [defOp, reduceCtorEq] at h
  case binOp op t x y t' =>
    have ex : ∀ (v : Value) w, (do eqGuard op t x y (a.eval x) (a.eval y); binOp op t (a.eval x) (a.eval y) : Sem Value).run P w = .ok v w → (execOp a.eval o).run P w = .ok (.value v) w := fun v w hv => by
      unfold execOp
      rw [hop]
      simp only
      rw [Sem.run_bind, hv]
      rfl
    split at h
    · rename_i k x' k' y' hx hy
      obtain ⟨h1, h2⟩ := evO_sound hf hx
      obtain ⟨h3, h4⟩ := evO_sound hf hy
      have h2' : inR k (x'.den e) := h2
      have gd : ∀ (v : Value) w, (binOp op t (.int k (x'.den e)) (.int k' (y'.den e))).run P w = .ok v w → (execOp a.eval o).run P w = .ok (.value v) w := fun v w hv => ex v w (by
        rw [h1, h3]
        simp only [SV.den, SV1.den, Atom.den, eqGuard_int, Sem.run_bind, Sem.run_pure, Result.andThen_ok]
        exact hv)
      have kk : ∀ {d' : ID}, (bif decide (k = k') then some d' else none) = some d → k = k' ∧ d' = d := fun h => by
        cases hk : decide (k = k') with
        | false => rw [hk] at h; cases h
        | true => rw [hk] at h; cases h; exact ⟨of_decide_eq_true hk, rfl⟩
      have kz : ∀ {d' : ID} {m : Int}, (bif decide (k = k') && !decide (m = 0) then some d' else none) = some d → k = k' ∧ m ≠ 0 ∧ d' = d := fun {d' m} h => by
        cases hk : (decide (k = k') && !decide (m = 0)) with
        | false => rw [hk] at h; cases h
        | true =>
          rw [hk] at h; cases h
          simp only [Bool.and_eq_true, decide_eq_true_eq, Bool.not_eq_true', decide_eq_false_iff_not] at hk
          exact ⟨hk.1, hk.2, rfl⟩
      have ks : ∀ {d' : ID} {m : Int}, (bif decide (0 ≤ m) then some d' else none) = some d → 0 ≤ m ∧ d' = d := fun {d' m} h => by
        cases hk : decide (0 ≤ m) with
        | false => rw [hk] at h; cases h
        | true => rw [hk] at h; cases h; exact ⟨of_decide_eq_true hk, rfl⟩
      cases op <;> simp only [reduceCtorEq] at h
      case add => obtain ⟨rfl, rfl⟩ := kk h; exact ⟨fun w => gd _ w (by rw [binOp_add]; rfl), wrap_inR _ _⟩
      case sub => obtain ⟨rfl, rfl⟩ := kk h; exact ⟨fun w => gd _ w (by rw [binOp_sub]; rfl), wrap_inR _ _⟩
      case mul => obtain ⟨rfl, rfl⟩ := kk h; exact ⟨fun w => gd _ w (by rw [binOp_mul]; rfl), wrap_inR _ _⟩
      case and => obtain ⟨rfl, rfl⟩ := kk h; exact ⟨fun w => gd _ w (by rw [binOp_and]; rfl), wrap_inR _ _⟩
      case or => obtain ⟨rfl, rfl⟩ := kk h; exact ⟨fun w => gd _ w (by rw [binOp_or]; rfl), wrap_inR _ _⟩
      case xor => obtain ⟨rfl, rfl⟩ := kk h; exact ⟨fun w => gd _ w (by rw [binOp_xor]; rfl), wrap_inR _ _⟩
      case andNot => obtain ⟨rfl, rfl⟩ := kk h; exact ⟨fun w => gd _ w (by rw [binOp_andNot]; rfl), wrap_inR _ _⟩
      case quo =>
        split at h
        · rename_i m
          obtain ⟨rfl, hm, rfl⟩ := kz h
          exact ⟨fun w => gd _ w (by rw [binOp_quo]; show (Op.intDiv .quo k (x'.den e) m).run P w = _; unfold Op.intDiv; rw [if_neg hm]; rfl), wrap_inR _ _⟩
        · cases h
      case rem =>
        split at h
        · rename_i m
          obtain ⟨rfl, hm, rfl⟩ := kz h
          exact ⟨fun w => gd _ w (by rw [binOp_rem]; show (Op.intDiv .rem k (x'.den e) m).run P w = _; unfold Op.intDiv; rw [if_neg hm]; rfl), tmod_inR h2' _⟩
        · cases h
      case shl =>
        split at h
        · rename_i m
          obtain ⟨hm, rfl⟩ := ks h
          exact ⟨fun w => gd _ w (by rw [binOp_shl]; show (Op.shift .shl k (x'.den e) k' m).run P w = _; unfold Op.shift; rw [if_neg (Int.not_lt.2 hm)]; rfl), wrap_inR _ _⟩
        · cases h
      case shr =>
        split at h
        · rename_i m
          obtain ⟨hm, rfl⟩ := ks h
          exact ⟨fun w => gd _ w (by rw [binOp_shr]; show (Op.shift .shr k (x'.den e) k' m).run P w = _; unfold Op.shift; rw [if_neg (Int.not_lt.2 hm)]; rfl), shr_inR h2' _⟩
        · cases h
    · cases h
  case unOp op t x =>
    cases op <;> simp only [reduceCtorEq] at h
    case neg =>
      split at h
      · rename_i k x' hx
        cases h
        obtain ⟨h1, _⟩ := evO_sound hf hx
        refine ⟨fun w => ?_, wrap_inR _ _⟩
        unfold execOp
        rw [hop]
        simp only [h1, SV.den, SV1.den, Atom.den, Op.unary, Op.intArith, Sem.run_bind, Sem.run_pure, Result.andThen_ok]
        rfl
      · cases h
    case xor =>
      split at h
      · rename_i k x' hx
        cases h
        obtain ⟨h1, _⟩ := evO_sound hf hx
        refine ⟨fun w => ?_, wrap_inR _ _⟩
        unfold execOp
        rw [hop]
        simp only [h1, SV.den, SV1.den, Atom.den, Op.unary, Op.intBits, Sem.run_bind, Sem.run_pure, Result.andThen_ok]
        rfl
      · cases h
  case convert src dst x =>
    split at h
    · rename_i k x' hx
      split at h
      · rename_i ds k' hs hd
        cases h
        obtain ⟨h1, _⟩ := evO_sound hf hx
        refine ⟨fun w => ?_, wrap_inR _ _⟩
        unfold execOp
        rw [hop]
        have hc : (convert src dst (.int k (x'.den e))).run P w = .ok (.int k' (k'.wrap (x'.den e))) w := by
          simp [convert, run_underlying hs, run_underlying hd, Conv.intToInt]
        simp only [h1, SV.den, SV1.den, Atom.den, Sem.run_bind, hc, Result.andThen_ok, Sem.run_pure]
        rfl
      · cases h
    · cases h
end Go.Sx
namespace Go.Sx
open Go

/-! ### What has been reckoned on the way -/
inductive FD where
  | add (a b : Nat) | sub (a b : Nat) | mul (a b : Nat) | neg (a : Nat) | pow (a n : Nat) | k (n : Nat) | w (a b c d : IE) | wm (a b c d : IE) | fn (k : Nat) (l : List Nat)
def FD.ev (e : Env) : FD → Fq
  | .add a b => e.f a + e.f b
  | .sub a b => e.f a - e.f b
  | .mul a b => e.f a * e.f b
  | .neg a => - e.f a
  | .pow a n => fpow (e.f a) n
  | .k n => Fin.ofNat q n
  | .w x y z t => Fin.ofNat q (v4 (x.den e) (y.den e) (z.den e) (t.den e)).toNat
  | .wm x y z t => unmont (v4 (x.den e) (y.den e) (z.den e) (t.den e)).toNat
  | .fn m l => ftab m (l.map e.f)
/-- A definition: of a number; of a sum with its carry, a difference with its borrow, a product's two words; of an element; of a truth. -/
inductive Dn where
  | i (n : Nat) (d : ID)
  | ad (n nb : Nat) (x y z : IE)
  | sb (n nb : Nat) (x y z : IE)
  | mu (nh nl : Nat) (x y : IE)
  | f (n : Nat) (d : FD)
  | b (n : Nat) (x : BE)
def Dn.holds (e : Env) : Dn → Prop
  | .i n d => e.i n = d.ev (IE.den e)
  | .ad n m x y z => e.i n = (x.den e + y.den e + z.den e) % 18446744073709551616 ∧ e.b m = decide (18446744073709551616 ≤ x.den e + y.den e + z.den e)
  | .sb n m x y z => e.i n = (x.den e - y.den e - z.den e) % 18446744073709551616 ∧ e.b m = decide (x.den e < y.den e + z.den e)
  | .mu n m x y => e.i n = x.den e * y.den e / 18446744073709551616 ∧ e.i m = x.den e * y.den e % 18446744073709551616
  | .f n d => e.f n = d.ev e
  | .b n x => e.b n = x.den e
inductive Tree (L : Type) where
  | leaf (l : L)
  | no
  | dn (d : Dn) (t : Tree L)
  | br (b : BE) (t f : Tree L)
def Tree.holds {L : Type} (e : Env) (Φ : L → Prop) : Tree L → Prop
  | .leaf l => Φ l
  | .no => False
  | .dn d t => d.holds e ∧ t.holds e Φ
  | .br b t f => (b.den e = true → t.holds e Φ) ∧ (b.den e = false → f.holds e Φ)
def dns {L : Type} : List Dn → Option (Tree L) → Option (Tree L)
  | [], t => t
  | d :: ds, t => (dns ds t).map (Tree.dn d)
theorem dns_holds {L : Type} {e : Env} {Φ : L → Prop} : ∀ {ds : List Dn} {t : Option (Tree L)} {u : Tree L}, dns ds t = some u → u.holds e Φ →
    (∀ d ∈ ds, d.holds e) ∧ ∃ v, t = some v ∧ v.holds e Φ
  | [], t, u, h, hu => ⟨by simp, u, h, hu⟩
  | d :: ds, t, u, h, hu => by
    obtain ⟨v, hv, rfl⟩ := Option.map_eq_some_iff.1 h
    obtain ⟨h1, h2⟩ := dns_holds hv hu.2
    refine ⟨fun x hx => ?_, h2⟩
    rcases List.mem_cons.1 hx with hx | hx
    · subst hx; exact hu.1
    · exact h1 x hx

/-! ### Open tests -/
/-- A test that the facts leave open. -/
def BE.atom (fs : List (BE × Bool)) : BE → Option BE
  | .c _ => none
  | .not x => x.atom fs
  | .and x y => match x.nb fs with
    | none => x.atom fs
    | some _ => y.atom fs
  | .or x y => match x.nb fs with
    | none => x.atom fs
    | some _ => y.atom fs
  | x => match look fs x with
    | none => some x
    | some _ => none

def withF (h : Hp) (fs : List (BE × Bool)) : Hp := { h with facts := fs }
def decideB {L : Type} : Nat → BE → Hp → (Bool → Hp → Option (Tree L)) → Option (Tree L)
  | 0, _, _, _ => none
  | n + 1, x, h, k => match x.nb h.facts with
    | some b => k b h
    | none => match x.atom h.facts with
      | some y => match decideB n x (withF h ((y, true) :: h.facts)) k, decideB n x (withF h ((y, false) :: h.facts)) k with
        | some t, some f => some (.br y t f)
        | _, _ => none
      | none => none

theorem HRel.withF {w0 : World} {e : Env} {β : Nat → Nat} {h : Hp} {w : World} (hr : HRel w0 e β h w) {fs : List (BE × Bool)} (hf : Facts e fs) : HRel w0 e β (withF h fs) w :=
  ⟨hr.tape, hr.os, hr.output, hr.size, hr.blk, hr.inj, hr.old, hr.logok, hr.extb, hr.ext, hr.frz, hr.dis, hf⟩

theorem decideB_sound {L : Type} {w0 : World} {e : Env} {β : Nat → Nat} {w : World} {Φ : L → Prop} {C : Prop} : ∀ (n : Nat) {x : BE} {h : Hp} {k : Bool → Hp → Option (Tree L)} {tree : Tree L},
    decideB n x h k = some tree → tree.holds e Φ → HRel w0 e β h w →
    (∀ b fs tree', HRel w0 e β (withF h fs) w → x.den e = b → k b (withF h fs) = some tree' → tree'.holds e Φ → C) → C
  | 0, _, _, _, _, hd, _, _, _ => by cases hd
  | n + 1, x, h, k, tree, hd, ht, hr, hk => by
    unfold decideB at hd
    split at hd
    · rename_i b hb
      exact hk b h.facts tree hr (BE.nb_sound hr.facts hb) hd ht
    · split at hd
      · rename_i y hy
        split at hd
        · rename_i t f h1 h2
          cases hd
          cases hyb : y.den e with
          | true =>
            have hr' : HRel w0 e β (withF h ((y, true) :: h.facts)) w := hr.withF fun z hz => by
              rcases List.mem_cons.1 hz with hz | hz
              · subst hz; exact hyb
              · exact hr.facts z hz
            exact decideB_sound n h1 (ht.1 hyb) hr' fun b fs tree' h1 h2 h3 h4 => hk b fs tree' h1 h2 h3 h4
          | false =>
            have hr' : HRel w0 e β (withF h ((y, false) :: h.facts)) w := hr.withF fun z hz => by
              rcases List.mem_cons.1 hz with hz | hz
              · subst hz; exact hyb
              · exact hr.facts z hz
            exact decideB_sound n h2 (ht.2 hyb) hr' fun b fs tree' h1 h2 h3 h4 => hk b fs tree' h1 h2 h3 h4
        · cases hd
      · cases hd

/-! ### The walk -/
structure St where
  tm : T SV
  n : Nat
  h : Hp
inductive Xt where
  | normal | exit (id : Nat) | ret
def Xt.ex : Xt → Exit
  | .normal => .normal
  | .exit id => .exit id
  | .ret => .ret

abbrev QSum := FuncId → List SV → Hp → Option (List Dn × SV × Hp)

def putS (st : St) (h : Hp) (dst : Option Tmp) (v : SV) : Option St :=
  match dst with
  | none => some { st with h := h }
  | some d => bif Nat.blt d st.n then some { tm := st.tm.set d v, n := st.n, h := h } else none
def evs (tm : T SV) : List Operand → Option (List SV)
  | [] => some []
  | x :: xs => match evO tm x, evs tm xs with
    | some s, some l => some (s :: l)
    | _, _ => none
def newH {L : Type} (h : Hp) (cells : List Atom) (t : TypeId) (k : SV → Hp → Option (Tree L)) : Option (Tree L) :=
  k (.one (.at (.ptr ⟨.own h.cnt, 0⟩))) (allocH h cells t)

def newS {L : Type} (h : Hp) (cells : List Atom) (t : TypeId) (l c : Nat) (k : SV → Hp → Option (Tree L)) : Option (Tree L) :=
  k (.one (.at (.slice ⟨.own h.cnt, 0⟩ l c))) (allocH h cells t)
/-- A row of zero values. -/
def repL (z : List Atom) (m : Nat) : List Atom := (List.range m).map fun j => z.getD (j % z.length) (.bool (.c false))
/-- The cells of a slice that is built. -/
def bsCells (P : Program) (el : TypeId) (len : Nat) (l : List (Nat × SV)) : Option (List Atom) :=
  match P.info? el, zeroT P el with
  | some i, some z => bif Nat.blt 0 (len * i.size) && Nat.ble (len * i.size) 16777216 && Nat.blt 0 z.length then fillA (fun j => some (j * i.size, i.size)) (repL z (len * i.size)) l else none
  | _, _ => none
def msCells (P : Program) (el : TypeId) (l c : Int) : Option (List Atom) :=
  match P.info? el, zeroT P el with
  | some i, some z => bif decide (0 ≤ l) && decide (l ≤ c) && decide (c ≤ 1048576) && Nat.blt 0 (c.toNat * i.size) && Nat.ble (c.toNat * i.bytes) 16777216 && Nat.blt 0 z.length then some (repL z (c.toNat * i.size)) else none
  | _, _ => none
def inRs : SV → Bool
  | .one (.at (.int k (.c n))) => inRb k n
  | _ => false
/-- len and cap. -/
def bltn (P : Program) (b : Builtin) (ts : Array TypeId) (args : List SV) : Option SV :=
  match ts[0]?, args with
  | some t, [.one (.at (.slice _ l _))] => match P.underlying t with
    | some (.slice _) => match b with
      | .len => some (.one (.at (.int .i64 (.c l))))
      | _ => none
    | _ => none
  | _, _ => none

/-- max and min of two whole numbers. -/
def mmOp {L : Type} (b : Builtin) (args : List SV) (h : Hp) (k : SV → Hp → Option (Tree L)) : Option (Tree L) :=
  match b, args with
  | .max, [.one (.at (.int t x)), .one (.at (.int t' y))] => bif decide (t = t') then decideB 20 (ltI x y) h fun c h => k (.one (.at (.int t (bif c then y else x)))) h else none
  | .min, [.one (.at (.int t x)), .one (.at (.int t' y))] => bif decide (t = t') then decideB 20 (ltI y x) h fun c h => k (.one (.at (.int t (bif c then y else x)))) h else none
  | _, _ => none
section
variable {L : Type} (P : Program) (qf pf : QSum) (callF : FuncId → List SV → Hp → (SV → Hp → Option (Tree L)) → Option (Tree L))

/-- What is neither pure nor a definition. -/
def effOp (g : Bool) (tm : T SV) (h : Hp) (k : SV → Hp → Option (Tree L)) : Op → Option (Tree L)
  | .load t a => match ap1 (loadOp P h t) (evO tm a) with
    | some s => k s h
    | none => none
  | .store t a v => match evO tm a, evO tm v with
    | some a, some v => match storeOp P h t a v with
      | some h' => k (.tup []) h'
      | none => none
    | _, _ => none
  | .alloc t => match zeroT P t with
    | some cs => newH h cs t k
    | none => none
  | .box t x => bif g then none else match evO tm x with
    | some s => match cellsOf s with
      | some cs => newH h cs t k
      | none => none
    | none => none
  | .call c => match c.callee with
    | .value (.func f) => match evs tm c.args.toList with
      | some args => match qf f args h with
        | some (ds, v, h') => dns ds (k v h')
        | none => bif g || Nat.beq f pFn then none else match pf f args h with
          | some (ds, v, h') => dns ds (k v h')
          | none => callF f args h k
      | none => none
    | .builtin b => match evs tm c.args.toList with
      | some args => match bltn P b c.argTypes args with
        | some v => bif inRs v then k v h else none
        | none => bif g then none else mmOp b args h k
      | none => none
    | _ => none
  | .buildSlice t len ps => bif g then none else match P.underlying t, evPs tm ps.toList with
    | some (.slice el), some l => match bsCells P el len l with
      | some cs => newS h cs el len len k
      | none => none
    | _, _ => none
  | .makeSlice t l c => bif g then none else match P.underlying t, evO tm l, evO tm c with
    | some (.slice el), some (.one (.at (.int _ (.c l)))), some (.one (.at (.int _ (.c c)))) => match msCells P el l c with
      | some cs => newS h cs el l.toNat c.toNat k
      | none => none
    | _, _, _ => none
  | _ => none

def doOp (g : Bool) (tm : T SV) (h : Hp) (op : Op) (k : SV → Hp → Option (Tree L)) : Option (Tree L) :=
  match pureOp P h.facts tm op with
  | some s => k s h
  | none => match defOp P tm op with
    | some d => match d.cst with
      | some c => k (.one (.at (.int d.kind (.c c)))) h
      | none => (k (.one (.at (.int d.kind (.v h.ni)))) { h with ni := h.ni + 1 }).map (Tree.dn (.i h.ni d))
    | none => effOp P qf pf callF g tm h k op

/-- Is the operation wanted? -/
def wantB (opsL : List Oper) (tm : T SV) (h : Hp) (o : Oper) (k : Bool → Hp → Option (Tree L)) : Option (Tree L) :=
  match o.guard with
  | none => k true h
  | some (j, want) => match opsL[j]? with
    | some oj => match oj.dst with
      | some d => match tm.get d with
        | some (.one (.at (.bool b))) => decideB 20 b h fun t h => k (t == want) h
        | some (.tup _) => k false h
        | _ => none
      | none => none
    | none => none

def sxOps (g : Bool) (opsL : List Oper) : List Oper → St → (St → Option (Tree L)) → Option (Tree L)
  | [], st, k => k st
  | o :: rest, st, k => wantB opsL st.tm st.h o fun want h =>
    bif want then doOp P qf pf callF g st.tm h o.op fun v h' => match putS st h' o.dst v with
      | some st' => sxOps g opsL rest st' k
      | none => none
    else match putS st h o.dst (.tup []) with
      | some st' => sxOps g opsL rest st' k
      | none => none
end

def argsT : List SV → Nat → T SV → T SV
  | [], _, t => t
  | s :: l, i, t => argsT l (i + 1) (t.set i s)
def resV (P : Program) (tm : T SV) (h : Hp) : ResultVar → Option SV1
  | .tmp t => match tm.get t with
    | some (.one x) => some x
    | _ => none
  | .cell a t => match ap1 (loadOp P h t) (tm.get a) with
    | some (.one x) => some x
    | _ => none
def resVs (P : Program) (tm : T SV) (h : Hp) : List ResultVar → Option (List SV1)
  | [] => some []
  | r :: rs => match resV P tm h r, resVs P tm h rs with
    | some x, some l => some (x :: l)
    | _, _ => none
def resS : List SV1 → SV
  | [x] => .one x
  | l => .tup l

/-- A region that draws: the way to walk it. -/
def wayOf (draw : Bool) (ops : Array Oper) : Option Bool :=
  bif draw then (bif okDraw false ops then some false else bif okDraw true ops then some true else none) else some false

def sx {L : Type} (P : Program) (qf pf : QSum) : Nat → Code → St → (Xt → St → Option (Tree L)) → Option (Tree L)
  | 0, _, _, _ => none
  | n + 1, c, st, k => match c with
    | .skip => k .normal st
    | .ret => k .ret st
    | .exit id => k (.exit id) st
    | .seq a b => sx P qf pf n a st fun x st' => match x with
      | .normal => sx P qf pf n b st' k
      | x => k x st'
    | .block id b => sx P qf pf n b st fun x st' => match x with
      | .exit id' => bif Nat.beq id' id then k .normal st' else k (.exit id') st'
      | x => k x st'
    | .loop b => sx P qf pf n b st fun x st' => match x with
      | .normal => sx P qf pf n (.loop b) st' k
      | x => k x st'
    | .cond c a b => match evO st.tm c with
      | some (.one (.at (.bool t))) => decideB 20 t st.h fun t h => bif t then sx P qf pf n a { st with h := h } k else sx P qf pf n b { st with h := h } k
      | _ => none
    | .region _ ops draw => match wayOf draw ops with
      | some g => sxOps P qf pf (fun f args h kk => match P.funcs[f]? with
          | some fn => match fn.body with
            | some body => sx P qf pf n body { tm := argsT args 0 .leaf, n := max fn.ntmps args.length, h := h } fun x st' => match x with
              | .exit _ => none
              | _ => match resVs P st'.tm st'.h fn.results.toList with
                | some l => kk (resS l) st'.h
                | none => none
            | none => none
          | none => none) g ops.toList ops.toList st fun st' => k .normal st'
      | none => some .no
    | _ => none

/-- A call, walked from its head. -/
def sxCall {L : Type} (P : Program) (qf pf : QSum) (n : Nat) (f : FuncId) (args : List SV) (h : Hp) (kk : SV → Hp → Option (Tree L)) : Option (Tree L) :=
  match P.funcs[f]? with
  | some fn => match fn.body with
    | some body => sx P qf pf n body { tm := argsT args 0 .leaf, n := max fn.ntmps args.length, h := h } fun x st' => match x with
      | .exit _ => none
      | _ => match resVs P st'.tm st'.h fn.results.toList with
        | some l => kk (resS l) st'.h
        | none => none
    | none => none
  | none => none
end Go.Sx
namespace Go.Sx
open Go
def carryB : IE → Bool
  | .c n => n == 0 || n == 1
  | .b _ => true
  | _ => false
/-- math/bits: Add64, Sub64, Mul64, by their numbers. -/
def bitsF (fa fs fm : FuncId) : QSum := fun f args h =>
  bif Nat.beq f fa then match args with
    | [.one (.at (.int .u64 x)), .one (.at (.int .u64 y)), .one (.at (.int .u64 z))] =>
      bif carryB z then some ([.ad h.ni h.nb x y z], .tup [.at (.int .u64 (.v h.ni)), .at (.int .u64 (.b h.nb))], { h with ni := h.ni + 1, nb := h.nb + 1 }) else none
    | _ => none
  else bif Nat.beq f fs then match args with
    | [.one (.at (.int .u64 x)), .one (.at (.int .u64 y)), .one (.at (.int .u64 z))] =>
      bif carryB z then some ([.sb h.ni h.nb x y z], .tup [.at (.int .u64 (.v h.ni)), .at (.int .u64 (.b h.nb))], { h with ni := h.ni + 1, nb := h.nb + 1 }) else none
    | _ => none
  else bif Nat.beq f fm then match args with
    | [.one (.at (.int .u64 x)), .one (.at (.int .u64 y))] =>
      some ([.mu h.ni (h.ni + 1) x y], .tup [.at (.int .u64 (.v h.ni)), .at (.int .u64 (.v (h.ni + 1)))], { h with ni := h.ni + 2 })
    | _ => none
  else none
def noF : QSum := fun _ _ _ => none
/-- One table, behind it another. -/
def orF (a b : QSum) : QSum := fun f args h => match a f args h with
  | some r => some r
  | none => b f args h
/-- Four words by their names. -/
def ws (k : Nat) : List Atom := [.int .u64 (.v k), .int .u64 (.v (k + 1)), .int .u64 (.v (k + 2)), .int .u64 (.v (k + 3))]
def ems (k : Nat) : List Atom := [.int .u64 (.em k 0), .int .u64 (.em k 1), .int .u64 (.em k 2), .int .u64 (.em k 3)]
def eps (k : Nat) : List Atom := [.int .u64 (.ep k 0), .int .u64 (.ep k 1), .int .u64 (.ep k 2), .int .u64 (.ep k 3)]
def hp0 (ext : List (List Atom)) (ni nf : Nat) : Hp := { blk := .leaf, cnt := 0, ni := ni, nb := 0, nf := nf, ext := ext, log := [], facts := [] }
def pt (j : Nat) : SV := .one (.at (.ptr ⟨.ext j, 0⟩))
/-- What a leaf of a contract tells: the value, what has been written through the first pointer. -/
abbrev Lf := SV × List (Nat × Atom)
def leafE : SV → Hp → Option (Tree (SV × List (Nat × Atom))) := fun v h => some (.leaf (v, h.log))

structure W4 where
  a : IE
  b : IE
  c : IE
  d : IE
def toW4 : List Atom → Option W4
  | [.int .u64 x, .int .u64 y, .int .u64 z, .int .u64 t] => some ⟨x, y, z, t⟩
  | _ => none
def rd4 (h : Hp) (a : SA) : Option W4 :=
  match rd h a 4 with
  | some l => toW4 l
  | none => none
/-- The words of an element in Montgomery's form, the plain ones, of a constant. -/
def W4.em? (w : W4) : Option Nat :=
  match w.a, w.b, w.c, w.d with
  | .em e 0, .em f 1, .em g 2, .em k 3 => bif Nat.beq e f && Nat.beq e g && Nat.beq e k then some e else none
  | _, _, _, _ => none
def W4.ep? (w : W4) : Option Nat :=
  match w.a, w.b, w.c, w.d with
  | .ep e 0, .ep f 1, .ep g 2, .ep k 3 => bif Nat.beq e f && Nat.beq e g && Nat.beq e k then some e else none
  | _, _, _, _ => none
def W4.c? (w : W4) : Option Int :=
  match w.a, w.b, w.c, w.d with
  | .c x, .c y, .c z, .c t => some (v4 x y z t)
  | _, _, _, _ => none
def W4.lowB (w : W4) : BE :=
  match w.em?, w.ep?, w.c? with
  | some _, _, _ => .c true
  | none, some _, _ => .c true
  | none, none, some n => .c (decide (n < 21888242871839275222246405745257275088696311157297823662689037894645226208583))
  | none, none, none => .low w.a w.b w.c w.d
/-- 'smallerThanModulus' of an element behind a pointer. -/
def smF (fn : FuncId) : QSum := fun f args h =>
  bif Nat.beq f fn then match args with
    | [.one (.at (.ptr a))] => match rd4 h a with
      | some w => some ([], .one (.at (.bool w.lowB)), h)
      | none => none
    | _ => none
  else none
end Go.Sx
