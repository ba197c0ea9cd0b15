import Derived.Test.YtolmolkcjoibiaaDoorSc
/- Aids to the claim: what is shown here is said at each theorem. -/
namespace Go.Sx
open Go

/-! ### Whole numbers that the code reckons -/
inductive ID where
  | ar (op : BinOp) (k : IntKind) (a b : IE)
  | bt (op : BinOp) (k : IntKind) (a b : IE)
  | sh (op : BinOp) (k : IntKind) (a : IE) (n : Nat)
  | dv (op : BinOp) (k : IntKind) (a : IE) (n : Int)
  | cv (k : IntKind) (a : IE)
  | fn (k : Nat) (l : List IE)

/-- How many bits a number has. -/
def blen (n : Nat) : Nat := if n = 0 then 0 else Nat.log2 n + 1
/-- A number's uppermost 33 bits behind its lowermost 31, where it has no more than n bits. -/
def approxN (x n : Nat) : Nat := if n ≤ 64 then x % 18446744073709551616 else x / 2 ^ (n - 33) % 8589934592 * 2147483648 + x % 2147483648
/-- What named functions of whole numbers are. -/
def itab (k : Nat) (l : List Int) : Int :=
  match k, l with
  | 1, [a, b, c, d] => (blen (v4 a b c d).toNat : Nat)
  | 2, [a, b, c, d, n] => (approxN (v4 a b c d).toNat n.toNat : Nat)
  | _, _ => 0
def ikind (k : Nat) : IntKind := bif Nat.beq (k % 2) 0 then .u64 else .i64

def arI (op : BinOp) (k : IntKind) (x y : Int) : Int :=
  match op with
  | .add => k.wrap (x + y)
  | .sub => k.wrap (x - y)
  | .mul => k.wrap (x * y)
  | _ => 0
def btI (op : BinOp) (k : IntKind) (x y : Int) : Int :=
  match op with
  | .and => k.wrap ((BitVec.ofInt k.bits x &&& BitVec.ofInt k.bits y).toNat : Nat)
  | .or => k.wrap ((BitVec.ofInt k.bits x ||| BitVec.ofInt k.bits y).toNat : Nat)
  | .xor => k.wrap ((BitVec.ofInt k.bits x ^^^ BitVec.ofInt k.bits y).toNat : Nat)
  | .andNot => k.wrap ((BitVec.ofInt k.bits x &&& ~~~BitVec.ofInt k.bits y).toNat : Nat)
  | _ => 0
def shI (op : BinOp) (k : IntKind) (x : Int) (n : Nat) : Int :=
  match op with
  | .shl => k.wrap (x * 2 ^ (min n k.bits))
  | .shr => x.fdiv (2 ^ (min n k.bits))
  | _ => 0
def dvI (op : BinOp) (k : IntKind) (x y : Int) : Int :=
  match op with
  | .quo => k.wrap (x.tdiv y)
  | .rem => x.tmod y
  | _ => 0
def ID.ev (g : IE → Int) : ID → Int
  | .ar op k a b => arI op k (g a) (g b)
  | .bt op k a b => btI op k (g a) (g b)
  | .sh op k a n => shI op k (g a) n
  | .dv op k a n => dvI op k (g a) n
  | .cv k a => k.wrap (g a)
  | .fn k l => (ikind k).wrap (itab k (l.map g))
def ID.kind : ID → IntKind
  | .ar _ k _ _ | .bt _ k _ _ | .sh _ k _ _ | .dv _ k _ _ | .cv k _ => k
  | .fn k _ => ikind k
def ID.cst : ID → Option Int
  | .ar op k (.c a) (.c b) => some (arI op k a b)
  | .bt op k (.c a) (.c b) => some (btI op k a b)
  | .sh op k (.c a) n => some (shI op k a n)
  | .dv op k (.c a) n => some (dvI op k a n)
  | .cv k (.c a) => some (k.wrap a)
  | _ => none
theorem ID.cst_sound {d : ID} {n : Int} (h : d.cst = some n) (e : Env) : d.ev (IE.den e) = n := by
  unfold ID.cst at h
  split at h <;> first | (cases h; rfl) | cases h

theorem wrap_inR (k : IntKind) (n : Int) : inR k (k.wrap n) := by
  cases k <;> simp only [inR, IntKind.min, IntKind.max, IntKind.wrap, IntKind.bits, IntKind.signed] <;> simp <;> (try split) <;> omega
theorem inR_between {k : IntKind} {x y : Int} (h : inR k x) (h1 : 0 ≤ y ∧ y ≤ x ∨ x ≤ y ∧ y ≤ 0) : inR k y := by
  cases k <;> simp only [inR, IntKind.min, IntKind.max, IntKind.bits, IntKind.signed] at h ⊢ <;> simp at h ⊢ <;> omega
theorem shr_inR {k : IntKind} {x : Int} (h : inR k x) (n : Nat) : inR k (x.fdiv (2 ^ n)) := by
  have hp : (0 : Int) < 2 ^ n := Int.pow_pos (by omega)
  refine inR_between h ?_
  rw [Int.fdiv_eq_ediv_of_nonneg _ (Int.le_of_lt hp)]
  rcases Int.lt_or_le x 0 with hx | hx
  · right
    refine ⟨?_, Int.le_of_lt (Int.ediv_neg_of_neg_of_pos hx hp)⟩
    rw [Int.le_ediv_iff_mul_le hp]
    have h1 : (1 : Int) ≤ 2 ^ n := by omega
    have h2 : x * 2 ^ n ≤ x * 1 := Int.mul_le_mul_of_nonpos_left (by omega) h1
    omega
  · left
    exact ⟨Int.ediv_nonneg hx (Int.le_of_lt hp), Int.ediv_le_self _ hx⟩
theorem tmod_inR {k : IntKind} {x : Int} (h : inR k x) (y : Int) : inR k (x.tmod y) := by
  have key : ∀ (m : Nat) (y : Int), 0 ≤ (m : Int).tmod y ∧ (m : Int).tmod y ≤ m := fun m y => by
    have nat : ∀ n : Nat, 0 ≤ (m : Int).tmod n ∧ (m : Int).tmod n ≤ m := fun n => by
      rw [show (m : Int).tmod n = ((m % n : Nat) : Int) from rfl]
      have := Nat.mod_le m n
      omega
    rcases Int.lt_or_le y 0 with hy | hy
    · obtain ⟨n, hn⟩ := Int.eq_ofNat_of_zero_le (show 0 ≤ -y by omega)
      have : y = -(n : Int) := by omega
      rw [this, Int.tmod_neg]
      exact nat n
    · obtain ⟨n, rfl⟩ := Int.eq_ofNat_of_zero_le hy
      exact nat n
  refine inR_between h ?_
  rcases Int.lt_or_le x 0 with hx | hx
  · obtain ⟨m, hm⟩ := Int.eq_ofNat_of_zero_le (show 0 ≤ -x by omega)
    have : x = -(m : Int) := by omega
    have hk := key m y
    rw [this, Int.neg_tmod]
    omega
  · obtain ⟨m, rfl⟩ := Int.eq_ofNat_of_zero_le hx
    exact .inl (key m y)

/-- A definition that the code may make. -/
def defOp (P : Program) (tm : T SV) : Op → Option ID
  | .binOp op _ x y _ => match evO tm x, evO tm y with
    | some (.one (.at (.int k a))), some (.one (.at (.int k' b))) => match op with
      | .add => bif decide (k = k') then some (.ar .add k a b) else none
      | .sub => bif decide (k = k') then some (.ar .sub k a b) else none
      | .mul => bif decide (k = k') then some (.ar .mul k a b) else none
      | .and => bif decide (k = k') then some (.bt .and k a b) else none
      | .or => bif decide (k = k') then some (.bt .or k a b) else none
      | .xor => bif decide (k = k') then some (.bt .xor k a b) else none
      | .andNot => bif decide (k = k') then some (.bt .andNot k a b) else none
      | .quo => match b with
        | .c n => bif decide (k = k') && !decide (n = 0) then some (.dv .quo k a n) else none
        | _ => none
      | .rem => match b with
        | .c n => bif decide (k = k') && !decide (n = 0) then some (.dv .rem k a n) else none
        | _ => none
      | .shl => match b with
        | .c n => bif decide (0 ≤ n) then some (.sh .shl k a n.toNat) else none
        | _ => none
      | .shr => match b with
        | .c n => bif decide (0 ≤ n) then some (.sh .shr k a n.toNat) else none
        | _ => none
      | _ => none
    | _, _ => none
  | .unOp .neg _ x => match evO tm x with
    | some (.one (.at (.int k a))) => some (.ar .sub k (.c 0) a)
    | _ => none
  | .unOp .xor _ x => match evO tm x with
    | some (.one (.at (.int k a))) => some (.bt .xor k (.c (if k.signed then -1 else k.max)) a)
    | _ => none
  | .convert src dst x => match evO tm x with
    | some (.one (.at (.int _ a))) => match P.underlying src, P.underlying dst with
      | some _, some (.int k') => some (.cv k' a)
      | _, _ => none
    | _ => none
  | _ => none

variable {P : Program} {e : Env} {β : Nat → Nat} {n : Nat}

theorem defOp_sound {tm : T SV} {a : Act} (hf : FOk β e n tm a) {o : Oper} {d : ID} (h : defOp P tm o.op = some d) :
    (∀ w, (execOp a.eval o).run P w = .ok (.value (.int d.kind (d.ev (IE.den e)))) w) ∧ inR d.kind (d.ev (IE.den e)) := by
  cases hop : o.op <;> rw [hop] at h <;> simp only [defOp, reduceCtorEq] at h
  case binOp op t x y t' =>
    have ex : ∀ (v : Value) w, (do eqGuard op t x y (a.eval x) (a.eval y); binOp op t (a.eval x) (a.eval y) : Sem Value).run P w = .ok v w → (execOp a.eval o).run P w = .ok (.value v) w := fun v w hv => by
      unfold execOp
      rw [hop]
      simp only
      rw [Sem.run_bind, hv]
      rfl
    split at h
    · rename_i k x' k' y' hx hy
      obtain ⟨h1, h2⟩ := evO_sound hf hx
      obtain ⟨h3, h4⟩ := evO_sound hf hy
      have h2' : inR k (x'.den e) := h2
      have gd : ∀ (v : Value) w, (binOp op t (.int k (x'.den e)) (.int k' (y'.den e))).run P w = .ok v w → (execOp a.eval o).run P w = .ok (.value v) w := fun v w hv => ex v w (by
        rw [h1, h3]
        simp only [SV.den, SV1.den, Atom.den, eqGuard_int, Sem.run_bind, Sem.run_pure, Result.andThen_ok]
        exact hv)
      have kk : ∀ {d' : ID}, (bif decide (k = k') then some d' else none) = some d → k = k' ∧ d' = d := fun h => by
        cases hk : decide (k = k') with
        | false => rw [hk] at h; cases h
        | true => rw [hk] at h; cases h; exact ⟨of_decide_eq_true hk, rfl⟩
      have kz : ∀ {d' : ID} {m : Int}, (bif decide (k = k') && !decide (m = 0) then some d' else none) = some d → k = k' ∧ m ≠ 0 ∧ d' = d := fun {d' m} h => by
        cases hk : (decide (k = k') && !decide (m = 0)) with
        | false => rw [hk] at h; cases h
        | true =>
          rw [hk] at h; cases h
          simp only [Bool.and_eq_true, decide_eq_true_eq, Bool.not_eq_true', decide_eq_false_iff_not] at hk
          exact ⟨hk.1, hk.2, rfl⟩
      have ks : ∀ {d' : ID} {m : Int}, (bif decide (0 ≤ m) then some d' else none) = some d → 0 ≤ m ∧ d' = d := fun {d' m} h => by
        cases hk : decide (0 ≤ m) with
        | false => rw [hk] at h; cases h
        | true => rw [hk] at h; cases h; exact ⟨of_decide_eq_true hk, rfl⟩
      cases op <;> simp only [reduceCtorEq] at h
      case add => obtain ⟨rfl, rfl⟩ := kk h; exact ⟨fun w => gd _ w (by rw [binOp_add]; rfl), wrap_inR _ _⟩
      case sub => obtain ⟨rfl, rfl⟩ := kk h; exact ⟨fun w => gd _ w (by rw [binOp_sub]; rfl), wrap_inR _ _⟩
      case mul => obtain ⟨rfl, rfl⟩ := kk h; exact ⟨fun w => gd _ w (by rw [binOp_mul]; rfl), wrap_inR _ _⟩
      case and => obtain ⟨rfl, rfl⟩ := kk h; exact ⟨fun w => gd _ w (by rw [binOp_and]; rfl), wrap_inR _ _⟩
      case or => obtain ⟨rfl, rfl⟩ := kk h; exact ⟨fun w => gd _ w (by rw [binOp_or]; rfl), wrap_inR _ _⟩
      case xor => obtain ⟨rfl, rfl⟩ := kk h; exact ⟨fun w => gd _ w (by rw [binOp_xor]; rfl), wrap_inR _ _⟩
      case andNot => obtain ⟨rfl, rfl⟩ := kk h; exact ⟨fun w => gd _ w (by rw [binOp_andNot]; rfl), wrap_inR _ _⟩
      case quo =>
        split at h
        · rename_i m
          obtain ⟨rfl, hm, rfl⟩ := kz h
          exact ⟨fun w => gd _ w (by rw [binOp_quo]; show (Op.intDiv .quo k (x'.den e) m).run P w = _; unfold Op.intDiv; rw [if_neg hm]; rfl), wrap_inR _ _⟩
        · cases h
      case rem =>
        split at h
        · rename_i m
          obtain ⟨rfl, hm, rfl⟩ := kz h
          exact ⟨fun w => gd _ w (by rw [binOp_rem]; show (Op.intDiv .rem k (x'.den e) m).run P w = _; unfold Op.intDiv; rw [if_neg hm]; rfl), tmod_inR h2' _⟩
        · cases h
      case shl =>
        split at h
        · rename_i m
          obtain ⟨hm, rfl⟩ := ks h
          exact ⟨fun w => gd _ w (by rw [binOp_shl]; show (Op.shift .shl k (x'.den e) k' m).run P w = _; unfold Op.shift; rw [if_neg (Int.not_lt.2 hm)]; rfl), wrap_inR _ _⟩
        · cases h
      case shr =>
        split at h
        · rename_i m
          obtain ⟨hm, rfl⟩ := ks h
          exact ⟨fun w => gd _ w (by rw [binOp_shr]; show (Op.shift .shr k (x'.den e) k' m).run P w = _; unfold Op.shift; rw [if_neg (Int.not_lt.2 hm)]; rfl), shr_inR h2' _⟩
        · cases h
    · cases h
  case unOp op t x =>
    cases op <;> simp only [reduceCtorEq] at h
    case neg =>
      split at h
      · rename_i k x' hx
        cases h
        obtain ⟨h1, _⟩ := evO_sound hf hx
        refine ⟨fun w => ?_, wrap_inR _ _⟩
        unfold execOp
        rw [hop]
        simp only [h1, SV.den, SV1.den, Atom.den, Op.unary, Op.intArith, Sem.run_bind, Sem.run_pure, Result.andThen_ok]
        rfl
      · cases h
    case xor =>
      split at h
      · rename_i k x' hx
        cases h
        obtain ⟨h1, _⟩ := evO_sound hf hx
        refine ⟨fun w => ?_, wrap_inR _ _⟩
        unfold execOp
        rw [hop]
        simp only [h1, SV.den, SV1.den, Atom.den, Op.unary, Op.intBits, Sem.run_bind, Sem.run_pure, Result.andThen_ok]
        rfl
      · cases h
  case convert src dst x =>
    split at h
    · rename_i k x' hx
      split at h
      · rename_i ds k' hs hd
        cases h
        obtain ⟨h1, _⟩ := evO_sound hf hx
        refine ⟨fun w => ?_, wrap_inR _ _⟩
        unfold execOp
        rw [hop]
        have hc : (convert src dst (.int k (x'.den e))).run P w = .ok (.int k' (k'.wrap (x'.den e))) w := by
          simp [convert, run_underlying hs, run_underlying hd, Conv.intToInt]
        simp only [h1, SV.den, SV1.den, Atom.den, Sem.run_bind, hc, Result.andThen_ok, Sem.run_pure]
        rfl
      · cases h
    · cases h
end Go.Sx
