import Derived.Test.YtolmolkcjoibiaaDoorSdb
import Derived.Test.YtolmolkcjoibiaaDoorSe
/- Aids to the claim: what is shown here is said at each theorem. -/
namespace Go.Sx
open Go

/-! ### An environment for a tree -/
def IE.lt (ni nb nf : Nat) : IE → Bool
  | .c _ => true
  | .v k => Nat.blt k ni
  | .b k => Nat.blt k nb
  | .em k _ => Nat.blt k nf
  | .ep k _ => Nat.blt k nf
def BE.bd (ni nb nf : Nat) : BE → Bool
  | .c _ => true
  | .v k => Nat.blt k nb
  | .lt x y => x.lt ni nb nf && y.lt ni nb nf
  | .eq x y => x.lt ni nb nf && y.lt ni nb nf
  | .not x => x.bd ni nb nf
  | .and x y => x.bd ni nb nf && y.bd ni nb nf
  | .or x y => x.bd ni nb nf && y.bd ni nb nf
  | .fz k => Nat.blt k nf
  | .fe k l => Nat.blt k nf && Nat.blt l nf
  | .low x y z t => x.lt ni nb nf && y.lt ni nb nf && z.lt ni nb nf && t.lt ni nb nf
  | .fn _ l => l.all fun k => Nat.blt k nf
def ID.bd (ni nb nf : Nat) : ID → Bool
  | .ar _ _ x y => x.lt ni nb nf && y.lt ni nb nf
  | .bt _ _ x y => x.lt ni nb nf && y.lt ni nb nf
  | .sh _ _ x _ => x.lt ni nb nf
  | .dv _ _ x _ => x.lt ni nb nf
  | .cv _ x => x.lt ni nb nf
  | .fn _ l => l.all fun x => x.lt ni nb nf
def FD.bd (ni nb nf : Nat) : FD → Bool
  | .add x y => Nat.blt x nf && Nat.blt y nf
  | .sub x y => Nat.blt x nf && Nat.blt y nf
  | .mul x y => Nat.blt x nf && Nat.blt y nf
  | .neg x => Nat.blt x nf
  | .pow x _ => Nat.blt x nf
  | .k _ => true
  | .w x y z t => x.lt ni nb nf && y.lt ni nb nf && z.lt ni nb nf && t.lt ni nb nf
  | .wm x y z t => x.lt ni nb nf && y.lt ni nb nf && z.lt ni nb nf && t.lt ni nb nf
  | .fn _ l => l.all fun k => Nat.blt k nf
/-- What a definition sets; the new bounds. -/
def Dn.bd (ni nb nf : Nat) : Dn → Option (Nat × Nat × Nat)
  | .i n d => bif Nat.beq n ni && d.bd ni nb nf then some (ni + 1, nb, nf) else none
  | .ad n m x y z => bif Nat.beq n ni && Nat.beq m nb && x.lt ni nb nf && y.lt ni nb nf && z.lt ni nb nf then some (ni + 1, nb + 1, nf) else none
  | .sb n m x y z => bif Nat.beq n ni && Nat.beq m nb && x.lt ni nb nf && y.lt ni nb nf && z.lt ni nb nf then some (ni + 1, nb + 1, nf) else none
  | .mu n m x y => bif Nat.beq n ni && Nat.beq m (ni + 1) && x.lt ni nb nf && y.lt ni nb nf then some (ni + 2, nb, nf) else none
  | .f n d => bif Nat.beq n nf && d.bd ni nb nf then some (ni, nb, nf + 1) else none
  | .b n x => bif Nat.beq n nb && x.bd ni nb nf then some (ni, nb + 1, nf) else none
def Tree.bd {L : Type} : Nat → Nat → Nat → Tree L → Bool
  | _, _, _, .leaf _ => true
  | _, _, _, .no => true
  | ni, nb, nf, .dn d t => match d.bd ni nb nf with
    | some (ni, nb, nf) => t.bd ni nb nf
    | none => false
  | ni, nb, nf, .br x t f => x.bd ni nb nf && t.bd ni nb nf && f.bd ni nb nf

structure AgreeE (ni nb nf : Nat) (e e' : Env) : Prop where
  i : ∀ k, k < ni → e'.i k = e.i k
  b : ∀ k, k < nb → e'.b k = e.b k
  f : ∀ k, k < nf → e'.f k = e.f k
  ext : e'.ext = e.ext

section
variable {ni nb nf : Nat} {e e' : Env}
theorem blt_lt {a b : Nat} (h : Nat.blt a b = true) : a < b := by simpa [Nat.blt_eq] using h
theorem IE.den_agree (ha : AgreeE ni nb nf e e') : ∀ {x : IE}, x.lt ni nb nf = true → x.den e' = x.den e
  | .c _, _ => rfl
  | .v k, h => ha.i k (blt_lt h)
  | .b k, h => by simp only [IE.den]; rw [ha.b k (blt_lt h)]
  | .em k _, h => by simp only [IE.den]; rw [ha.f k (blt_lt h)]
  | .ep k _, h => by simp only [IE.den]; rw [ha.f k (blt_lt h)]
theorem fs_agree (ha : AgreeE ni nb nf e e') {l : List Nat} (h : (l.all fun k => Nat.blt k nf) = true) : l.map e'.f = l.map e.f :=
  List.map_congr_left fun k hk => ha.f k (blt_lt (List.all_eq_true.1 h k hk))
theorem BE.den_agree (ha : AgreeE ni nb nf e e') : ∀ {x : BE}, x.bd ni nb nf = true → x.den e' = x.den e := by
  intro x
  induction x with
  | c _ => intro _; rfl
  | v k => intro h; exact ha.b k (blt_lt h)
  | lt x y => intro h; simp only [BE.bd, Bool.and_eq_true] at h; simp only [BE.den]; rw [IE.den_agree ha h.1, IE.den_agree ha h.2]
  | eq x y => intro h; simp only [BE.bd, Bool.and_eq_true] at h; simp only [BE.den]; rw [IE.den_agree ha h.1, IE.den_agree ha h.2]
  | not x ih => intro h; simp only [BE.den]; rw [ih h]
  | and x y ih1 ih2 => intro h; simp only [BE.bd, Bool.and_eq_true] at h; simp only [BE.den]; rw [ih1 h.1, ih2 h.2]
  | or x y ih1 ih2 => intro h; simp only [BE.bd, Bool.and_eq_true] at h; simp only [BE.den]; rw [ih1 h.1, ih2 h.2]
  | fz k => intro h; simp only [BE.den]; rw [ha.f k (blt_lt h)]
  | fe k l => intro h; simp only [BE.bd, Bool.and_eq_true] at h; simp only [BE.den]; rw [ha.f k (blt_lt h.1), ha.f l (blt_lt h.2)]
  | low x y z t => intro h; simp only [BE.bd, Bool.and_eq_true] at h; simp only [BE.den]; rw [IE.den_agree ha h.1.1.1, IE.den_agree ha h.1.1.2, IE.den_agree ha h.1.2, IE.den_agree ha h.2]
  | fn k l => intro h; simp only [BE.bd] at h; simp only [BE.den]; rw [fs_agree ha h]
theorem ID.ev_agree (ha : AgreeE ni nb nf e e') : ∀ {d : ID}, d.bd ni nb nf = true → d.ev (IE.den e') = d.ev (IE.den e)
  | .ar _ _ x y, h => by simp only [ID.bd, Bool.and_eq_true] at h; simp only [ID.ev]; rw [IE.den_agree ha h.1, IE.den_agree ha h.2]
  | .bt _ _ x y, h => by simp only [ID.bd, Bool.and_eq_true] at h; simp only [ID.ev]; rw [IE.den_agree ha h.1, IE.den_agree ha h.2]
  | .sh _ _ x _, h => by simp only [ID.ev]; rw [IE.den_agree ha h]
  | .dv _ _ x _, h => by simp only [ID.ev]; rw [IE.den_agree ha h]
  | .cv _ x, h => by simp only [ID.ev]; rw [IE.den_agree ha h]
  | .fn k l, h => by
    simp only [ID.ev]
    rw [List.map_congr_left fun x hx => IE.den_agree ha (List.all_eq_true.1 h x hx)]
theorem FD.ev_agree (ha : AgreeE ni nb nf e e') : ∀ {d : FD}, d.bd ni nb nf = true → d.ev e' = d.ev e
  | .add x y, h => by simp only [FD.bd, Bool.and_eq_true] at h; simp only [FD.ev]; rw [ha.f x (blt_lt h.1), ha.f y (blt_lt h.2)]
  | .sub x y, h => by simp only [FD.bd, Bool.and_eq_true] at h; simp only [FD.ev]; rw [ha.f x (blt_lt h.1), ha.f y (blt_lt h.2)]
  | .mul x y, h => by simp only [FD.bd, Bool.and_eq_true] at h; simp only [FD.ev]; rw [ha.f x (blt_lt h.1), ha.f y (blt_lt h.2)]
  | .neg x, h => by simp only [FD.ev]; rw [ha.f x (blt_lt h)]
  | .pow x _, h => by simp only [FD.ev]; rw [ha.f x (blt_lt h)]
  | .k _, _ => rfl
  | .w x y z t, h => by simp only [FD.bd, Bool.and_eq_true] at h; simp only [FD.ev]; rw [IE.den_agree ha h.1.1.1, IE.den_agree ha h.1.1.2, IE.den_agree ha h.1.2, IE.den_agree ha h.2]
  | .wm x y z t, h => by simp only [FD.bd, Bool.and_eq_true] at h; simp only [FD.ev]; rw [IE.den_agree ha h.1.1.1, IE.den_agree ha h.1.1.2, IE.den_agree ha h.1.2, IE.den_agree ha h.2]
  | .fn m l, h => by simp only [FD.bd] at h; simp only [FD.ev]; rw [fs_agree ha h]
theorem AgreeE.refl (ni nb nf : Nat) (e : Env) : AgreeE ni nb nf e e := ⟨fun _ _ => rfl, fun _ _ => rfl, fun _ _ => rfl, rfl⟩
theorem AgreeE.trans {ni' nb' nf' : Nat} {e'' : Env} (h : AgreeE ni nb nf e e') (h' : AgreeE ni' nb' nf' e' e'') (h1 : ni ≤ ni') (h2 : nb ≤ nb') (h3 : nf ≤ nf') : AgreeE ni nb nf e e'' :=
  ⟨fun k hk => (h'.i k (by omega)).trans (h.i k hk), fun k hk => (h'.b k (by omega)).trans (h.b k hk), fun k hk => (h'.f k (by omega)).trans (h.f k hk), h'.ext.trans h.ext⟩

def upd {α : Type} (f : Nat → α) (n : Nat) (v : α) : Nat → α := fun k => if k = n then v else f k
theorem upd_same {α : Type} (f : Nat → α) (n : Nat) (v : α) : upd f n v n = v := if_pos rfl
theorem upd_ne {α : Type} (f : Nat → α) {n k : Nat} (v : α) (h : k ≠ n) : upd f n v k = f k := if_neg h

/-- One definition can be met. -/
theorem Dn.meet (e : Env) {d : Dn} {ni' nb' nf' : Nat} (hd : d.bd ni nb nf = some (ni', nb', nf')) : ∃ e', AgreeE ni nb nf e e' ∧ ni ≤ ni' ∧ nb ≤ nb' ∧ nf ≤ nf' ∧
    ∀ e'', AgreeE ni' nb' nf' e' e'' → d.holds e'' := by
  cases d with
  | i n d =>
    simp only [Dn.bd] at hd
    cases hb : (Nat.beq n ni && d.bd ni nb nf) with
    | false => rw [hb] at hd; cases hd
    | true =>
      rw [hb] at hd; cases hd
      simp only [Bool.and_eq_true] at hb
      have hn := Nat.eq_of_beq_eq_true hb.1
      subst hn
      have ha : AgreeE n nb nf e { e with i := upd e.i n (d.ev (IE.den e)) } := ⟨fun k hk => upd_ne _ _ (by omega), fun _ _ => rfl, fun _ _ => rfl, rfl⟩
      refine ⟨_, ha, by omega, by omega, by omega, fun e'' h => ?_⟩
      show e''.i n = d.ev (IE.den e'')
      rw [ID.ev_agree (ha.trans h (by omega) (by omega) (by omega)) hb.2, h.i n (by omega)]
      exact upd_same _ _ _
  | ad n m x y z =>
    simp only [Dn.bd] at hd
    cases hb : (Nat.beq n ni && Nat.beq m nb && x.lt ni nb nf && y.lt ni nb nf && z.lt ni nb nf) with
    | false => rw [hb] at hd; cases hd
    | true =>
      rw [hb] at hd; cases hd
      simp only [Bool.and_eq_true] at hb
      obtain ⟨⟨⟨⟨h1, h2⟩, h3⟩, h4⟩, h5⟩ := hb
      have hn := Nat.eq_of_beq_eq_true h1
      have hm := Nat.eq_of_beq_eq_true h2
      subst hn; subst hm
      have ha : AgreeE n m nf e { e with i := upd e.i n ((x.den e + y.den e + z.den e) % 18446744073709551616), b := upd e.b m (decide (18446744073709551616 ≤ x.den e + y.den e + z.den e)) } :=
        ⟨fun k hk => upd_ne _ _ (by omega), fun k hk => upd_ne _ _ (by omega), fun _ _ => rfl, rfl⟩
      refine ⟨_, ha, by omega, by omega, by omega, fun e'' h => ?_⟩
      have h' := ha.trans h (show n ≤ n + 1 by omega) (show m ≤ m + 1 by omega) (show nf ≤ nf by omega)
      show e''.i n = _ ∧ e''.b m = _
      rw [IE.den_agree h' h3, IE.den_agree h' h4, IE.den_agree h' h5, h.i n (by omega), h.b m (by omega)]
      exact ⟨upd_same _ _ _, upd_same _ _ _⟩
  | sb n m x y z =>
    simp only [Dn.bd] at hd
    cases hb : (Nat.beq n ni && Nat.beq m nb && x.lt ni nb nf && y.lt ni nb nf && z.lt ni nb nf) with
    | false => rw [hb] at hd; cases hd
    | true =>
      rw [hb] at hd; cases hd
      simp only [Bool.and_eq_true] at hb
      obtain ⟨⟨⟨⟨h1, h2⟩, h3⟩, h4⟩, h5⟩ := hb
      have hn := Nat.eq_of_beq_eq_true h1
      have hm := Nat.eq_of_beq_eq_true h2
      subst hn; subst hm
      have ha : AgreeE n m nf e { e with i := upd e.i n ((x.den e - y.den e - z.den e) % 18446744073709551616), b := upd e.b m (decide (x.den e < y.den e + z.den e)) } :=
        ⟨fun k hk => upd_ne _ _ (by omega), fun k hk => upd_ne _ _ (by omega), fun _ _ => rfl, rfl⟩
      refine ⟨_, ha, by omega, by omega, by omega, fun e'' h => ?_⟩
      have h' := ha.trans h (show n ≤ n + 1 by omega) (show m ≤ m + 1 by omega) (show nf ≤ nf by omega)
      show e''.i n = _ ∧ e''.b m = _
      rw [IE.den_agree h' h3, IE.den_agree h' h4, IE.den_agree h' h5, h.i n (by omega), h.b m (by omega)]
      exact ⟨upd_same _ _ _, upd_same _ _ _⟩
  | mu n m x y =>
    simp only [Dn.bd] at hd
    cases hb : (Nat.beq n ni && Nat.beq m (ni + 1) && x.lt ni nb nf && y.lt ni nb nf) with
    | false => rw [hb] at hd; cases hd
    | true =>
      rw [hb] at hd; cases hd
      simp only [Bool.and_eq_true] at hb
      obtain ⟨⟨⟨h1, h2⟩, h3⟩, h4⟩ := hb
      have hn := Nat.eq_of_beq_eq_true h1
      have hm := Nat.eq_of_beq_eq_true h2
      subst hn; subst hm
      have ha : AgreeE n nb nf e { e with i := upd (upd e.i n (x.den e * y.den e / 18446744073709551616)) (n + 1) (x.den e * y.den e % 18446744073709551616) } :=
        ⟨fun k hk => by simp only; rw [upd_ne _ _ (by omega), upd_ne _ _ (by omega)], fun _ _ => rfl, fun _ _ => rfl, rfl⟩
      refine ⟨_, ha, by omega, by omega, by omega, fun e'' h => ?_⟩
      have h' := ha.trans h (show n ≤ n + 2 by omega) (show nb ≤ nb by omega) (show nf ≤ nf by omega)
      show e''.i n = _ ∧ e''.i (n + 1) = _
      rw [IE.den_agree h' h3, IE.den_agree h' h4, h.i n (by omega), h.i (n + 1) (by omega)]
      simp only
      exact ⟨by rw [upd_ne _ _ (by omega), upd_same], upd_same _ _ _⟩
  | f n d =>
    simp only [Dn.bd] at hd
    cases hb : (Nat.beq n nf && d.bd ni nb nf) with
    | false => rw [hb] at hd; cases hd
    | true =>
      rw [hb] at hd; cases hd
      simp only [Bool.and_eq_true] at hb
      have hn := Nat.eq_of_beq_eq_true hb.1
      subst hn
      have ha : AgreeE ni nb n e { e with f := upd e.f n (d.ev e) } := ⟨fun _ _ => rfl, fun _ _ => rfl, fun k hk => upd_ne _ _ (by omega), rfl⟩
      refine ⟨_, ha, by omega, by omega, by omega, fun e'' h => ?_⟩
      show e''.f n = d.ev e''
      rw [FD.ev_agree (ha.trans h (by omega) (by omega) (by omega)) hb.2, h.f n (by omega)]
      exact upd_same _ _ _
  | b n x =>
    simp only [Dn.bd] at hd
    cases hb : (Nat.beq n nb && x.bd ni nb nf) with
    | false => rw [hb] at hd; cases hd
    | true =>
      rw [hb] at hd; cases hd
      simp only [Bool.and_eq_true] at hb
      have hn := Nat.eq_of_beq_eq_true hb.1
      subst hn
      have ha : AgreeE ni n nf e { e with b := upd e.b n (x.den e) } := ⟨fun _ _ => rfl, fun k hk => upd_ne _ _ (by omega), fun _ _ => rfl, rfl⟩
      refine ⟨_, ha, by omega, by omega, by omega, fun e'' h => ?_⟩
      show e''.b n = x.den e''
      rw [BE.den_agree (ha.trans h (by omega) (by omega) (by omega)) hb.2, h.b n (by omega)]
      exact upd_same _ _ _
end

/-- What is left to show of a tree: at each leaf, with the definitions on the way. -/
def Tree.goal {L : Type} (e : Env) (Φ : L → Prop) : Tree L → Prop
  | .leaf l => Φ l
  | .no => False
  | .dn d t => d.holds e → t.goal e Φ
  | .br b t f => (b.den e = true → t.goal e Φ) ∧ (b.den e = false → f.goal e Φ)
theorem Tree.meet {L : Type} : ∀ (t : Tree L) {ni nb nf : Nat} (e : Env), t.bd ni nb nf = true → ∃ e', AgreeE ni nb nf e e' ∧ ∀ Φ : L → Prop, t.goal e' Φ → t.holds e' Φ
  | .leaf l, ni, nb, nf, e, _ => ⟨e, AgreeE.refl _ _ _ _, fun _ h => h⟩
  | .no, ni, nb, nf, e, _ => ⟨e, AgreeE.refl _ _ _ _, fun _ h => h⟩
  | .dn d t, ni, nb, nf, e, h => by
    simp only [Tree.bd] at h
    split at h
    · rename_i ni' nb' nf' hd
      obtain ⟨e1, h1, h2, h3, h4, h5⟩ := Dn.meet e hd
      obtain ⟨e2, g1, g2⟩ := Tree.meet t e1 h
      have hh := h5 e2 g1
      exact ⟨e2, h1.trans g1 h2 h3 h4, fun Φ hg => ⟨hh, g2 Φ (hg hh)⟩⟩
    · cases h
  | .br x t f, ni, nb, nf, e, h => by
    simp only [Tree.bd, Bool.and_eq_true] at h
    cases hx : x.den e with
    | true =>
      obtain ⟨e2, g1, g2⟩ := Tree.meet t e h.1.2
      have hx2 : x.den e2 = true := by rw [BE.den_agree g1 h.1.1]; exact hx
      exact ⟨e2, g1, fun Φ hg => ⟨fun _ => g2 Φ (hg.1 hx2), fun hf => absurd (hx2.symm.trans hf) (by simp)⟩⟩
    | false =>
      obtain ⟨e2, g1, g2⟩ := Tree.meet f e h.2
      have hx2 : x.den e2 = false := by rw [BE.den_agree g1 h.1.1]; exact hx
      exact ⟨e2, g1, fun Φ hg => ⟨fun ht => absurd (hx2.symm.trans ht) (by simp), fun _ => g2 Φ (hg.2 hx2)⟩⟩
end Go.Sx
namespace Go.Sx
open Go

/-! ### The definitions of words, as linear facts -/
def bi (b : Bool) : Int := if b = true then 1 else 0
theorem bi_bd (b : Bool) : 0 ≤ bi b ∧ bi b ≤ 1 := by cases b <;> simp [bi]
theorem den_c (e : Env) (n : Int) : (IE.c n).den e = n := rfl
theorem den_v (e : Env) (k : Nat) : (IE.v k).den e = e.i k := rfl
theorem den_b (e : Env) (k : Nat) : (IE.b k).den e = bi (e.b k) := rfl
def Wd (n : Int) : Prop := 0 ≤ n ∧ n < 18446744073709551616
def Words (e : Env) (ni : Nat) : Prop := ∀ k, k < ni → Wd (e.i k)

def Dn.lin (e : Env) : Dn → Prop
  | .i n (.ar .mul .u64 x y) => (∃ k, e.i n = x.den e * y.den e - 18446744073709551616 * k) ∧ 0 ≤ e.i n ∧ e.i n < 18446744073709551616
  | .i n (.ar .add .u64 x y) => (∃ k, e.i n = x.den e + y.den e - 18446744073709551616 * k) ∧ 0 ≤ e.i n ∧ e.i n < 18446744073709551616
  | .i n (.ar .sub .u64 x y) => (∃ k, e.i n = x.den e - y.den e - 18446744073709551616 * k) ∧ 0 ≤ e.i n ∧ e.i n < 18446744073709551616
  | .i n d => e.i n = d.ev (IE.den e) ∧ 0 ≤ e.i n ∧ e.i n < 18446744073709551616
  | .ad n m x y z => e.i n + 18446744073709551616 * bi (e.b m) = x.den e + y.den e + z.den e ∧ 0 ≤ e.i n ∧ e.i n < 18446744073709551616 ∧ 0 ≤ bi (e.b m) ∧ bi (e.b m) ≤ 1
  | .sb n m x y z => e.i n = x.den e - y.den e - z.den e + 18446744073709551616 * bi (e.b m) ∧ 0 ≤ e.i n ∧ e.i n < 18446744073709551616 ∧ 0 ≤ bi (e.b m) ∧ bi (e.b m) ≤ 1
  | .mu n m x y => 18446744073709551616 * e.i n + e.i m = x.den e * y.den e ∧ 0 ≤ e.i n ∧ e.i n < 18446744073709551616 ∧ 0 ≤ e.i m ∧ e.i m < 18446744073709551616
  | d => d.holds e
def Tree.lin {L : Type} (e : Env) (Φ : L → Prop) : Tree L → Prop
  | .leaf l => Φ l
  | .no => False
  | .dn d t => d.lin e → t.lin e Φ
  | .br b t f => (b.den e = true → t.lin e Φ) ∧ (b.den e = false → f.lin e Φ)

/-- A word, a carry. -/
def wIE (ni : Nat) : IE → Bool
  | .c n => decide (0 ≤ n) && decide (n < 18446744073709551616)
  | .v k => Nat.blt k ni
  | .b _ => true
  | .em _ _ => true
  | .ep _ _ => true
def cIE : IE → Bool
  | .c n => decide (0 ≤ n) && decide (n ≤ 1)
  | .b _ => true
  | _ => false
def ID.small (ni : Nat) : ID → Bool
  | .ar _ k _ _ | .bt _ k _ _ | .cv k _ => match k with
    | .u64 | .u32 | .u16 | .u8 => true
    | _ => false
  | .sh _ k x _ => match k with
    | .u64 | .u32 | .u16 | .u8 => wIE ni x
    | _ => false
  | .dv op k x n => match k, op with
    | .u64, .quo | .u32, .quo | .u16, .quo | .u8, .quo => true
    | .u64, .rem | .u32, .rem | .u16, .rem | .u8, .rem => wIE ni x && decide (0 < n)
    | _, _ => false
  | .fn k _ => Nat.beq (k % 2) 0
def Dn.chk (ni : Nat) : Dn → Option Nat
  | .i n d => bif Nat.beq n ni && d.small ni then some (ni + 1) else none
  | .ad n _ x y z => bif Nat.beq n ni && wIE ni x && wIE ni y && cIE z then some (ni + 1) else none
  | .sb n _ x y z => bif Nat.beq n ni && wIE ni x && wIE ni y && cIE z then some (ni + 1) else none
  | .mu n m x y => bif Nat.beq n ni && Nat.beq m (ni + 1) && wIE ni x && wIE ni y then some (ni + 2) else none
  | .f _ _ => some ni
  | .b _ _ => some ni
def Tree.chk {L : Type} : Nat → Tree L → Bool
  | _, .leaf _ => true
  | _, .no => true
  | ni, .dn d t => match d.chk ni with
    | some ni => t.chk ni
    | none => false
  | ni, .br _ t f => t.chk ni && f.chk ni

section
variable {e : Env} {ni : Nat}
theorem w4_lt (n j : Nat) : w4 n j < 18446744073709551616 := Nat.mod_lt _ (by omega)
theorem wIE_sound (hW : Words e ni) {x : IE} (h : wIE ni x = true) : Wd (x.den e) := by
  cases x with
  | c n => simpa [wIE, Wd, IE.den] using h
  | v k => exact hW k (blt_lt h)
  | b k => rw [den_b]; have := bi_bd (e.b k); exact ⟨this.1, by omega⟩
  | em x j => simp only [Wd, IE.den]; have := w4_lt (mont (e.f x)) j; omega
  | ep x j => simp only [Wd, IE.den]; have := w4_lt (e.f x).val j; omega
theorem cIE_sound {x : IE} (h : cIE x = true) : 0 ≤ x.den e ∧ x.den e ≤ 1 := by
  cases x with
  | c n => simpa [cIE, IE.den] using h
  | b k => rw [den_b]; exact bi_bd _
  | _ => cases h
theorem words_succ (hW : Words e ni) (h : Wd (e.i ni)) : Words e (ni + 1) := fun k hk => by
  by_cases hk' : k < ni
  · exact hW k hk'
  · have : k = ni := by omega
    subst this; exact h
theorem wrap_u (n : Int) : Wd (IntKind.u64.wrap n) ∧ Wd (IntKind.u32.wrap n) ∧ Wd (IntKind.u16.wrap n) ∧ Wd (IntKind.u8.wrap n) := by
  simp only [IntKind.wrap, IntKind.bits, IntKind.signed, Wd]
  simp
  omega
theorem wrap_u64 (n : Int) : IntKind.u64.wrap n = n % 18446744073709551616 := by
  simp [IntKind.wrap, IntKind.bits, IntKind.signed]
theorem wd_fdiv {x : Int} (h : Wd x) (n : Nat) : Wd (x.fdiv (2 ^ n)) := by
  have hp : (0 : Int) < 2 ^ n := Int.pow_pos (by omega)
  rw [Int.fdiv_eq_ediv_of_nonneg _ (Int.le_of_lt hp)]
  exact ⟨Int.ediv_nonneg h.1 (Int.le_of_lt hp), Int.lt_of_le_of_lt (Int.ediv_le_self _ h.1) h.2⟩
theorem emod_le (x n : Int) (hx : 0 ≤ x) : x % n ≤ x := by
  obtain ⟨m, rfl⟩ := Int.eq_ofNat_of_zero_le hx
  rcases Int.lt_or_le n 0 with hn | hn
  · obtain ⟨k, hk⟩ := Int.eq_ofNat_of_zero_le (show 0 ≤ -n by omega)
    have : n = -(k : Int) := by omega
    rw [this, Int.emod_neg]
    have := Nat.mod_le m k
    omega
  · obtain ⟨k, rfl⟩ := Int.eq_ofNat_of_zero_le hn
    have := Nat.mod_le m k
    omega
theorem wd_tmod {x n : Int} (h : Wd x) (hn : 0 < n) : Wd (x.tmod n) := by
  rw [Int.tmod_eq_emod_of_nonneg h.1]
  exact ⟨Int.emod_nonneg _ (by omega), Int.lt_of_le_of_lt (emod_le _ _ h.1) h.2⟩

theorem ID.small_sound (hW : Words e ni) {d : ID} (h : d.small ni = true) : Wd (d.ev (IE.den e)) := by
  cases d with
  | ar op k a b =>
    have : ∀ x, Wd (k.wrap x) := fun x => by
      have := wrap_u x
      cases k <;> simp only [ID.small, Bool.false_eq_true] at h <;> first | exact this.1 | exact this.2.1 | exact this.2.2.1 | exact this.2.2.2
    cases op <;> simp only [ID.ev, arI] <;> first | exact this _ | exact ⟨by omega, by omega⟩
  | bt op k a b =>
    have : ∀ x, Wd (k.wrap x) := fun x => by
      have := wrap_u x
      cases k <;> simp only [ID.small, Bool.false_eq_true] at h <;> first | exact this.1 | exact this.2.1 | exact this.2.2.1 | exact this.2.2.2
    cases op <;> simp only [ID.ev, btI] <;> first | exact this _ | exact ⟨by omega, by omega⟩
  | cv k a =>
    have := wrap_u (a.den e)
    cases k <;> simp only [ID.small, Bool.false_eq_true] at h <;> simp only [ID.ev] <;> first | exact this.1 | exact this.2.1 | exact this.2.2.1 | exact this.2.2.2
  | fn k l =>
    have hk : ikind k = .u64 := by
      have h : Nat.beq (k % 2) 0 = true := h
      unfold ikind
      rw [h]
      rfl
    simp only [ID.ev, hk]
    exact (wrap_u _).1
  | sh op k x n =>
    have hk : wIE ni x = true ∧ ∀ x, Wd (k.wrap x) := by
      cases k <;> simp only [ID.small, Bool.false_eq_true] at h <;> refine ⟨h, fun x => ?_⟩ <;> have := wrap_u x <;> first | exact this.1 | exact this.2.1 | exact this.2.2.1 | exact this.2.2.2
    have hx := wIE_sound hW hk.1
    cases op <;> simp only [ID.ev, shI] <;> first | exact hk.2 _ | exact wd_fdiv hx _ | exact ⟨by omega, by omega⟩
  | dv op k x n =>
    cases op with
    | quo =>
      have : ∀ x, Wd (k.wrap x) := fun x => by
        have := wrap_u x
        cases k <;> simp only [ID.small, Bool.false_eq_true] at h <;> first | exact this.1 | exact this.2.1 | exact this.2.2.1 | exact this.2.2.2
      exact this _
    | rem =>
      have hk : wIE ni x = true ∧ 0 < n := by
        cases k <;> simp only [ID.small, Bool.false_eq_true, Bool.and_eq_true, decide_eq_true_eq] at h <;> exact h
      exact wd_tmod (wIE_sound hW hk.1) hk.2
    | _ => exact ⟨Int.le_refl 0, show (0 : Int) < 18446744073709551616 by omega⟩

theorem Dn.lin_of_holds (hW : Words e ni) {d : Dn} {ni' : Nat} (hc : d.chk ni = some ni') (h : d.holds e) : d.lin e ∧ Words e ni' := by
  cases d with
  | i n d =>
    simp only [Dn.chk] at hc
    cases hb : (Nat.beq n ni && d.small ni) with
    | false => rw [hb] at hc; cases hc
    | true =>
      rw [hb] at hc; cases hc
      rw [Bool.and_eq_true] at hb
      have hn := Nat.eq_of_beq_eq_true hb.1
      subst hn
      have hw := ID.small_sound hW hb.2
      have h' : e.i n = d.ev (IE.den e) := h
      rw [← h'] at hw
      refine ⟨?_, words_succ hW hw⟩
      have hm : ∀ m : Int, e.i n = m % 18446744073709551616 → ∃ k, e.i n = m - 18446744073709551616 * k := fun m hm => ⟨m / 18446744073709551616, by rw [hm]; omega⟩
      unfold Dn.lin
      split
      · rename_i heq
        cases heq
        exact ⟨hm _ (by rw [h']; simp only [ID.ev, arI, wrap_u64]), hw⟩
      · rename_i heq
        cases heq
        exact ⟨hm _ (by rw [h']; simp only [ID.ev, arI, wrap_u64]), hw⟩
      · rename_i heq
        cases heq
        exact ⟨hm _ (by rw [h']; simp only [ID.ev, arI, wrap_u64]), hw⟩
      · rename_i heq; cases heq; exact ⟨h', hw⟩
      all_goals first | exact h | (rename_i heq; cases heq)
  | ad n m x y z =>
    simp only [Dn.chk] at hc
    cases hb : (Nat.beq n ni && wIE ni x && wIE ni y && cIE z) with
    | false => rw [hb] at hc; cases hc
    | true =>
      rw [hb] at hc; cases hc
      simp only [Bool.and_eq_true] at hb
      obtain ⟨⟨⟨h1, h2⟩, h3⟩, h4⟩ := hb
      have hn := Nat.eq_of_beq_eq_true h1
      subst hn
      have hx := wIE_sound hW h2
      have hy := wIE_sound hW h3
      have hz := cIE_sound (e := e) h4
      obtain ⟨g1, g2⟩ := h
      have hbd := bi_bd (e.b m)
      have key : e.i n + 18446744073709551616 * bi (e.b m) = x.den e + y.den e + z.den e ∧ 0 ≤ e.i n ∧ e.i n < 18446744073709551616 := by
        obtain ⟨hx1, hx2⟩ := hx
        obtain ⟨hy1, hy2⟩ := hy
        rw [g2, g1]
        by_cases hc : 18446744073709551616 ≤ x.den e + y.den e + z.den e
        · simp only [hc, decide_true, bi, if_true]; omega
        · simp only [hc, decide_false, bi, Bool.false_eq_true, if_false]; omega
      exact ⟨⟨key.1, key.2.1, key.2.2, hbd⟩, words_succ hW key.2⟩
  | sb n m x y z =>
    simp only [Dn.chk] at hc
    cases hb : (Nat.beq n ni && wIE ni x && wIE ni y && cIE z) with
    | false => rw [hb] at hc; cases hc
    | true =>
      rw [hb] at hc; cases hc
      simp only [Bool.and_eq_true] at hb
      obtain ⟨⟨⟨h1, h2⟩, h3⟩, h4⟩ := hb
      have hn := Nat.eq_of_beq_eq_true h1
      subst hn
      have hx := wIE_sound hW h2
      have hy := wIE_sound hW h3
      have hz := cIE_sound (e := e) h4
      obtain ⟨g1, g2⟩ := h
      have hbd := bi_bd (e.b m)
      have key : e.i n = x.den e - y.den e - z.den e + 18446744073709551616 * bi (e.b m) ∧ 0 ≤ e.i n ∧ e.i n < 18446744073709551616 := by
        obtain ⟨hx1, hx2⟩ := hx
        obtain ⟨hy1, hy2⟩ := hy
        rw [g2, g1]
        by_cases hc : x.den e < y.den e + z.den e
        · simp only [hc, decide_true, bi, if_true]; omega
        · simp only [hc, decide_false, bi, Bool.false_eq_true, if_false]; omega
      exact ⟨⟨key.1, key.2.1, key.2.2, hbd⟩, words_succ hW key.2⟩
  | mu n m x y =>
    simp only [Dn.chk] at hc
    cases hb : (Nat.beq n ni && Nat.beq m (ni + 1) && wIE ni x && wIE ni y) with
    | false => rw [hb] at hc; cases hc
    | true =>
      rw [hb] at hc; cases hc
      simp only [Bool.and_eq_true] at hb
      obtain ⟨⟨⟨h1, h2⟩, h3⟩, h4⟩ := hb
      have hn := Nat.eq_of_beq_eq_true h1
      have hm := Nat.eq_of_beq_eq_true h2
      subst hn; subst hm
      obtain ⟨hx1, hx2⟩ := wIE_sound hW h3
      obtain ⟨hy1, hy2⟩ := wIE_sound hW h4
      obtain ⟨g1, g2⟩ := h
      have hp0 : 0 ≤ x.den e * y.den e := Int.mul_nonneg hx1 hy1
      have hp1 : x.den e * y.den e ≤ 18446744073709551615 * 18446744073709551615 := Int.mul_le_mul (by omega) (by omega) hy1 (by omega)
      have key : 18446744073709551616 * e.i n + e.i (n + 1) = x.den e * y.den e ∧ Wd (e.i n) ∧ Wd (e.i (n + 1)) := by
        unfold Wd
        rw [g1, g2]
        omega
      exact ⟨⟨key.1, key.2.1.1, key.2.1.2, key.2.2⟩, words_succ (words_succ hW key.2.1) key.2.2⟩
  | f n d => simp only [Dn.chk, Option.some.injEq] at hc; subst hc; exact ⟨h, hW⟩
  | b n x => simp only [Dn.chk, Option.some.injEq] at hc; subst hc; exact ⟨h, hW⟩

theorem Tree.goal_of_lin {L : Type} {Φ : L → Prop} : ∀ (t : Tree L) {ni : Nat}, t.chk ni = true → Words e ni → t.lin e Φ → t.goal e Φ
  | .leaf l, _, _, _, h => h
  | .no, _, _, _, h => h
  | .dn d t, ni, hc, hW, h => by
    intro hd
    simp only [Tree.chk] at hc
    split at hc
    · rename_i ni' hd'
      obtain ⟨h1, h2⟩ := Dn.lin_of_holds hW hd' hd
      exact Tree.goal_of_lin t hc h2 (h h1)
    · cases hc
  | .br b t f, ni, hc, hW, h => by
    simp only [Tree.chk, Bool.and_eq_true] at hc
    exact ⟨fun hb => Tree.goal_of_lin t hc.1 hW (h.1 hb), fun hb => Tree.goal_of_lin f hc.2 hW (h.2 hb)⟩
end
end Go.Sx
namespace Go.Sx
open Go

/-! ### From a tree to a contract -/
section
variable {P : Program} {qf pf : QSum}

theorem leafE_holds {e : Env} {Φ : SV × List (Nat × Atom) → Prop} {v : SV} {h : Hp} {t : Tree (SV × List (Nat × Atom))} (h1 : leafE v h = some t) (h2 : t.holds e Φ) : Φ (v, h.log) := by
  unfold leafE at h1
  simp only [Option.some.injEq] at h1
  subst h1
  exact h2

theorem apLog_meta {β : Nat → Nat} {e : Env} : ∀ (l : List (Nat × Atom)) (w : World), (apLog β e l w).tape = w.tape ∧ (apLog β e l w).os = w.os ∧ (apLog β e l w).output = w.output ∧ (apLog β e l w).heap.size = w.heap.size
  | [], w => ⟨rfl, rfl, rfl, rfl⟩
  | (i, a) :: l, w => by
    obtain ⟨h1, h2, h3, h4⟩ := apLog_meta l w
    refine ⟨h1, h2, h3, ?_⟩
    rw [apLog]
    simpa [World.setCell] using h4

/-- What the walk shows of a function, all in one. -/
theorem fn_of_tree (hm : P.follows .mixedOrders = true) (hnum : NumOk P) (hq : QOk P qf) (hp : POk P pf) {n : Nat} {f : FuncId} {args : List SV} {h0 : Hp} {tree : Tree (SV × List (Nat × Atom))}
    (h : sxCall P qf pf n f args h0 leafE = some tree) {ni nb nf : Nat} (hbd : tree.bd ni nb nf = true) {w : World} {e : Env} {β : Nat → Nat} (hrel : ∀ e', AgreeE ni nb nf e e' → HRel w e' β h0 w)
    (ha : ∀ e', AgreeE ni nb nf e e' → ∀ s ∈ args, s.ok h0.cnt e') (hden : ∀ e', AgreeE ni nb nf e e' → args.map (SV.den β e') = args.map (SV.den β e)) (Φ : Env → SV × List (Nat × Atom) → Prop) (goal : ∀ e', AgreeE ni nb nf e e' → tree.goal e' (Φ e')) :
    (callFunc f (args.map (SV.den β e)).toArray).run P w = .ok (.enter f (args.map (SV.den β e)).toArray) w ∧
    Calls P f (args.map (SV.den β e)).toArray w fun en w' => ∃ v log β' e' cnt, en = .returned (v.den β' e') ∧ AgreeE ni nb nf e e' ∧ Agree h0.cnt β β' ∧ v.ok cnt e' ∧ Φ e' (v, log) ∧ Grow (apLog β' e' log w) w' := by
  obtain ⟨e', he, hmeet⟩ := tree.meet e hbd
  have hh := hmeet (Φ e') (goal e' he)
  have hr := hrel e' he
  have := sxCall_sound (w0 := w) (e := e') (Φ := Φ e') hm hnum hq hp n f args h0 leafE tree h hh β w hr (ha e' he)
    (fun u w' => ∃ v log β' e' cnt, u = v.den β' e' ∧ AgreeE ni nb nf e e' ∧ Agree h0.cnt β β' ∧ v.ok cnt e' ∧ Φ e' (v, log) ∧ Grow (apLog β' e' log w) w')
    (fun β' v h' tree' w' g1 g2 g3 g4 g5 g6 g7 => by
      refine ⟨v, h'.log, β', e', h'.cnt, rfl, he, g1, g5, leafE_holds g6 g7, ?_⟩
      obtain ⟨m1, m2, m3, m4⟩ := apLog_meta (β := β') (e := e') h'.log w
      exact ⟨by rw [m1]; exact g4.tape, by rw [m2]; exact g4.os, by rw [m3]; exact g4.output, by rw [m4]; exact g4.size, fun j hj => g4.old j (by rw [m4] at hj; exact hj)⟩)
  rw [hden e' he] at this
  refine ⟨this.1, this.2.mono fun en w' ⟨u, h1, v, log, β', e2, cnt, h2, h3⟩ => ⟨v, log, β', e2, cnt, by rw [h1, h2], h3⟩⟩
end

/-! ### Memory of a contract's pointers -/
/-- Cells that lie at an address. -/
def CellsAt (w : World) (a : Addr) (vs : List Value) : Prop := a.spot = none ∧ ∀ i v, vs[i]? = some v → w.cell? ⟨a.block, a.off + i, none⟩ = some v
def Unfrozen (w : World) (a : Addr) (n : Nat) : Prop := ∀ i, i < n → w.frozen? ⟨a.block, a.off + i, none⟩ = false
/-- Two rows of n and m cells lie apart. -/
def Apart (a : Addr) (n : Nat) (b : Addr) (m : Nat) : Prop := a.block ≠ b.block ∨ a.off + n ≤ b.off ∨ b.off + m ≤ a.off

theorem cell_block_lt {w : World} {a : Addr} {v : Value} (h : w.cell? a = some v) : a.block < w.heap.size := by
  unfold World.cell? at h
  rcases Nat.lt_or_ge a.block w.heap.size with h1 | h1
  · exact h1
  · rw [Array.getElem?_eq_none h1] at h
    cases h

/-- The places that came in, as the walk begins. -/
theorem hp0_rel {w : World} {e : Env} {β : Nat → Nat} {ext : List (List Atom)} {ni nf : Nat}
    (hcells : ∀ j c, ext[j]? = some c → (e.ext j).block < w.heap.size ∧ CellsAt w (e.ext j) (c.map (Atom.den β e)) ∧ ∀ a ∈ c, a.ok 0 e)
    (hfrz : ∀ c, ext[0]? = some c → Unfrozen w (e.ext 0) c.length)
    (hdis : ∀ j c c0, j ≠ 0 → ext[j]? = some c → ext[0]? = some c0 → Apart (e.ext j) c.length (e.ext 0) c0.length) (hlen : ext.length ≤ 7 := by decide) : HRel w e β (hp0 ext ni nf) w where
  gl := fun g c hc => by
    have := (List.getElem?_eq_some_iff.1 hc).1
    simp only [hp0] at this
    omega
  tape := rfl
  os := rfl
  output := rfl
  size := Nat.le_refl _
  blk := fun k b hk => by cases k <;> simp [hp0, T.get] at hk
  inj := fun k k' b b' hk => by cases k <;> simp [hp0, T.get] at hk
  old := fun j hj => rfl
  logok := fun x hx => by simp [hp0] at hx
  extb := fun j c hj => by
    exact (hcells j c hj).1
  ext := fun j c hj i a ha => by
    obtain ⟨h1, h2, h3⟩ := hcells j c hj
    exact ⟨h2.2 i (a.den β e) (by simp [ha]), h3 a (List.mem_of_getElem? ha)⟩
  frz := fun c hc i hi => hfrz c hc i hi
  dis := fun j c c0 hj hc hc0 i i' hi hi' => by
    intro he
    have h1 := congrArg Addr.block he
    have h2 := congrArg Addr.off he
    simp only at h1 h2
    rcases hdis j c c0 hj hc hc0 with h | h | h
    · exact h h1
    · omega
    · omega
  facts := fun x hx => by simp [hp0] at hx

/-! ### The tables of calls, by their contracts -/
theorem noF_q (P : Program) : QOk P noF := fun _ _ _ _ _ _ h => by cases h
theorem noF_p (P : Program) : POk P noF := fun _ _ _ _ _ _ h => by cases h
theorem orF_q {P : Program} {a b : QSum} (ha : QOk P a) (hb : QOk P b) : QOk P (orF a b) := fun f args h ds v h' hh => by
  unfold orF at hh
  split at hh
  · rename_i r hr
    cases hh
    exact ha f args h ds v h' hr
  · exact hb f args h ds v h' hh
theorem orF_p {P : Program} {a b : QSum} (ha : POk P a) (hb : POk P b) : POk P (orF a b) := fun f args h ds v h' hh => by
  unfold orF at hh
  split at hh
  · rename_i r hr
    cases hh
    exact ha f args h ds v h' hr
  · exact hb f args h ds v h' hh
end Go.Sx
