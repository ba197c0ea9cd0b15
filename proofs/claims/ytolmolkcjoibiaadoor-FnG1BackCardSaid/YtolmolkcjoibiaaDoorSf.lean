import Derived.Test.YtolmolkcjoibiaaDoorSea
import Derived.Shelf.Spec.BitsCarry
/- Aids to the claim: what is shown here is said at each theorem. -/
namespace Go.Sx
open Go

/-! ### math/bits -/
def AddC (P : Program) (f : FuncId) : Prop := ∀ x y z : Int, Wd x → Wd y → 0 ≤ z → z ≤ 1 → ∀ w,
  (callFunc f #[.int .u64 x, .int .u64 y, .int .u64 z]).run P w = .ok (.value (.tuple #[.int .u64 ((x + y + z) % 18446744073709551616), .int .u64 (bi (decide (18446744073709551616 ≤ x + y + z)))])) w
def SubC (P : Program) (f : FuncId) : Prop := ∀ x y z : Int, Wd x → Wd y → 0 ≤ z → z ≤ 1 → ∀ w,
  (callFunc f #[.int .u64 x, .int .u64 y, .int .u64 z]).run P w = .ok (.value (.tuple #[.int .u64 ((x - y - z) % 18446744073709551616), .int .u64 (bi (decide (x < y + z)))])) w
def MulC (P : Program) (f : FuncId) : Prop := ∀ x y : Int, Wd x → Wd y → ∀ w,
  QuietRun P (callFunc f #[.int .u64 x, .int .u64 y]) (.tuple #[.int .u64 (x * y / 18446744073709551616), .int .u64 (x * y % 18446744073709551616)]) w

theorem nat_of {x : Int} (h : 0 ≤ x) : ∃ n : Nat, x = n := Int.eq_ofNat_of_zero_le h

theorem addC_of {P : Program} {f : FuncId} {fn : Func} (hf : P.funcs[f]? = some fn) (hname : (fn.name == "runtime.NumGoroutine") = false)
    (hb : fn.body.isNone = true) (hn : Extern.findNext fn = none) (he : Extern.find fn = some Go.add64Entry) : AddC P f := by
  intro x y z hx hy h0 h1 w
  obtain ⟨x, rfl⟩ := nat_of hx.1
  obtain ⟨y, rfl⟩ := nat_of hy.1
  obtain ⟨z, rfl⟩ := nat_of h0
  have hx2 := hx.2
  have hy2 := hy.2
  rw [run_callFunc_extern hf hname hb hn he, Go.run_add64 x y z (by omega) (by omega) (by omega) (by omega)]
  simp only [Result.andThen]
  congr 5
  by_cases hc : (18446744073709551616 : Int) ≤ (x : Int) + y + z
  · simp only [bi, hc, decide_true, if_true]; congr 2; omega
  · simp only [bi, hc, decide_false, Bool.false_eq_true, if_false]; congr 2; omega
theorem subC_of {P : Program} {f : FuncId} {fn : Func} (hf : P.funcs[f]? = some fn) (hname : (fn.name == "runtime.NumGoroutine") = false)
    (hb : fn.body.isNone = true) (hn : Extern.findNext fn = none) (he : Extern.find fn = some Go.Proofs.sub64Entry) : SubC P f := by
  intro x y z hx hy h0 h1 w
  obtain ⟨x, rfl⟩ := nat_of hx.1
  obtain ⟨y, rfl⟩ := nat_of hy.1
  obtain ⟨z, rfl⟩ := nat_of h0
  have hx2 := hx.2
  have hy2 := hy.2
  rw [run_callFunc_extern hf hname hb hn he, Go.Proofs.run_sub64 x y z (by omega)]
  simp only [Result.andThen]
  have e1 : (((x + 18446744073709551616 - y - z) % 18446744073709551616 : Nat) : Int) = ((x : Int) - y - z) % 18446744073709551616 := by omega
  have e2 : ((if x < y + z then 1 else 0 : Nat) : Int) = bi (decide ((x : Int) < y + z)) := by
    by_cases hc : x < y + z
    · have : (x : Int) < y + z := by omega
      simp [bi, hc, this]
    · have : ¬ (x : Int) < y + z := by omega
      simp [bi, hc, this]
  rw [e1, e2]

theorem wd_inR {n : Int} (h : Wd n) : inR .u64 n := by
  simp only [inR, IntKind.min, IntKind.max, IntKind.bits, IntKind.signed]
  simp
  exact ⟨h.1, by have := h.2; omega⟩
theorem inR_wd {n : Int} (h : inR .u64 n) : Wd n := by
  simp only [inR, IntKind.min, IntKind.max, IntKind.bits, IntKind.signed] at h
  simp at h
  exact ⟨h.1, by have := h.2; omega⟩
theorem carryB_sound {e : Env} {z : IE} (h : carryB z = true) : 0 ≤ z.den e ∧ z.den e ≤ 1 := by
  cases z with
  | c n =>
    simp only [carryB, Bool.or_eq_true, beq_iff_eq] at h
    simp only [IE.den]
    omega
  | b k => rw [den_b]; exact bi_bd _
  | _ => cases h

theorem bitsF_q {P : Program} {fa fs fm : FuncId} (ha : AddC P fa) (hs : SubC P fs) (hm : MulC P fm) : QOk P (bitsF fa fs fm) := by
  intro f args h ds v h' hh
  unfold bitsF at hh
  cases h1 : Nat.beq f fa with
  | true =>
    rw [h1] at hh
    simp only [cond_true] at hh
    have := Nat.eq_of_beq_eq_true h1
    subst this
    split at hh
    · rename_i x y z
      cases hc : carryB z with
      | false => rw [hc] at hh; cases hh
      | true =>
        rw [hc] at hh
        cases hh
        refine ⟨⟨rfl, rfl, rfl, rfl, rfl⟩, fun e β _ hok hds => ?_⟩
        obtain ⟨d1, d2⟩ := hds _ (List.mem_singleton.2 rfl)
        have hx : Wd (x.den e) := inR_wd (hok (.one (.at (.int .u64 x))) (by simp))
        have hy : Wd (y.den e) := inR_wd (hok (.one (.at (.int .u64 y))) (by simp))
        obtain ⟨hz0, hz1⟩ := carryB_sound (e := e) hc
        refine ⟨fun s hs => ?_, fun w0 w _ => ?_⟩
        · simp only [List.mem_cons, List.not_mem_nil, or_false] at hs
          rcases hs with hs | hs <;> subst hs
          · show inR .u64 (e.i h.ni)
            rw [d1]
            exact wd_inR ⟨by omega, by omega⟩
          · show inR .u64 (bi (e.b h.nb))
            have := bi_bd (e.b h.nb)
            exact wd_inR ⟨this.1, by omega⟩
        · unfold QuietRun
          have := ha _ _ _ hx hy hz0 hz1 w
          simp only [List.map_cons, List.map_nil, SV.den, SV1.den, Atom.den] at this ⊢
          rw [this]
          refine ⟨?_, Grow.refl _⟩
          rw [← d1, ← d2]
          rfl
    · cases hh
  | false =>
    rw [h1] at hh
    simp only [cond_false] at hh
    cases h2 : Nat.beq f fs with
    | true =>
      rw [h2] at hh
      simp only [cond_true] at hh
      have := Nat.eq_of_beq_eq_true h2
      subst this
      split at hh
      · rename_i x y z
        cases hc : carryB z with
        | false => rw [hc] at hh; cases hh
        | true =>
          rw [hc] at hh
          cases hh
          refine ⟨⟨rfl, rfl, rfl, rfl, rfl⟩, fun e β _ hok hds => ?_⟩
          obtain ⟨d1, d2⟩ := hds _ (List.mem_singleton.2 rfl)
          have hx : Wd (x.den e) := inR_wd (hok (.one (.at (.int .u64 x))) (by simp))
          have hy : Wd (y.den e) := inR_wd (hok (.one (.at (.int .u64 y))) (by simp))
          obtain ⟨hz0, hz1⟩ := carryB_sound (e := e) hc
          refine ⟨fun s hs => ?_, fun w0 w _ => ?_⟩
          · simp only [List.mem_cons, List.not_mem_nil, or_false] at hs
            rcases hs with hs | hs <;> subst hs
            · show inR .u64 (e.i h.ni)
              rw [d1]
              exact wd_inR ⟨by omega, by omega⟩
            · show inR .u64 (bi (e.b h.nb))
              have := bi_bd (e.b h.nb)
              exact wd_inR ⟨this.1, by omega⟩
          · unfold QuietRun
            have := hs _ _ _ hx hy hz0 hz1 w
            simp only [List.map_cons, List.map_nil, SV.den, SV1.den, Atom.den] at this ⊢
            rw [this]
            refine ⟨?_, Grow.refl _⟩
            rw [← d1, ← d2]
            rfl
      · cases hh
    | false =>
      rw [h2] at hh
      simp only [cond_false] at hh
      cases h3 : Nat.beq f fm with
      | false => rw [h3] at hh; cases hh
      | true =>
        rw [h3] at hh
        simp only [cond_true] at hh
        have := Nat.eq_of_beq_eq_true h3
        subst this
        split at hh
        · rename_i x y
          cases hh
          refine ⟨⟨rfl, rfl, rfl, rfl, rfl⟩, fun e β _ hok hds => ?_⟩
          obtain ⟨d1, d2⟩ := hds _ (List.mem_singleton.2 rfl)
          have hx : Wd (x.den e) := inR_wd (hok (.one (.at (.int .u64 x))) (by simp))
          have hy : Wd (y.den e) := inR_wd (hok (.one (.at (.int .u64 y))) (by simp))
          have hp0 : 0 ≤ x.den e * y.den e := Int.mul_nonneg hx.1 hy.1
          have hp1 : x.den e * y.den e ≤ 18446744073709551615 * 18446744073709551615 := Int.mul_le_mul (by have := hx.2; omega) (by have := hy.2; omega) hy.1 (by omega)
          refine ⟨fun s hs => ?_, fun w0 w _ => ?_⟩
          · simp only [List.mem_cons, List.not_mem_nil, or_false] at hs
            rcases hs with hs | hs <;> subst hs
            · show inR .u64 (e.i h.ni)
              rw [d1]
              exact wd_inR ⟨by omega, by omega⟩
            · show inR .u64 (e.i (h.ni + 1))
              rw [d2]
              exact wd_inR ⟨by omega, by omega⟩
          · have := hm _ _ hx hy w
            simp only [List.map_cons, List.map_nil, SV.den, SV1.den, Atom.den] at this ⊢
            show QuietRun P _ (.tuple #[.int .u64 (e.i h.ni), .int .u64 (e.i (h.ni + 1))]) w
            rw [d1, d2]
            exact this
        · cases hh

/-- A word-level quiet function, by its walk. -/
theorem quiet_of_tree {P : Program} {qf pf : QSum} (hm : P.follows .mixedOrders = true) (hnum : NumOk P) (hq : QOk P qf) (hp : POk P pf) {n : Nat} {f : FuncId} {args : List SV} {ni nb nf : Nat} {tree : Tree (SV × List (Nat × Atom))} {h0 : Hp}
    (h : sxCall P qf pf n f args h0 leafE = some tree) (hbd : tree.bd ni nb nf = true) (hext : h0.ext = []) {e : Env} {β : Nat → Nat}
    (hrel : ∀ w e', AgreeE ni nb nf e e' → HRel w e' β h0 w)
    (ha : ∀ e', AgreeE ni nb nf e e' → ∀ s ∈ args, s.ok h0.cnt e') (hden : ∀ e', AgreeE ni nb nf e e' → args.map (SV.den β e') = args.map (SV.den β e)) {u : Value}
    (goal : ∀ e', AgreeE ni nb nf e e' → tree.goal e' fun l => (∀ β, l.1.den β e' = u) ∧ l.2 = []) (w : World) :
    QuietRun P (callFunc f (args.map (SV.den β e)).toArray) u w := by
  obtain ⟨h1, h2⟩ := fn_of_tree hm hnum hq hp h hbd (hrel w) ha hden (fun e' l => (∀ β, l.1.den β e' = u) ∧ l.2 = []) goal
  unfold QuietRun
  rw [h1]
  refine h2.mono fun en w' ⟨v, log, β', e', cnt, g1, g2, g3, g4, g5, g6⟩ => ?_
  obtain ⟨g51, g52⟩ := g5
  simp only at g51 g52
  subst g52
  exact ⟨by rw [g1, g51], g6⟩
end Go.Sx
namespace Go.Sx
open Go

/-! ### Words: masks, shifts, ors -/
theorem toNat_ofInt {x : Int} {n : Nat} (h0 : 0 ≤ x) (h1 : x < 2 ^ n) : (BitVec.ofInt n x).toNat = x.toNat := by
  rw [BitVec.toNat_ofInt, Int.emod_eq_of_lt h0 (by simpa using h1)]
theorem bits_u64 : IntKind.u64.bits = 64 := rfl
theorem wrap_id {n : Int} (h : Wd n) : IntKind.u64.wrap n = n := by
  rw [wrap_u64]; exact Int.emod_eq_of_lt h.1 h.2
theorem and_mask {x : Int} (h : Wd x) (k : Nat) (hk : k ≤ 64) : btI .and .u64 x ((2 ^ k - 1 : Nat) : Int) = x % (2 ^ k : Nat) := by
  obtain ⟨h0, h1⟩ := h
  obtain ⟨m, rfl⟩ := nat_of h0
  have hp : 2 ^ k ≤ 2 ^ 64 := Nat.pow_le_pow_right (by omega) hk
  have hpos : 0 < 2 ^ k := Nat.pow_pos (by omega)
  show IntKind.u64.wrap (((BitVec.ofInt 64 (m : Int) &&& BitVec.ofInt 64 ((2 ^ k - 1 : Nat) : Int) : BitVec 64).toNat : Nat) : Int) = _
  rw [BitVec.toNat_and, toNat_ofInt (by omega) (by omega), toNat_ofInt (by omega) (by omega)]
  simp only [Int.toNat_natCast]
  rw [Nat.and_two_pow_sub_one_eq_mod]
  have : m % 2 ^ k < 2 ^ k := Nat.mod_lt _ hpos
  rw [wrap_id ⟨by omega, by omega⟩]
  rfl
theorem and32 {x : Int} (h : Wd x) : btI .and .u64 x 4294967295 = x % 4294967296 := and_mask h 32 (by omega)
theorem shrI {x : Int} (n : Nat) (hn : n ≤ 64) : shI .shr .u64 x n = x / (2 ^ n : Int) := by
  simp only [shI, bits_u64]
  rw [Nat.min_eq_left hn, Int.fdiv_eq_ediv_of_nonneg _ (Int.le_of_lt (Int.pow_pos (by omega)))]
theorem shr32 {x : Int} : shI .shr .u64 x 32 = x / 4294967296 := shrI 32 (by omega)
/-- An or is nought just where both are. -/
theorem or_zero {x y : Int} (hx : Wd x) (hy : Wd y) : btI .or .u64 x y = 0 ↔ x = 0 ∧ y = 0 := by
  obtain ⟨m, rfl⟩ := nat_of hx.1
  obtain ⟨n, rfl⟩ := nat_of hy.1
  have h1 := hx.2
  have h2 := hy.2
  show IntKind.u64.wrap (((BitVec.ofInt 64 (m : Int) ||| BitVec.ofInt 64 (n : Int) : BitVec 64).toNat : Nat) : Int) = 0 ↔ _
  rw [BitVec.toNat_or, toNat_ofInt (by omega) (by omega), toNat_ofInt (by omega) (by omega)]
  simp only [Int.toNat_natCast]
  have hlt : m ||| n < 2 ^ 64 := Nat.or_lt_two_pow (by omega) (by omega)
  rw [wrap_id ⟨by omega, by omega⟩]
  constructor
  · intro h
    have h' : m ||| n = 0 := by omega
    rw [Nat.or_eq_zero_iff] at h'
    omega
  · rintro ⟨h3, h4⟩
    have : m = 0 := by omega
    have : n = 0 := by omega
    subst m; subst n
    rfl
theorem xor_zero {x y : Int} (hx : Wd x) (hy : Wd y) : btI .xor .u64 x y = 0 ↔ x = y := by
  obtain ⟨m, rfl⟩ := nat_of hx.1
  obtain ⟨n, rfl⟩ := nat_of hy.1
  have h1 := hx.2
  have h2 := hy.2
  show IntKind.u64.wrap (((BitVec.ofInt 64 (m : Int) ^^^ BitVec.ofInt 64 (n : Int) : BitVec 64).toNat : Nat) : Int) = 0 ↔ _
  rw [BitVec.toNat_xor, toNat_ofInt (by omega) (by omega), toNat_ofInt (by omega) (by omega)]
  simp only [Int.toNat_natCast]
  have hlt : m ^^^ n < 2 ^ 64 := Nat.xor_lt_two_pow (by omega) (by omega)
  rw [wrap_id ⟨by omega, by omega⟩]
  constructor
  · intro h
    have h' : m ^^^ n = 0 := by omega
    have h2 : n ^^^ (m ^^^ n) = n := by rw [h', Nat.xor_zero]
    rw [Nat.xor_comm m n, ← Nat.xor_assoc, Nat.xor_self, Nat.zero_xor] at h2
    omega
  · intro h
    have : m = n := by omega
    subst m
    simp

/-- math/bits.Mul64's reckoning. -/
theorem mul64_law {x y x0 x1 y0 y1 a b c d w t w1 w2 w1' hi : Int} (hx : Wd x) (hy : Wd y) (e1 : x0 = x % 4294967296) (e2 : x1 = x / 4294967296) (e3 : y0 = y % 4294967296) (e4 : y1 = y / 4294967296)
    (ha : a = x0 * y0) (hb : b = x1 * y0) (hc : c = x0 * y1) (hd : d = x1 * y1)
    (hw : ∃ k, w = a - 18446744073709551616 * k) (hw0 : Wd w) (ht : ∃ j k, t = (b - 18446744073709551616 * j) + w / 4294967296 - 18446744073709551616 * k ∧ Wd (b - 18446744073709551616 * j)) (ht0 : Wd t) (h1 : w1 = t % 4294967296) (h2 : w2 = t / 4294967296)
    (h3 : ∃ j k, w1' = w1 + (c - 18446744073709551616 * j) - 18446744073709551616 * k ∧ Wd (c - 18446744073709551616 * j)) (h30 : Wd w1')
    (h4 : ∃ i j k, hi = (d - 18446744073709551616 * i) + w2 - 18446744073709551616 * j + w1' / 4294967296 - 18446744073709551616 * k ∧ Wd (d - 18446744073709551616 * i) ∧ Wd ((d - 18446744073709551616 * i) + w2 - 18446744073709551616 * j)) (h40 : Wd hi) :
    hi = x * y / 18446744073709551616 := by
  have bx0 : 0 ≤ x0 ∧ x0 ≤ 4294967295 := by omega
  have bx1 : 0 ≤ x1 ∧ x1 ≤ 4294967295 := by unfold Wd at hx; omega
  have by0 : 0 ≤ y0 ∧ y0 ≤ 4294967295 := by omega
  have by1 : 0 ≤ y1 ∧ y1 ≤ 4294967295 := by unfold Wd at hy; omega
  have bd : ∀ u v : Int, (0 ≤ u ∧ u ≤ 4294967295) → (0 ≤ v ∧ v ≤ 4294967295) → 0 ≤ u * v ∧ u * v ≤ 18446744065119617025 := fun u v hu hv =>
    ⟨Int.mul_nonneg hu.1 hv.1, Int.le_trans (Int.mul_le_mul hu.2 hv.2 hv.1 (by omega)) (by omega)⟩
  have ba := bd _ _ bx0 by0
  have bb := bd _ _ bx1 by0
  have bc := bd _ _ bx0 by1
  have bdd := bd _ _ bx1 by1
  rw [← ha] at ba
  rw [← hb] at bb
  rw [← hc] at bc
  rw [← hd] at bdd
  have hxx : x = x0 + 4294967296 * x1 := by omega
  have hyy : y = y0 + 4294967296 * y1 := by omega
  have hxy : x * y = a + 4294967296 * b + 4294967296 * c + 18446744073709551616 * d := by
    rw [ha, hb, hc, hd, hxx, hyy]; grind
  rw [hxy]
  clear hxy hxx hyy ha hb hc hd e1 e2 e3 e4 bd bx0 bx1 by0 by1 hx hy
  unfold Wd at *
  obtain ⟨k, rfl⟩ := hw
  obtain ⟨j1, k1, rfl, hj1⟩ := ht
  obtain ⟨j2, k2, rfl, hj2⟩ := h3
  obtain ⟨i3, j3, k3, rfl, hj3, hj4⟩ := h4
  subst h1; subst h2
  have z1 : k = 0 := by omega
  have z2 : j1 = 0 := by omega
  subst z1; subst z2
  have z3 : k1 = 0 := by omega
  have z4 : j2 = 0 := by omega
  subst z3; subst z4
  have z5 : k2 = 0 := by omega
  have z6 : i3 = 0 := by omega
  subst z5; subst z6
  omega
end Go.Sx
