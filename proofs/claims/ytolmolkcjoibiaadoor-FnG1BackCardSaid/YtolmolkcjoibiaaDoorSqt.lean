import Derived.Test.YtolmolkcjoibiaaDoorSv
/- Aids to the claim: what is shown here is said at each theorem. -/
namespace Go.Sx
open Go
set_option maxRecDepth 100000
/-! ### Powers by a chain of products -/
def EX : Nat := 5472060717959818805561601436314318772174077789324455915672259473661306552146
theorem fn7 {e : Env} {k : Nat} : (FD.fn 7 [k]).ev e = fpow (e.f k) EX := rfl
def rootF (x : Fq) : Fq := fpow x EX
/-- The numbers' exponents, one by one. -/
def okC (E : Nat) (fin : Lf → Option Nat) : List Nat → Tree Lf → Bool
  | xs, .leaf l => (match fin l with
    | some c => (match xs[c]? with
      | some x => Nat.beq x E
      | none => false)
    | none => false)
  | xs, .dn d t => (match d with
    | .f n fd => Nat.beq n xs.length && (match fd with
      | .mul a b => (match xs[a]?, xs[b]? with
        | some x, some y => Nat.blt (x + y) 115792089237316195423570985008687907853269984665640564039457584007913129639936 && okC E fin (xs ++ [x + y]) t
        | _, _ => false)
      | .k 1 => okC E fin (xs ++ [0]) t
      | _ => false)
    | _ => false)
  | _, _ => false
theorem okC_goal {E : Nat} {fin : Lf → Option Nat} {e : Env} {a : Fq} {Φ : Lf → Prop} (hfin : ∀ l c, fin l = some c → e.f c = fpow a E → Φ l) : ∀ (t : Tree Lf) (xs : List Nat), okC E fin xs t = true → (∀ (k x : Nat), xs[k]? = some x → x < 2 ^ 256 ∧ e.f k = fpow a x) → t.goal e Φ
  | .leaf l, xs, h, hx => by
    unfold okC at h
    split at h
    · rename_i c hc
      split at h
      · rename_i x hxc
        refine hfin l c hc ?_
        rw [(hx c x hxc).2, Nat.eq_of_beq_eq_true h]
      · cases h
    · cases h
  | .no, xs, h, _ => by cases h
  | .br _ _ _, xs, h, _ => by cases h
  | .dn d t, xs, h, hx => fun hd => by
    unfold okC at h
    split at h
    · rename_i n fd
      rw [Bool.and_eq_true] at h
      obtain ⟨hn, h⟩ := h
      have hn := Nat.eq_of_beq_eq_true hn
      subst hn
      have ext : ∀ y, y < 2 ^ 256 → e.f xs.length = fpow a y → ∀ (k x : Nat), (xs ++ [y])[k]? = some x → x < 2 ^ 256 ∧ e.f k = fpow a x := fun y hy hye k x hk => by
        rcases Nat.lt_or_ge k xs.length with hlt | hge
        · rw [List.getElem?_append_left hlt] at hk
          exact hx k x hk
        · rw [List.getElem?_append_right hge] at hk
          have h0 : k - xs.length = 0 := by
            have := (List.getElem?_eq_some_iff.1 hk).1
            simp at this
            omega
          rw [h0] at hk
          cases hk
          have : k = xs.length := by omega
          rw [this]
          exact ⟨hy, hye⟩
      split at h
      · rename_i a' b'
        have hd : e.f xs.length = e.f a' * e.f b' := hd
        split at h
        · rename_i x y hxa hyb
          rw [Bool.and_eq_true] at h
          have hlt := bltLt h.1
          have hs : x + y < 2 ^ 256 := by omega
          refine okC_goal hfin t _ h.2 (ext (x + y) hs ?_)
          rw [hd, (hx a' x hxa).2, (hx b' y hyb).2, fpow_add a hs]
        · cases h
      · have hd : e.f xs.length = 1 := hd
        exact okC_goal hfin t _ h (ext 0 (by decide) (by rw [hd, fpow_zero]))
      · cases h
    · cases h
def okCO (E : Nat) (fin : Lf → Option Nat) (ni nf : Nat) : Option (Tree Lf) → Bool
  | some t => okC E fin [1] t && t.bd ni 0 nf
  | none => false
/-! ### Element.ExpBySqrtPp1o4 -/
def finP (l : Lf) : Option Nat := match logGet l.2 0 with
  | some (.int .u64 (.em c _)) => bif okEnd c l then some c else none
  | _ => none
def SqC (P : Program) (f : FuncId) : Prop := ∀ (w : World) (z : Addr) (a : Fq), Place w z → Does P f #[ptr z, .agg (emV a).toArray] (ptr z) w (w.setCells z.block z.off (emV (rootF a)))
section
variable {P : Program} {qf pf : QSum}
theorem sqC_of (hm : P.follows .mixedOrders = true) (hnum : NumOk P) (hq : QOk P qf) (hp : POk P pf) {f : FuncId} {n : Nat}
    (h : okCO EX finP 4 1 (sxCall P qf pf n f [pt 0, .one (.agg (ems 0))] (hp0 [ws 0] 4 1) leafE) = true) : SqC P f := by
  intro w z a hz
  obtain ⟨⟨o0, o1, o2, o3, w0, w1, w2, w3, hzc⟩, hzf⟩ := hz
  cases ht : sxCall P qf pf n f [pt 0, .one (.agg (ems 0))] (hp0 [ws 0] 4 1) leafE with
  | none => rw [ht] at h; cases h
  | some t =>
    rw [ht, okCO, Bool.and_eq_true] at h
    let e : Env := { i := valsL [o0, o1, o2, o3], b := fun _ => false, f := fun _ => a, ext := fun _ => z }
    have hwd : ∀ k, Wd (e.i k) := fun k => valsL_wd (fun x hx => by
      simp only [List.mem_cons, List.not_mem_nil, or_false] at hx
      rcases hx with rfl | rfl | rfl | rfl
      · exact w0
      · exact w1
      · exact w2
      · exact w3) k
    have hargs : ∀ e', AgreeE 4 0 1 e e' → [pt 0, .one (.agg (ems 0))].map (SV.den (fun _ => 0) e') = [ptr z, .agg (emV a).toArray] := fun e' ha => by
      have h1 : e'.f 0 = a := ha.f 0 (by omega)
      have h2 : e'.ext 0 = z := by rw [ha.ext]
      simp only [List.map_cons, List.map_nil, pt, SV.den, SV1.den, Atom.den, SA.den, h2, ems_den, h1]
      rw [ptr_of hzc.1]
    have := fn_of_tree (β := fun _ => 0) (e := e) (w := w) hm hnum hq hp ht h.2 (fun e' ha => by
        refine hp0_rel (fun j c hj => ?_) (fun c hc => ?_) (fun j c c0 hj hc hc0 => ?_)
        · match j, hj with
          | 0, hj =>
            cases hj
            have h2 : e'.ext 0 = z := by rw [ha.ext]
            rw [h2]
            refine ⟨cells_block hzc, ?_, fun x hx => ?_⟩
            · rw [ws_den, ha.i 0 (by omega), ha.i 1 (by omega), ha.i 2 (by omega), ha.i 3 (by omega)]
              exact hzc
            · simp only [ws, List.mem_cons, List.not_mem_nil, or_false] at hx
              rcases hx with rfl | rfl | rfl | rfl
              · exact wd_inR (by rw [den_v, ha.i 0 (by omega)]; exact hwd 0)
              · exact wd_inR (by rw [den_v, ha.i 1 (by omega)]; exact hwd 1)
              · exact wd_inR (by rw [den_v, ha.i 2 (by omega)]; exact hwd 2)
              · exact wd_inR (by rw [den_v, ha.i 3 (by omega)]; exact hwd 3)
          | j + 1, hj => simp at hj
        · cases hc
          rw [ha.ext]
          exact hzf
        · match j, hj, hc with
          | 0, hj, _ => exact absurd rfl hj
          | j + 1, _, hc => simp at hc)
      (fun e' ha s hs => by
        simp only [List.mem_cons, List.not_mem_nil, or_false] at hs
        rcases hs with rfl | rfl
        · trivial
        · exact ems_ok _ _)
      (fun e' ha => by rw [hargs e' ha, hargs e (AgreeE.refl _ _ _ _)]) (fun e' l => Wrote e' (pt 0) (fun n => n = mont (fpow a EX)) l)
      (fun e' ha => okC_goal (a := a) (fun l c hc hE => by
          unfold finP at hc
          split at hc
          · rename_i c' _ _
            cases hb : okEnd c' l with
            | false => rw [hb] at hc; cases hc
            | true =>
              rw [hb] at hc
              cases hc
              exact okEnd_spec hb (by rw [hE])
          · cases hc) t [1] h.1 (fun k x hk => by
          match k, hk with
          | 0, hk =>
            cases hk
            exact ⟨by decide, by rw [fpow_one]; exact ha.f 0 (by omega)⟩
          | k + 1, hk => simp at hk))
    rw [hargs e (AgreeE.refl _ _ _ _)] at this
    refine ⟨this.1, this.2.mono fun en w' ⟨v, log, β', e', cnt, g1, g2, g3, g4, g5, g6⟩ => ?_⟩
    have hv : v = pt 0 := g5.1
    have h2 : e'.ext 0 = z := by rw [g2.ext]
    refine ⟨?_, wrote_end h2 g5 g6⟩
    rw [g1, hv]
    simp only [pt, SV.den, SV1.den, Atom.den, SA.den, h2]
    rw [ptr_of hzc.1]
end
def sqF (fn : FuncId) : QSum := fun f args h =>
  bif Nat.beq f fn then match args with
    | [.one (.at (.ptr z)), .one (.agg lx)] => match rd4 h z, toW4 lx with
      | some _, some wx => match elOf h wx with
        | some (d1, i, h1) => match wr { h1 with nf := h1.nf + 1 } z.root z.off (ems h1.nf) with
            | some h3 => some (d1 ++ [.f h1.nf (.fn 7 [i])], .one (.at (.ptr z)), h3)
            | none => none
        | none => none
      | _, _ => none
    | _ => none
  else none
theorem sqF_p {P : Program} {fn : FuncId} (hc : SqC P fn) : POk P (sqF fn) := by
  intro f args h ds v h' hh
  unfold sqF at hh
  cases hb : Nat.beq f fn with
  | false => rw [hb] at hh; cases hh
  | true =>
    rw [hb] at hh
    have hf := Nat.eq_of_beq_eq_true hb
    subst hf
    simp only [cond_true] at hh
    split at hh
    · rename_i z lx
      split at hh
      · rename_i wz wx hz hx
        split at hh
        · rename_i d1 i h1 he1
          split at hh
          · rename_i h3 hw
            cases hh
            obtain ⟨m1, s1⟩ := elOf_sound he1
            have hmm : SameMem h { h1 with nf := h1.nf + 1 } := m1.trans (SameMem.nf _ _)
            have hcnt := (wr_cnt hw).trans hmm.2.1
            refine ⟨hcnt, fun w0 e β w hr hok hds => ?_⟩
            have hr' := hr.same hmm
            obtain ⟨⟨cz, hcz⟩, oz, az⟩ := rd4_sound hr hz
            have ox : wx.ok e := W4.ok_of hx (hok (.one (.agg lx)) (by simp))
            have ix := s1 e hr.facts ox (fun d hd => hds d (by simp [hd]))
            have hdef : e.f h1.nf = rootF (e.f i) := hds (.f h1.nf (.fn 7 [i])) (by simp)
            obtain ⟨b1, b2, b3, _⟩ := wr_sound (ems h1.nf) hr' (r := z.root) (o := z.off) (ems_ok _ _) hw
            have pz : Place w (z.den β e) := ⟨⟨_, _, _, _, oz.1, oz.2.1, oz.2.2.1, oz.2.2.2, az⟩, unfrozen_of (a := z) b1⟩
            obtain ⟨k1, k2⟩ := hc w (z.den β e) (e.f i) pz
            have hargs : ([SV.one (.at (.ptr z)), .one (.agg lx)].map (SV.den β e)).toArray = #[ptr (z.den β e), .agg (emV (e.f i)).toArray] := by
              simp only [List.map_cons, List.map_nil]
              rw [W4.agg_den hx, is_words ix]
              rfl
            rw [hargs]
            refine ⟨hok (.one (.at (.ptr z))) (by simp), k1, k2.mono fun en w' ⟨g1, g2⟩ => ⟨g1, ?_, ?_⟩⟩
            · rw [ems_den, hdef] at b2
              exact b2.grow g2
            · have := g2.size
              rw [setCells_size] at this
              exact this
          · cases hh
        · cases hh
      · cases hh
    · cases hh
/-! ### spec.power at the root's exponent, spec.half of constants, spec.root -/
def rxL : List Atom := [.int .u64 (.c 5694840236247301970), .int .u64 (.c 7340967054546858659), .int .u64 (.c 7931984006246061591), .int .u64 (.c 871749566700742666)]
def exV : Value := .agg #[.int .u64 5694840236247301970, .int .u64 7340967054546858659, .int .u64 7931984006246061591, .int .u64 871749566700742666]
def PowC (P : Program) (f : FuncId) : Prop := ∀ (a : Fq) (w : World), QuietRun P (callFunc f #[elsV [a], exV]) (elsV [rootF a]) w
def finE (l : Lf) : Option Nat := match l with
  | (.one (.agg [.int .u64 (.ep c 0), .int .u64 (.ep c1 1), .int .u64 (.ep c2 2), .int .u64 (.ep c3 3)]), []) => bif Nat.beq c c1 && Nat.beq c c2 && Nat.beq c c3 then some c else none
  | _ => none
theorem powC_of {P : Program} {qf pf : QSum} (hm : P.follows .mixedOrders = true) (hnum : NumOk P) (hq : QOk P qf) (hp : POk P pf) {f : FuncId} (h : okCO EX finE 0 1 (sxCall P qf pf 5000 f [.one (.agg (eps 0)), .one (.agg rxL)] (hp0 [] 0 1) leafE) = true) : PowC P f := fun a w => by
  cases ht : sxCall P qf pf 5000 f [.one (.agg (eps 0)), .one (.agg rxL)] (hp0 [] 0 1) leafE with
  | none => rw [ht] at h; cases h
  | some t =>
    rw [ht, okCO, Bool.and_eq_true] at h
    have key := quiet_els (fs := fsOf [a]) (u := elsV [rootF a]) hm hnum hq hp ht h.2 rfl rfl
      (fun e he => okC_goal (a := a) (fun l c hc hE => by
          unfold finE at hc
          split at hc
          · rename_i c' c1 c2 c3
            cases hb : (Nat.beq c' c1 && Nat.beq c' c2 && Nat.beq c' c3) with
            | false => rw [hb] at hc; cases hc
            | true =>
              rw [hb] at hc
              cases hc
              simp only [Bool.and_eq_true] at hb
              obtain ⟨⟨b1, b2⟩, b3⟩ := hb
              have b1 := Nat.eq_of_beq_eq_true b1
              have b2 := Nat.eq_of_beq_eq_true b2
              have b3 := Nat.eq_of_beq_eq_true b3
              subst b1 b2 b3
              refine ⟨fun β => ?_, rfl⟩
              show elsV [e.f _] = _
              rw [hE]
              rfl
          · cases hc) t [1] h.1 (fun k x hk => by
          match k, hk with
          | 0, hk =>
            cases hk
            exact ⟨by decide, by rw [fpow_one]; exact he 0 (by omega)⟩
          | k + 1, hk => simp at hk)) (vs := [elsV [a], exV]) rfl w
    exact key
def isEx : List Atom → Bool
  | [.int .u64 (.c a), .int .u64 (.c b), .int .u64 (.c c), .int .u64 (.c d)] => decide (a = 5694840236247301970) && decide (b = 7340967054546858659) && decide (c = 7931984006246061591) && decide (d = 871749566700742666)
  | _ => false
theorem isEx_spec {l : List Atom} (h : isEx l = true) : l = rxL := by
  unfold isEx at h
  split at h
  · simp only [Bool.and_eq_true, decide_eq_true_eq] at h
    obtain ⟨⟨⟨rfl, rfl⟩, rfl⟩, rfl⟩ := h
    rfl
  · cases h
def powF' (fn : FuncId) : QSum := fun f args h =>
  bif Nat.beq f fn then match args with
    | [x, .one (.agg l)] => bif isEx l then match argEls h [x] with
        | some (ds, [[i]], h1) => some (ds ++ newEls h1.nf [.fn 7 [i]], outS false [h1.nf], { h1 with nf := h1.nf + 1 })
        | _ => none
      else none
    | _ => none
  else none
theorem powF_q {P : Program} {fn : FuncId} (hc : PowC P fn) : QOk P (powF' fn) := by
  intro f args h ds v h' hh
  unfold powF' at hh
  cases hb : Nat.beq f fn with
  | false => rw [hb] at hh; cases hh
  | true =>
    rw [hb] at hh
    have hf := Nat.eq_of_beq_eq_true hb
    subst hf
    simp only [cond_true] at hh
    split at hh
    · rename_i x l
      cases hl : isEx l with
      | false => rw [hl] at hh; cases hh
      | true =>
        rw [hl] at hh
        simp only [cond_true] at hh
        have hl := isEx_spec hl
        subst hl
        split at hh
        · rename_i ds' i h1 ha
          cases hh
          obtain ⟨m1, _⟩ := argEls_sound (e := elEnv fun _ => 0) (β := fun _ => 0) (n := 0) ha
          refine ⟨m1.trans (SameMem.nf _ _), fun e β hf hok hds => ?_⟩
          obtain ⟨_, s1⟩ := argEls_sound (e := e) (β := β) (n := h.cnt) ha
          have hargs := s1 hf (fun s hs => hok s (by cases List.mem_singleton.1 hs; simp)) fun d hd => hds d (by simp [hd])
          have hnew := newEls_holds (e := e) (ds := [.fn 7 [i]]) (n := h1.nf) fun d hd => hds d (by simp [hd])
          have d0 : e.f h1.nf = rootF (e.f i) := hnew 0 (.fn 7 [i]) rfl
          refine ⟨outS_ok, fun w0 w _ => ?_⟩
          have hx : SV.den β e x = elsV [e.f i] := by
            have := hargs
            simp only [List.map_cons, List.map_nil, List.cons.injEq, and_true] at this
            exact this
          rw [outS_den]
          simp only [List.map_cons, List.map_nil, hx]
          rw [d0]
          exact hc (e.f i) w
        · cases hh
    · cases hh
/-- Half of a constant. -/
def hcF (fn : FuncId) : QSum := fun f args h =>
  bif Nat.beq f fn then match args with
    | [.one (.agg [.int .u64 (.c a), .int .u64 (.c b), .int .u64 (.c c), .int .u64 (.c d)])] =>
      bif decide (0 ≤ a) && decide (a < 18446744073709551616) && decide (0 ≤ b) && decide (b < 18446744073709551616) && decide (0 ≤ c) && decide (c < 18446744073709551616) && decide (0 ≤ d) && decide (d < 18446744073709551616) then
        let N := (v4 a b c d).toNat / 2
        some ([], .one (.agg [.int .u64 (.c (w4 N 0 : Nat)), .int .u64 (.c (w4 N 1 : Nat)), .int .u64 (.c (w4 N 2 : Nat)), .int .u64 (.c (w4 N 3 : Nat))]), h)
      else none
    | _ => none
  else none
theorem hcF_q {P : Program} {fn : FuncId} (hc : HalfC P fn) : QOk P (hcF fn) := by
  intro f args h ds v h' hh
  unfold hcF at hh
  cases hb : Nat.beq f fn with
  | false => rw [hb] at hh; cases hh
  | true =>
    rw [hb] at hh
    have hf := Nat.eq_of_beq_eq_true hb
    subst hf
    simp only [cond_true] at hh
    split at hh
    · rename_i a b c d
      cases hk : (decide (0 ≤ a) && decide (a < 18446744073709551616) && decide (0 ≤ b) && decide (b < 18446744073709551616) && decide (0 ≤ c) && decide (c < 18446744073709551616) && decide (0 ≤ d) && decide (d < 18446744073709551616)) with
      | false => rw [hk] at hh; cases hh
      | true =>
        rw [hk] at hh
        cases hh
        simp only [Bool.and_eq_true, decide_eq_true_eq] at hk
        obtain ⟨⟨⟨⟨⟨⟨⟨a0, a1⟩, b0⟩, b1⟩, c0⟩, c1⟩, d0⟩, d1⟩ := hk
        refine ⟨SameMem.refl _, fun e β hf hok hds => ?_⟩
        refine ⟨fun x hx => ?_, fun w0 w _ => ?_⟩
        · simp only [List.mem_cons, List.not_mem_nil, or_false] at hx
          rcases hx with rfl | rfl | rfl | rfl <;> exact wd_inR (w4_wd _ _)
        · have hv0 := v4_nonneg a0 b0 c0 d0
          have hvl : v4 a b c d < 115792089237316195423570985008687907853269984665640564039457584007913129639936 := v4_lt ⟨a0, a1⟩ ⟨b0, b1⟩ ⟨c0, c1⟩ ⟨d0, d1⟩
          obtain ⟨N, hN⟩ := Int.eq_ofNat_of_zero_le hv0
          have hNR : N < RR := by unfold RR; omega
          have harg : SV.den β e (.one (.agg [.int .u64 (.c a), .int .u64 (.c b), .int .u64 (.c c), .int .u64 (.c d)])) = agN N := by
            have hw := w4_of (n := N) ⟨a0, a1⟩ ⟨b0, b1⟩ ⟨c0, c1⟩ ⟨d0, d1⟩ hN
            show Value.agg #[.int .u64 a, .int .u64 b, .int .u64 c, .int .u64 d] = .agg (numV N).toArray
            rw [hw.1, hw.2.1, hw.2.2.1, hw.2.2.2]
            rfl
          have := hc N hNR w
          simp only [List.map_cons, List.map_nil, harg]
          rw [hN, Int.toNat_natCast]
          exact this
    · cases hh
def RootC (P : Program) (f : FuncId) : Prop := ∀ (a : Fq) (w : World), QuietRun P (callFunc f #[elsV [a]]) (.tuple #[elsV [rootF a], .bool (decide (rootF a * rootF a = a))]) w
def tRoot : Tree Lf := .dn (.f 1 (.fn 7 [0])) <| .dn (.f 2 (.mul 1 1)) <| .leaf (.tup [.agg (eps 1), .at (.bool (.fe 2 0))], [])
theorem rootC_of {P : Program} {qf pf : QSum} (hm : P.follows .mixedOrders = true) (hnum : NumOk P) (hq : QOk P qf) (hp : POk P pf) {f : FuncId} (h : sxCall P qf pf 5000 f [.one (.agg (eps 0))] (hp0 [] 0 1) leafE = some tRoot) : RootC P f := fun a w => by
  have key := quiet_els (fs := fsOf [a]) (u := .tuple #[elsV [rootF a], .bool (decide (rootF a * rootF a = a))]) hm hnum hq hp h (by decide +kernel) rfl rfl
    (fun e he d1 d2 => by
      have e0 : e.f 0 = a := he 0 (by omega)
      have d1 : e.f 1 = rootF (e.f 0) := d1
      have d2 : e.f 2 = e.f 1 * e.f 1 := d2
      refine ⟨fun β => ?_, rfl⟩
      show Value.tuple #[elsV [e.f 1], .bool (decide (e.f 2 = e.f 0))] = _
      rw [d2, d1, e0]) (vs := [elsV [a]]) rfl w
  exact key
def rtF (fn : FuncId) : QSum := fun f args h =>
  bif Nat.beq f fn then match argEls h args with
    | some (ds, [[i]], h1) => some (ds ++ newEls h1.nf [.fn 7 [i], .mul h1.nf h1.nf], .tup [.agg (eps h1.nf), .at (.bool (.fe (h1.nf + 1) i))], { h1 with nf := h1.nf + 2 })
    | _ => none
  else none
theorem rtF_q {P : Program} {fn : FuncId} (hc : RootC P fn) : QOk P (rtF fn) := by
  intro f args h ds v h' hh
  unfold rtF at hh
  cases hb : Nat.beq f fn with
  | false => rw [hb] at hh; cases hh
  | true =>
    rw [hb] at hh
    have hf := Nat.eq_of_beq_eq_true hb
    subst hf
    simp only [cond_true] at hh
    split at hh
    · rename_i ds' i h1 ha
      cases hh
      obtain ⟨m1, _⟩ := argEls_sound (e := elEnv fun _ => 0) (β := fun _ => 0) (n := 0) ha
      refine ⟨m1.trans (SameMem.nf _ _), fun e β hf hok hds => ?_⟩
      obtain ⟨_, s1⟩ := argEls_sound (e := e) (β := β) (n := h.cnt) ha
      have hargs := s1 hf hok fun d hd => hds d (by simp [hd])
      have hnew := newEls_holds (e := e) (ds := [.fn 7 [i], .mul h1.nf h1.nf]) (n := h1.nf) fun d hd => hds d (by simp [hd])
      have d0 : e.f h1.nf = rootF (e.f i) := hnew 0 (.fn 7 [i]) rfl
      have d1 : e.f (h1.nf + 1) = e.f h1.nf * e.f h1.nf := hnew 1 (.mul h1.nf h1.nf) rfl
      refine ⟨fun x hx => ?_, fun w0 w _ => ?_⟩
      · simp only [List.mem_cons, List.not_mem_nil, or_false] at hx
        rcases hx with rfl | rfl
        · exact eps_ok _ _ _
        · trivial
      · rw [hargs]
        have hv : (SV.tup [.agg (eps h1.nf), .at (.bool (.fe (h1.nf + 1) i))]).den β e = .tuple #[elsV [rootF (e.f i)], .bool (decide (rootF (e.f i) * rootF (e.f i) = e.f i))] := by
          show Value.tuple #[elsV [e.f h1.nf], .bool (decide (e.f (h1.nf + 1) = e.f i))] = _
          rw [d1, d0]
        rw [hv]
        exact hc (e.f i) w
    · cases hh
/-! ### Greater than its opposite -/
def pw4 (k : Nat) : W4 := ⟨.ep k 0, .ep k 1, .ep k 2, .ep k 3⟩
theorem pw4_ok (e : Env) (k : Nat) : (pw4 k).ok e := ⟨w4_wd _ _, w4_wd _ _, w4_wd _ _, w4_wd _ _⟩
theorem pw4_val (e : Env) (k : Nat) : (pw4 k).val e = ((e.f k).val : Nat) := v4_w4 (val_RR _)
def cw4 (a b c d : Int) : W4 := ⟨.c a, .c b, .c c, .c d⟩
def tLex : Tree Lf := .dn (.sb 0 0 (.ep 0 0) (.c 11389680472494603940) (.c 0)) <| .dn (.sb 1 1 (.ep 0 1) (.c 14681934109093717318) (.b 0)) <| .dn (.sb 2 2 (.ep 0 2) (.c 15863968012492123182) (.b 1)) <| .dn (.sb 3 3 (.ep 0 3) (.c 1743499133401485332) (.b 2)) <|
  .leaf (.one (.at (.bool (.eq (.b 3) (.c 0)))), [])
theorem lex_goal {e : Env} {a : Fq} (h0 : e.f 0 = a) : tLex.goal e fun l => (∀ β, l.1.den β e = .bool (btab 0 [a])) ∧ l.2 = [] := fun d0 d1 d2 d3 => by
  have hc : (cw4 11389680472494603940 14681934109093717318 15863968012492123182 1743499133401485332).ok e := ⟨by show (0:Int) ≤ 11389680472494603940 ∧ (11389680472494603940:Int) < 18446744073709551616; decide, by show (0:Int) ≤ 14681934109093717318 ∧ (14681934109093717318:Int) < 18446744073709551616; decide, by show (0:Int) ≤ 15863968012492123182 ∧ (15863968012492123182:Int) < 18446744073709551616; decide, by show (0:Int) ≤ 1743499133401485332 ∧ (1743499133401485332:Int) < 18446744073709551616; decide⟩
  obtain ⟨_, _, h3⟩ := sb4 (e := e) (n := 0) (m := 0) (a := pw4 0) (b := cw4 11389680472494603940 14681934109093717318 15863968012492123182 1743499133401485332) (pw4_ok e 0) hc d0 d1 d2 d3
  rw [pw4_val, h0] at h3
  have hv : (cw4 11389680472494603940 14681934109093717318 15863968012492123182 1743499133401485332).val e = 10944121435919637611123202872628637544348155578648911831344518947322613104292 := by
    show v4 11389680472494603940 14681934109093717318 15863968012492123182 1743499133401485332 = _
    decide
  rw [hv] at h3
  refine ⟨fun β => ?_, rfl⟩
  show Value.bool ((if e.b 3 = true then (1 : Int) else 0) == 0) = .bool (decide (q < 2 * a.val))
  congr 1
  cases hb : e.b 3 with
  | true =>
    rw [hb] at h3
    have := of_decide_eq_true h3.symm
    rw [decide_eq_false (by unfold q; omega)]
    rfl
  | false =>
    rw [hb] at h3
    have := of_decide_eq_false h3.symm
    rw [decide_eq_true (by unfold q; omega)]
    rfl
theorem lex_of {P : Program} {qf pf : QSum} (hm : P.follows .mixedOrders = true) (hnum : NumOk P) (hq : QOk P qf) (hp : POk P pf) {f : FuncId} (h : sxCall P qf pf 5000 f ([1].map pt) (hp0 [[], ems 0] 0 1) leafE = some tLex) : T1C P f 1 0 := fun w x l hl hx => by
  match l, hl with
  | [a], _ =>
    have hb := cells_flat hx (by simp)
    have := test_of (b := btab 0 [a]) hm hnum hq hp (js := [1]) (exts := [ems 0]) h (by decide +kernel) rfl rfl (w := w) (fsOf [a]) (fun j => if j = 0 then ⟨x.block, 0, none⟩ else x) hb rfl rfl
      (fun j hj => by cases List.mem_singleton.1 hj; exact hx.1)
      (fun j c hj => by
        match j, hj with
        | 0, hj => cases hj; have h2 : CellsAt w x (emV a) := (by simpa [flatV] using hx); exact ⟨hb, h2⟩
        | j + 1, hj => simp at hj)
      (fun e he => lex_goal (he 0 (by omega)))
    exact this
def LarC (P : Program) (f : FuncId) : Prop := ∀ (a : Fq) (w : World), QuietRun P (callFunc f #[elsV [a]]) (.bool (btab 0 [a])) w
def tLar : Tree Lf := .br (.fz 0) (.leaf (.one (.at (.bool (.c false))), [])) <|
  .dn (.sb 0 0 (.c 4332616871279656263) (.ep 0 0) (.c 0)) <| .dn (.sb 1 1 (.c 10917124144477883021) (.ep 0 1) (.b 0)) <| .dn (.sb 2 2 (.c 13281191951274694749) (.ep 0 2) (.b 1)) <| .dn (.sb 3 3 (.c 3486998266802970665) (.ep 0 3) (.b 2)) <|
  .dn (.sb 4 4 (.v 0) (.ep 0 0) (.c 0)) <| .dn (.sb 5 5 (.v 1) (.ep 0 1) (.b 4)) <| .dn (.sb 6 6 (.v 2) (.ep 0 2) (.b 5)) <| .dn (.sb 7 7 (.v 3) (.ep 0 3) (.b 6)) <| .leaf (.one (.at (.bool (.v 7))), [])
theorem lar_goal {e : Env} {a : Fq} (h0 : e.f 0 = a) : tLar.goal e fun l => (∀ β, l.1.den β e = .bool (btab 0 [a])) ∧ l.2 = [] := by
  refine ⟨fun g => ⟨fun β => ?_, rfl⟩, fun g d0 d1 d2 d3 d4 d5 d6 d7 => ⟨fun β => ?_, rfl⟩⟩
  · have g : a = 0 := h0.symm.trans (fz_t g)
    subst g
    show Value.bool false = .bool (decide (q < 2 * (0 : Fq).val))
    rw [decide_eq_false (by decide)]
  · have hc : (cw4 4332616871279656263 10917124144477883021 13281191951274694749 3486998266802970665).ok e := ⟨by show (0:Int) ≤ 4332616871279656263 ∧ (4332616871279656263:Int) < 18446744073709551616; decide, by show (0:Int) ≤ 10917124144477883021 ∧ (10917124144477883021:Int) < 18446744073709551616; decide, by show (0:Int) ≤ 13281191951274694749 ∧ (13281191951274694749:Int) < 18446744073709551616; decide, by show (0:Int) ≤ 3486998266802970665 ∧ (3486998266802970665:Int) < 18446744073709551616; decide⟩
    have hv : (cw4 4332616871279656263 10917124144477883021 13281191951274694749 3486998266802970665).val e = 21888242871839275222246405745257275088696311157297823662689037894645226208583 := by
      show v4 4332616871279656263 10917124144477883021 13281191951274694749 3486998266802970665 = _
      decide
    obtain ⟨k1, ⟨w0, w1, w2, w3⟩, k3⟩ := sb4 (e := e) (n := 0) (m := 0) (a := cw4 4332616871279656263 10917124144477883021 13281191951274694749 3486998266802970665) (b := pw4 0) hc (pw4_ok e 0) d0 d1 d2 d3
    obtain ⟨_, _, k6⟩ := sb4 (e := e) (n := 4) (m := 4) (a := ⟨.v 0, .v 1, .v 2, .v 3⟩) (b := pw4 0) ⟨w0, w1, w2, w3⟩ (pw4_ok e 0) d4 d5 d6 d7
    rw [hv, pw4_val, h0] at k1 k3
    rw [pw4_val, h0] at k6
    have ha := a.isLt
    have hb3 : e.b 3 = false := k3.trans (decide_eq_false (by unfold q at ha; omega))
    have hb3 : e.b (0 + 3) = false := hb3
    rw [hb3] at k1
    simp only [bi, Bool.false_eq_true, if_false] at k1
    show Value.bool (e.b 7) = .bool (decide (q < 2 * a.val))
    congr 1
    refine k6.trans ?_
    rw [decide_eq_decide]
    show v4 (e.i 0) (e.i 1) (e.i 2) (e.i 3) < ((a.val : Nat) : Int) ↔ q < 2 * a.val
    have k1 : v4 (e.i 0) (e.i 1) (e.i 2) (e.i 3) + 115792089237316195423570985008687907853269984665640564039457584007913129639936 * (1 - 0) = 21888242871839275222246405745257275088696311157297823662689037894645226208583 - ((a.val : Nat) : Int) + 115792089237316195423570985008687907853269984665640564039457584007913129639936 := k1
    unfold q
    constructor <;> intro h <;> omega
theorem larC_of {P : Program} {qf pf : QSum} (hm : P.follows .mixedOrders = true) (hnum : NumOk P) (hq : QOk P qf) (hp : POk P pf) {f : FuncId} (h : sxCall P qf pf 5000 f [.one (.agg (eps 0))] (hp0 [] 0 1) leafE = some tLar) : LarC P f := fun a w => by
  have key := quiet_els (fs := fsOf [a]) (u := .bool (btab 0 [a])) hm hnum hq hp h (by decide +kernel) rfl rfl (fun e he => lar_goal (he 0 (by omega))) (vs := [elsV [a]]) rfl w
  exact key
def larB : List (List Nat) → Option BE
  | [[i]] => some (.fn 0 [i])
  | _ => none
theorem larF_q {P : Program} {fn : FuncId} (hc : LarC P fn) : QOk P (tsF fn larB) := tsF_q fun is b h e w => by
  unfold larB at h
  split at h
  · rename_i i
    cases h
    exact hc (e.f i) w
  · cases h
end Go.Sx
