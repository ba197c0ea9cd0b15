import Derived.Test.YtolmolkcjoibiaaDoorElq
import Derived.Test.YtolmolkcjoibiaaDoorOrd2
/- Aids to the claim: what is shown here is said at each theorem. -/
namespace Go.Sx
open Go
set_option maxRecDepth 100000
/-! ### half -/
theorem half_words {a0 a1 a2 a3 h0 l0 o0 h1 l1 o1 h2 l2 o2 o3 : Int} (w0 : Wd a0) (w1 : Wd a1) (w2 : Wd a2) (w3 : Wd a3)
    (e1 : h0 = shI .shr .u64 a0 1) (e2 : l0 = shI .shl .u64 a1 63) (e3 : o0 = arI .add .u64 h0 l0) (e4 : h1 = shI .shr .u64 a1 1) (e5 : l1 = shI .shl .u64 a2 63) (e6 : o1 = arI .add .u64 h1 l1)
    (e7 : h2 = shI .shr .u64 a2 1) (e8 : l2 = shI .shl .u64 a3 63) (e9 : o2 = arI .add .u64 h2 l2) (e10 : o3 = shI .shr .u64 a3 1) :
    v4 o0 o1 o2 o3 = v4 a0 a1 a2 a3 / 2 ∧ Wd o0 ∧ Wd o1 ∧ Wd o2 ∧ Wd o3 := by
  have sl : ∀ x : Int, shI .shl .u64 x 63 = x * 9223372036854775808 % 18446744073709551616 := fun x => by
    simp only [shI, bits_u64]
    rw [wrap_u64]
    rfl
  rw [shr_ev 1 (by omega)] at e1 e4 e7 e10
  rw [sl] at e2 e5 e8
  rw [add_ev] at e3 e6 e9
  unfold Wd v4 at *
  simp only [Int.pow_one, Int.reducePow] at *
  omega
def halfD (n : Nat) (a : W4) : List Dn :=
  [.i n (.sh .shr .u64 a.a 1), .i (n + 1) (.sh .shl .u64 a.b 63), .i (n + 2) (.ar .add .u64 (.v n) (.v (n + 1))), .i (n + 3) (.sh .shr .u64 a.b 1), .i (n + 4) (.sh .shl .u64 a.c 63), .i (n + 5) (.ar .add .u64 (.v (n + 3)) (.v (n + 4))),
   .i (n + 6) (.sh .shr .u64 a.c 1), .i (n + 7) (.sh .shl .u64 a.d 63), .i (n + 8) (.ar .add .u64 (.v (n + 6)) (.v (n + 7))), .i (n + 9) (.sh .shr .u64 a.d 1)]
def halfO (n : Nat) : List Atom := [.int .u64 (.v (n + 2)), .int .u64 (.v (n + 5)), .int .u64 (.v (n + 8)), .int .u64 (.v (n + 9))]
theorem halfD_val {e : Env} {n : Nat} {a : W4} (oa : a.ok e) (h : ∀ d ∈ halfD n a, d.holds e) :
    v4 (e.i (n + 2)) (e.i (n + 5)) (e.i (n + 8)) (e.i (n + 9)) = a.val e / 2 ∧ Wd (e.i (n + 2)) ∧ Wd (e.i (n + 5)) ∧ Wd (e.i (n + 8)) ∧ Wd (e.i (n + 9)) := by
  refine half_words oa.1 oa.2.1 oa.2.2.1 oa.2.2.2 (h0 := e.i n) (l0 := e.i (n + 1)) (h1 := e.i (n + 3)) (l1 := e.i (n + 4)) (h2 := e.i (n + 6)) (l2 := e.i (n + 7)) ?_ ?_ ?_ ?_ ?_ ?_ ?_ ?_ ?_ ?_
  · exact h (.i n (.sh .shr .u64 a.a 1)) (by simp [halfD])
  · exact h (.i (n + 1) (.sh .shl .u64 a.b 63)) (by simp [halfD])
  · exact h (.i (n + 2) (.ar .add .u64 (.v n) (.v (n + 1)))) (by simp [halfD])
  · exact h (.i (n + 3) (.sh .shr .u64 a.b 1)) (by simp [halfD])
  · exact h (.i (n + 4) (.sh .shl .u64 a.c 63)) (by simp [halfD])
  · exact h (.i (n + 5) (.ar .add .u64 (.v (n + 3)) (.v (n + 4)))) (by simp [halfD])
  · exact h (.i (n + 6) (.sh .shr .u64 a.c 1)) (by simp [halfD])
  · exact h (.i (n + 7) (.sh .shl .u64 a.d 63)) (by simp [halfD])
  · exact h (.i (n + 8) (.ar .add .u64 (.v (n + 6)) (.v (n + 7)))) (by simp [halfD])
  · exact h (.i (n + 9) (.sh .shr .u64 a.d 1)) (by simp [halfD])
def HalfC (P : Program) (f : FuncId) : Prop := ∀ (x : Nat), x < RR → ∀ w, QuietRun P (callFunc f #[agN x]) (agN (x / 2)) w
def tHalf : Tree Lf := dnT (halfD 4 (vW 0)) (.leaf (.one (.agg (halfO 4)), []))
theorem halfO_den {e : Env} {β : Nat → Nat} {n N : Nat} (hw : Wd (e.i (n + 2)) ∧ Wd (e.i (n + 5)) ∧ Wd (e.i (n + 8)) ∧ Wd (e.i (n + 9))) (h : v4 (e.i (n + 2)) (e.i (n + 5)) (e.i (n + 8)) (e.i (n + 9)) = N) :
    (SV.one (.agg (halfO n))).den β e = agN N := by
  obtain ⟨h1, h2, h3, h4⟩ := w4_of hw.1 hw.2.1 hw.2.2.1 hw.2.2.2 h
  show Value.agg #[.int .u64 (e.i (n + 2)), .int .u64 (e.i (n + 5)), .int .u64 (e.i (n + 8)), .int .u64 (e.i (n + 9))] = _
  rw [h1, h2, h3, h4]
  rfl
section
variable {P : Program} {qf pf : QSum}
theorem halfC_of (hm : P.follows .mixedOrders = true) (hnum : NumOk P) (hq : QOk P qf) (hp : POk P pf) {f : FuncId} (h : sxCall P qf pf 5000 f ([0].map ag) (hp0 [] 4 0) leafE = some tHalf) : HalfC P f := fun x hx w => by
  let e : Env := { i := valsL (numL x), b := fun _ => false, f := fun _ => 0, ext := fun _ => ⟨0, 0, none⟩ }
  have hag : ∀ e', AgreeE 4 0 0 e e' → Words e' 4 ∧ ∀ k, k < 4 → e'.i k = valsL (numL x) k := fun e' ha =>
    ⟨fun k hk => by rw [ha.i k hk]; exact valsL_wd numL_wd k, fun k hk => ha.i k hk⟩
  have hargs : ∀ e', AgreeE 4 0 0 e e' → ([0].map ag).map (SV.den (fun _ => 0) e') = [agN x] := fun e' ha => by
    obtain ⟨_, g2⟩ := hag e' ha
    simp only [List.map_cons, List.map_nil, ag, SV.den, SV1.den, ws_den]
    rw [g2 0 (by omega), g2 (0 + 1) (by omega), g2 (0 + 2) (by omega), g2 (0 + 3) (by omega)]
    rfl
  have := quiet_of_tree (e := e) (β := fun _ => 0) hm hnum hq hp h (show tHalf.bd 4 0 0 = true by decide) rfl
    (fun w e' ha => hp0_rel (fun j c hj => by simp at hj) (fun c hc => by simp at hc) (fun j c c0 _ hj => by simp at hj))
    (fun e' ha s hs => by
      obtain ⟨g1, _⟩ := hag e' ha
      simp only [List.map_cons, List.map_nil, List.mem_singleton] at hs
      subst hs
      intro a ha'
      simp only [ws, List.mem_cons, List.not_mem_nil, or_false] at ha'
      rcases ha' with rfl | rfl | rfl | rfl
      · exact wd_inR (g1 0 (by omega))
      · exact wd_inR (g1 1 (by omega))
      · exact wd_inR (g1 2 (by omega))
      · exact wd_inR (g1 3 (by omega)))
    (fun e' ha => by rw [hargs e' ha, hargs e (AgreeE.refl _ _ _ _)])
    (u := agN (x / 2))
    (fun e' ha => by
      obtain ⟨g1, g2⟩ := hag e' ha
      refine dnT_goal (halfD 4 (vW 0)) fun hd => ?_
      have oa : (vW 0).ok e' := ⟨g1 0 (by omega), g1 1 (by omega), g1 2 (by omega), g1 3 (by omega)⟩
      obtain ⟨hv, hw⟩ := halfD_val oa hd
      have hx' : (vW 0).val e' = x := by
        show v4 (e'.i 0) (e'.i 1) (e'.i 2) (e'.i 3) = x
        rw [g2 0 (by omega), g2 1 (by omega), g2 2 (by omega), g2 3 (by omega)]
        exact v4_w4 hx
      rw [hx'] at hv
      exact ⟨fun β => halfO_den hw (by rw [hv]; rfl), rfl⟩) w
  rw [hargs e (AgreeE.refl _ _ _ _)] at this
  exact this
end
def halfF (fn : FuncId) : QSum := fun f args h =>
  bif Nat.beq f fn then match args with
    | [.one (.agg la)] => match toW4 la with
      | some a => some (halfD h.ni a, .one (.agg (halfO h.ni)), { h with ni := h.ni + 10 })
      | none => none
    | _ => none
  else none
theorem halfF_q {P : Program} {fn : FuncId} (hc : HalfC P fn) : QOk P (halfF fn) := by
  intro f args h ds v h' hh
  unfold halfF at hh
  cases hb : Nat.beq f fn with
  | false => rw [hb] at hh; cases hh
  | true =>
    rw [hb] at hh
    have hf := Nat.eq_of_beq_eq_true hb
    subst hf
    simp only [cond_true] at hh
    split at hh
    · rename_i la
      split at hh
      · rename_i a ha
        cases hh
        refine ⟨⟨rfl, rfl, rfl, rfl, rfl⟩, fun e β _ hok hds => ?_⟩
        have oa : a.ok e := W4.ok_of ha (hok (.one (.agg la)) (by simp))
        obtain ⟨x, hx, hxv, hxw⟩ := W4.num oa
        obtain ⟨hv, hw⟩ := halfD_val oa hds
        rw [hxv] at hv
        refine ⟨fun s hs => ?_, fun w0 w _ => ?_⟩
        · simp only [halfO, List.mem_cons, List.not_mem_nil, or_false] at hs
          rcases hs with rfl | rfl | rfl | rfl
          · exact wd_inR hw.1
          · exact wd_inR hw.2.1
          · exact wd_inR hw.2.2.1
          · exact wd_inR hw.2.2.2
        · simp only [List.map_cons, List.map_nil]
          rw [W4.agg_den ha, hxw, halfO_den hw (N := x / 2) (by rw [hv]; rfl)]
          exact hc x hx w
      · cases hh
    · cases hh

/-! ### halved -/
def HALF : Nat := 10944121435919637611123202872628637544348155578648911831344518947322613104292
theorem half_two : F HALF * 2 = 1 := by decide +kernel
def HalvedC (P : Program) (f : FuncId) : Prop := ∀ (a : Fq) (w : World), QuietRun P (callFunc f #[agN a.val, agN q]) (agN (a * F HALF).val) w
theorem halved_val {a : Fq} {N : Nat} (hN : N < q) (h : 2 * N = a.val ∨ 2 * N = a.val + q) : N = (a * F HALF).val := by
  have h2 : F (2 * N) = a := by
    rcases h with h | h
    · rw [h, F_val]
    · rw [h, F_add, F_val]
      have : F q = 0 := by decide +kernel
      rw [this]
      grind
  have h3 : F N = a * F HALF := by
    rw [F_mul] at h2
    have h5 : (2 : Fq) * F N = a := h2
    have h6 := half_two
    generalize F N = x at *
    generalize F HALF = y at *
    rw [← h5]
    have h7 : 2 * x * y = x * (y * 2) := by grind
    rw [h7, h6]
    grind
  rw [← h3]
  exact (Nat.mod_eq_of_lt hN).symm
def tHalved : Tree Lf :=
  .dn (.i 4 (.dv .rem .u64 (.v 0) 2)) (.br (.eq (.v 4) (.c 1))
    (adT 5 0 (vW 0) qW4 (dnT (halfD 9 (vW 5)) (.br (.v 3) (.dn (.i 19 (.ar .add .u64 (.v 18) (.c 9223372036854775808))) (.leaf (.one (.agg [.int .u64 (.v 11), .int .u64 (.v 14), .int .u64 (.v 17), .int .u64 (.v 19)]), []))) (.leaf (.one (.agg (halfO 9)), [])))))
    (dnT (halfD 5 (vW 0)) (.leaf (.one (.agg (halfO 5)), []))))
theorem halved_law {e : Env} {a : Fq} (hW : Words e 4) (hX : v4 (e.i 0) (e.i 1) (e.i 2) (e.i 3) = a.val) : tHalved.goal e fun l => (∀ β, l.1.den β e = agN (a * F HALF).val) ∧ l.2 = [] := by
  intro h4
  have h4 : e.i 4 = dvI .rem .u64 (e.i 0) 2 := h4
  have oa : (vW 0).ok e := ⟨hW 0 (by omega), hW 1 (by omega), hW 2 (by omega), hW 3 (by omega)⟩
  rw [rem2_ev (show 0 ≤ e.i 0 from oa.1.1)] at h4
  have hx : (vW 0).val e = a.val := hX
  have hpar : e.i 4 = (a.val : Int) % 2 := by
    rw [h4, ← hX]
    unfold v4
    show (e.i 0) % 2 = _
    omega
  have hlt := a.isLt
  refine ⟨fun hb => ?_, fun hb => ?_⟩
  · have hb : e.i 4 = 1 := by simpa [BE.den, IE.den] using hb
    intro s1 s2 s3 s4
    obtain ⟨g1, g2, g3⟩ := ad4 oa (qW4_ok e) s1 s2 s3 s4
    simp only [Nat.reduceAdd] at g1 g2 g3
    rw [hx, qW4_val] at g1 g3
    have hc : e.b 3 = false := by rw [g3]; exact decide_eq_false (by unfold q at hlt; omega)
    rw [hc] at g1
    simp only [bi, Bool.false_eq_true, if_false, Int.mul_zero, Int.add_zero] at g1
    refine dnT_goal (halfD 9 (vW 5)) fun hd => ?_
    obtain ⟨hv, hw⟩ := halfD_val (a := vW 5) g2 hd
    have hv5 : (vW 5).val e = a.val + 21888242871839275222246405745257275088696311157297823662689037894645226208583 := g1
    rw [hv5] at hv
    refine ⟨fun hb3 => ?_, fun _ => ?_⟩
    · have : e.b 3 = true := hb3
      rw [hc] at this
      cases this
    · have hN : (a.val + q) / 2 = (a * F HALF).val := halved_val (by unfold q at *; omega) (.inr (by unfold q at *; omega))
      refine ⟨fun β => halfO_den hw (by rw [← hN, hv]; rfl), rfl⟩
  · have hb : ¬ e.i 4 = 1 := by simpa [BE.den, IE.den] using hb
    refine dnT_goal (halfD 5 (vW 0)) fun hd => ?_
    obtain ⟨hv, hw⟩ := halfD_val (a := vW 0) oa hd
    rw [hx] at hv
    have hN : a.val / 2 = (a * F HALF).val := halved_val (by omega) (.inl (by omega))
    exact ⟨fun β => halfO_den hw (by rw [← hN, hv]; rfl), rfl⟩
section
variable {P : Program} {qf pf : QSum}
theorem halvedC_of (hm : P.follows .mixedOrders = true) (hnum : NumOk P) (hq : QOk P qf) (hp : POk P pf) {f : FuncId} (h : sxCall P qf pf 5000 f [ag 0, qArg] (hp0 [] 4 0) leafE = some tHalved) : HalvedC P f := fun a w => by
  let e : Env := { i := valsL (numL a.val), b := fun _ => false, f := fun _ => 0, ext := fun _ => ⟨0, 0, none⟩ }
  have hag : ∀ e', AgreeE 4 0 0 e e' → Words e' 4 ∧ ∀ k, k < 4 → e'.i k = valsL (numL a.val) k := fun e' ha =>
    ⟨fun k hk => by rw [ha.i k hk]; exact valsL_wd numL_wd k, fun k hk => ha.i k hk⟩
  have hargs : ∀ e', AgreeE 4 0 0 e e' → [ag 0, qArg].map (SV.den (fun _ => 0) e') = [agN a.val, agN q] := fun e' ha => by
    obtain ⟨_, g2⟩ := hag e' ha
    simp only [List.map_cons, List.map_nil, ag, SV.den, SV1.den, ws_den]
    rw [g2 0 (by omega), g2 (0 + 1) (by omega), g2 (0 + 2) (by omega), g2 (0 + 3) (by omega)]
    rfl
  have := quiet_of_tree (e := e) (β := fun _ => 0) hm hnum hq hp h (show tHalved.bd 4 0 0 = true by decide) rfl
    (fun w e' ha => hp0_rel (fun j c hj => by simp at hj) (fun c hc => by simp at hc) (fun j c c0 _ hj => by simp at hj))
    (fun e' ha s hs => by
      obtain ⟨g1, _⟩ := hag e' ha
      simp only [List.mem_cons, List.not_mem_nil, or_false] at hs
      rcases hs with rfl | rfl
      · intro x hx
        simp only [ws, List.mem_cons, List.not_mem_nil, or_false] at hx
        rcases hx with rfl | rfl | rfl | rfl
        · exact wd_inR (g1 0 (by omega))
        · exact wd_inR (g1 1 (by omega))
        · exact wd_inR (g1 2 (by omega))
        · exact wd_inR (g1 3 (by omega))
      · intro x hx
        have := qW4_ok e'
        simp only [qW, List.mem_cons, List.not_mem_nil, or_false] at hx
        rcases hx with rfl | rfl | rfl | rfl
        · exact wd_inR this.1
        · exact wd_inR this.2.1
        · exact wd_inR this.2.2.1
        · exact wd_inR this.2.2.2)
    (fun e' ha => by rw [hargs e' ha, hargs e (AgreeE.refl _ _ _ _)])
    (u := agN (a * F HALF).val)
    (fun e' ha => by
      obtain ⟨g1, g2⟩ := hag e' ha
      exact halved_law g1 (by rw [g2 0 (by omega), g2 1 (by omega), g2 2 (by omega), g2 3 (by omega)]; exact v4_w4 (val_RR a))) w
  rw [hargs e (AgreeE.refl _ _ _ _)] at this
  exact this
end
def hvF (fn : FuncId) : QSum := fun f args h =>
  bif Nat.beq f fn then match args with
    | [a, .one (.agg lc)] => match toW4 lc with
      | some c => match c.c? with
        | some n => bif decide (n = 21888242871839275222246405745257275088696311157297823662689037894645226208583) then match argEls h [a] with
            | some (ds, [[i]], h1) => some (ds ++ [.f h1.nf (.k HALF), .f (h1.nf + 1) (.mul i h1.nf)], .one (.agg (eps (h1.nf + 1))), { h1 with nf := h1.nf + 2 })
            | _ => none
          else none
        | none => none
      | none => none
    | _ => none
  else none
theorem hvF_q {P : Program} {fn : FuncId} (hc : HalvedC P fn) : QOk P (hvF fn) := by
  intro f args h ds v h' hh
  unfold hvF at hh
  cases hb : Nat.beq f fn with
  | false => rw [hb] at hh; cases hh
  | true =>
    rw [hb] at hh
    have hf := Nat.eq_of_beq_eq_true hb
    subst hf
    simp only [cond_true] at hh
    split at hh
    · rename_i a lc
      split at hh
      · rename_i c hlc
        split at hh
        · rename_i n hn
          cases hq : decide (n = 21888242871839275222246405745257275088696311157297823662689037894645226208583) with
          | false => rw [hq] at hh; cases hh
          | true =>
            rw [hq] at hh
            have hq := of_decide_eq_true hq
            simp only [cond_true] at hh
            split at hh
            · rename_i ds' i h1 ha
              cases hh
              obtain ⟨m1, _⟩ := argEls_sound (e := elEnv fun _ => 0) (β := fun _ => 0) (n := 0) ha
              refine ⟨m1.trans (SameMem.nf _ _), fun e β hf hok hds => ?_⟩
              obtain ⟨_, s1⟩ := argEls_sound (e := e) (β := β) (n := h.cnt) ha
              have hargs := s1 hf (fun s hs => hok s (by
                simp only [List.mem_cons, List.not_mem_nil, or_false] at hs
                subst hs; simp)) fun d hd => hds d (by simp [hd])
              have hk : e.f h1.nf = F HALF := hds (.f h1.nf (.k HALF)) (by simp)
              have hnew : e.f (h1.nf + 1) = e.f i * e.f h1.nf := hds (.f (h1.nf + 1) (.mul i h1.nf)) (by simp)
              rw [hk] at hnew
              refine ⟨eps_ok _ _ _, fun w0 w _ => ?_⟩
              simp only [List.map_cons, List.map_nil, List.cons.injEq, and_true] at hargs
              have oc : c.ok e := W4.ok_of hlc (hok (.one (.agg lc)) (by simp))
              have ic : c.is e q := W4.is_of oc (by rw [W4.c?_spec hn e, hq]; rfl)
              simp only [List.map_cons, List.map_nil]
              rw [hargs, W4.agg_den hlc, is_words ic]
              have hv : (SV.one (.agg (eps (h1.nf + 1)))).den β e = agN (e.f i * F HALF).val := by
                rw [← hnew]; rfl
              rw [hv]
              have := hc (e.f i) w
              simpa [elsV] using this
            · cases hh
        · cases hh
      · cases hh
    · cases hh
end Go.Sx
