import Derived.Test.YtolmolkcjoibiaaDoorSr
/- Aids to the claim: what is shown here is said at each theorem. -/
namespace Go.Sx
open Go
set_option maxRecDepth 100000
/-! ### impl.jac1: a quiet function of words in Montgomery's form -/
def jx (x y : Fq) : Fq := if x = 0 ∧ y = 0 then 1 else x
def jy (x y : Fq) : Fq := if x = 0 ∧ y = 0 then 1 else y
def jz (x y : Fq) : Fq := if x = 0 ∧ y = 0 then 0 else 1
def JacC (P : Program) (f : FuncId) : Prop := ∀ (x y : Fq) (w : World), QuietRun P (callFunc f #[.agg (emV x ++ emV y).toArray]) (.agg (emV (jx x y) ++ (emV (jy x y) ++ emV (jz x y))).toArray) w
def oneC : List Atom := [.int .u64 (.c 15230403791020821917), .int .u64 (.c 754611498739239741), .int .u64 (.c 7381016538464732716), .int .u64 (.c 1011752739694698287)]
def nulC : List Atom := List.replicate 4 (.int .u64 (.c 0))
def jL1 : Tree Lf := .leaf (.one (.agg (ems 0 ++ (ems 1 ++ oneC))), [])
def jL0 : Tree Lf := .leaf (.one (.agg (oneC ++ (oneC ++ nulC))), [])
def tJac1 : Tree Lf := .br (.fz 0) (.br (.fz 1) jL0 jL1) jL1
theorem oneC_den {β : Nat → Nat} {e : Env} : oneC.map (Atom.den β e) = emV 1 := by
  show [Value.int .u64 15230403791020821917, .int .u64 754611498739239741, .int .u64 7381016538464732716, .int .u64 1011752739694698287] = numV (mont 1)
  rw [mont_one]
  rfl
theorem nulC_den {β : Nat → Nat} {e : Env} : nulC.map (Atom.den β e) = emV 0 := by
  have : mont 0 = 0 := by decide
  show [Value.int .u64 0, .int .u64 0, .int .u64 0, .int .u64 0] = numV (mont 0)
  rw [this]
  rfl
theorem jac_goal {e : Env} {x y : Fq} (h0 : e.f 0 = x) (h1 : e.f 1 = y) : tJac1.goal e fun l => (∀ β, l.1.den β e = .agg (emV (jx x y) ++ (emV (jy x y) ++ emV (jz x y))).toArray) ∧ l.2 = [] := by
  have n : ¬ (x = 0 ∧ y = 0) → jL1.goal e fun l => (∀ β, l.1.den β e = .agg (emV (jx x y) ++ (emV (jy x y) ++ emV (jz x y))).toArray) ∧ l.2 = [] := fun hn => by
    refine ⟨fun β => ?_, rfl⟩
    simp only [SV.den, SV1.den, List.map_append, ems_den, oneC_den, h0, h1]
    rw [jx, jy, jz, if_neg hn, if_neg hn, if_neg hn]
  refine ⟨fun g => ⟨fun g2 => ?_, fun g2 => n fun h => fz_f g2 (h1.trans h.2)⟩, fun g => n fun h => fz_f g (h0.trans h.1)⟩
  refine ⟨fun β => ?_, rfl⟩
  have hz : x = 0 ∧ y = 0 := ⟨h0.symm.trans (fz_t g), h1.symm.trans (fz_t g2)⟩
  simp only [SV.den, SV1.den, List.map_append, oneC_den, nulC_den]
  rw [jx, jy, jz, if_pos hz, if_pos hz, if_pos hz]
theorem jacC_of {P : Program} {qf pf : QSum} (hm : P.follows .mixedOrders = true) (hnum : NumOk P) (hq : QOk P qf) (hp : POk P pf) {f : FuncId} (h : sxCall P qf pf 5000 f [.one (.agg (ems 0 ++ ems 1))] (hp0 [] 0 2) leafE = some tJac1) : JacC P f := fun x y w => by
  have key := quiet_els (fs := fsOf [x, y]) (u := .agg (emV (jx x y) ++ (emV (jy x y) ++ emV (jz x y))).toArray) hm hnum hq hp h (by decide +kernel) rfl rfl
    (fun e he => jac_goal (he 0 (by omega)) (he 1 (by omega))) (vs := [.agg (emV x ++ emV y).toArray]) rfl w
  exact key
def jacF (fn : FuncId) : QSum := fun f args h =>
  bif Nat.beq f fn then match args with
    | [.one (.agg [a, b, c, d, a', b', c', d'])] => match toW4 [a, b, c, d], toW4 [a', b', c', d'] with
      | some u, some v => match elOf h u with
        | some (d1, i, h1) => match elOf h1 v with
          | some (d2, j, h2) => some (d1 ++ (d2 ++ [.f h2.nf (.fn 8 [i, j]), .f (h2.nf + 1) (.fn 9 [i, j]), .f (h2.nf + 2) (.fn 10 [i, j])]), .one (.agg (ems h2.nf ++ (ems (h2.nf + 1) ++ ems (h2.nf + 2)))), { h2 with nf := h2.nf + 3 })
          | none => none
        | none => none
      | _, _ => none
    | _ => none
  else none
theorem jacF_q {P : Program} {fn : FuncId} (hc : JacC P fn) : QOk P (jacF fn) := by
  intro f args h ds v h' hh
  unfold jacF at hh
  cases hb : Nat.beq f fn with
  | false => rw [hb] at hh; cases hh
  | true =>
    rw [hb] at hh
    have hf := Nat.eq_of_beq_eq_true hb
    subst hf
    simp only [cond_true] at hh
    split at hh
    · rename_i a b c d a' b' c' d'
      split at hh
      · rename_i u v' hu hv
        split at hh
        · rename_i d1 i h1 he1
          split at hh
          · rename_i d2 j h2 he2
            cases hh
            obtain ⟨m1, s1⟩ := elOf_sound he1
            obtain ⟨m2, s2⟩ := elOf_sound he2
            refine ⟨(m1.trans m2).trans (SameMem.nf _ _), fun e β hf hok hds => ?_⟩
            have hall := hok (.one (.agg [a, b, c, d, a', b', c', d'])) (by simp)
            have ou : u.ok e := W4.ok_of hu fun x hx => hall x (by
              simp only [List.mem_cons, List.not_mem_nil, or_false] at hx ⊢
              rcases hx with rfl | rfl | rfl | rfl <;> simp)
            have ov : v'.ok e := W4.ok_of hv fun x hx => hall x (by
              simp only [List.mem_cons, List.not_mem_nil, or_false] at hx ⊢
              rcases hx with rfl | rfl | rfl | rfl <;> simp)
            have iu := s1 e hf ou (fun d hd => hds d (by simp [hd]))
            have iv := s2 e (by rw [m1.2.2.2.2]; exact hf) ov (fun d hd => hds d (by simp [hd]))
            have k0 : e.f h2.nf = jx (e.f i) (e.f j) := hds (.f h2.nf (.fn 8 [i, j])) (by simp)
            have k1 : e.f (h2.nf + 1) = jy (e.f i) (e.f j) := hds (.f (h2.nf + 1) (.fn 9 [i, j])) (by simp)
            have k2 : e.f (h2.nf + 2) = jz (e.f i) (e.f j) := hds (.f (h2.nf + 2) (.fn 10 [i, j])) (by simp)
            refine ⟨fun x hx => ?_, fun w0 w _ => ?_⟩
            · rcases List.mem_append.1 hx with hx | hx
              · exact ems_ok _ _ x hx
              · rcases List.mem_append.1 hx with hx | hx
                · exact ems_ok _ _ x hx
                · exact ems_ok _ _ x hx
            · have hv1 : (SV.one (.agg (ems h2.nf ++ (ems (h2.nf + 1) ++ ems (h2.nf + 2))))).den β e = .agg (emV (jx (e.f i) (e.f j)) ++ (emV (jy (e.f i) (e.f j)) ++ emV (jz (e.f i) (e.f j)))).toArray := by
                simp only [SV.den, SV1.den, List.map_append, ems_den, k0, k1, k2]
              have ha : ([SV.one (.agg [a, b, c, d, a', b', c', d'])].map (SV.den β e)).toArray = #[.agg (emV (e.f i) ++ emV (e.f j)).toArray] := by
                have e1 : [a, b, c, d].map (Atom.den β e) = emV (e.f i) := by rw [toW4_spec hu]; exact is_words iu
                have e2 : [a', b', c', d'].map (Atom.den β e) = emV (e.f j) := by rw [toW4_spec hv]; exact is_words iv
                rw [← e1, ← e2]
                rfl
              rw [hv1, ha]
              exact hc _ _ w
          · cases hh
        · cases hh
      · cases hh
    · cases hh
end Go.Sx
