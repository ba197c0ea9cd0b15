import Derived.Test.YtolmolkcjoibiaaDoorInv
import Derived.Test.YtolmolkcjoibiaaDoorLw1
/- Aids to the claim: what is shown here is said at each theorem. -/
namespace Go.Sx
open Go
set_option maxRecDepth 100000
/-! ### The inverse of the reference: a table -/
def invF (fn : FuncId) : QSum := fun f args h =>
  bif Nat.beq f fn then match args with
    | [a, .one (.agg lc)] => match toW4 lc with
      | some c => match c.c? with
        | some n => bif decide (n = 21888242871839275222246405745257275088696311157297823662689037894645226208583) then match argEls h [a] with
            | some (ds, [[i]], h1) => some (ds ++ [.f h1.nf (.fn 0 [i])], .one (.agg (eps h1.nf)), { h1 with nf := h1.nf + 1 })
            | _ => none
          else none
        | none => none
      | none => none
    | _ => none
  else none
theorem invF_q {P : Program} {fn : FuncId} (hc : InvC P fn) : QOk P (invF fn) := by
  intro f args h ds v h' hh
  unfold invF at hh
  cases hb : Nat.beq f fn with
  | false => rw [hb] at hh; cases hh
  | true =>
    rw [hb] at hh
    have hf := Nat.eq_of_beq_eq_true hb
    subst hf
    simp only [cond_true] at hh
    split at hh
    · rename_i a lc
      split at hh
      · rename_i c hlc
        split at hh
        · rename_i n hn
          cases hq : decide (n = 21888242871839275222246405745257275088696311157297823662689037894645226208583) with
          | false => rw [hq] at hh; cases hh
          | true =>
            rw [hq] at hh
            have hq := of_decide_eq_true hq
            simp only [cond_true] at hh
            split at hh
            · rename_i ds' i h1 ha
              cases hh
              obtain ⟨m1, _⟩ := argEls_sound (e := elEnv fun _ => 0) (β := fun _ => 0) (n := 0) ha
              refine ⟨m1.trans (SameMem.nf _ _), fun e β hf hok hds => ?_⟩
              obtain ⟨_, s1⟩ := argEls_sound (e := e) (β := β) (n := h.cnt) ha
              have hargs := s1 hf (fun s hs => hok s (by
                simp only [List.mem_cons, List.not_mem_nil, or_false] at hs
                subst hs; simp)) fun d hd => hds d (by simp [hd])
              have hnew : e.f h1.nf = finv (e.f i) := hds (.f h1.nf (.fn 0 [i])) (by simp)
              refine ⟨eps_ok _ _ _, fun w0 w _ => ?_⟩
              simp only [List.map_cons, List.map_nil, List.cons.injEq, and_true] at hargs
              have oc : c.ok e := W4.ok_of hlc (hok (.one (.agg lc)) (by simp))
              have ic : c.is e q := W4.is_of oc (by rw [W4.c?_spec hn e, hq]; rfl)
              simp only [List.map_cons, List.map_nil]
              rw [hargs, W4.agg_den hlc, is_words ic]
              have hv : (SV.one (.agg (eps h1.nf))).den β e = agN (finv (e.f i)).val := by
                rw [← hnew]; rfl
              rw [hv]
              have := hc (e.f i) w
              simpa [elsV] using this
            · cases hh
        · cases hh
      · cases hh
    · cases hh
end Go.Sx
