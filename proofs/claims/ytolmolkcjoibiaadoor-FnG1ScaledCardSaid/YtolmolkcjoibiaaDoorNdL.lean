import Derived.Test.YtolmolkcjoibiaaDoorNdC
import Derived.Test.YtolmolkcjoibiaaDoorNdK
import Derived.Test.YtolmolkcjoibiaaDoorSr
/- Aids to the claim: what is shown here is said at each theorem. -/
namespace Go.Sx.D
open Go Go.Proofs Go.Sx
set_option maxRecDepth 100000
theorem fin0 : ∀ (e : Env) (i : Nat), (FD.fn 0 [i]).ev e = finv (e.f i) := fun _ _ => fn0
abbrev pg : QSum := orF (unF 130 fun i => .fn 0 [i]) (orF (bkF 139) pfp)
theorem pg_ok : POk P pg := orF_p (unF_p fin0 cInvU) (orF_p (bkF_p cBack) pfp_ok)
abbrev pp2 : List SV := [.one (.agg (eps 0 ++ eps 1)), .one (.agg (eps 2 ++ eps 3))]
abbrev pp1 : List SV := [.one (.agg (eps 0 ++ eps 1))]
theorem hAddS : sxCall P q3 noF 5000 25 pp2 (hp0 [] 0 4) leafE = some tAddS := by kernel_rfl
theorem cAddS : EE2C P 25 false add1 := pp_of mixed num q3_ok (noF_p P) hAddS (by decide +kernel) fun _ _ _ h0 h1 h2 h3 => addS_goal h0 h1 h2 h3
theorem hNegS : sxCall P q3 noF 5000 26 pp1 (hp0 [] 0 2) leafE = some tNegS := by kernel_rfl
theorem cNegS : E1C P 26 false neg1 := p_of mixed num q3_ok (noF_p P) hNegS (by decide +kernel) fun _ _ h0 h1 => negS_goal h0 h1
abbrev qm : QSum := maF 69
theorem qm_ok : QOk P qm := maF_q cMade
theorem hDblP : sxCall P qm pg 5000 23 pp1 (hp0 [] 0 2) leafE = some tDouble := by kernel_rfl
theorem cDblP : E1C P 23 true fun p => add1 p p := p_of mixed num qm_ok pg_ok hDblP (by decide +kernel) fun _ _ h0 h1 => double_goal h0 h1
theorem hNegP : sxCall P qm pg 5000 24 pp1 (hp0 [] 0 2) leafE = some tNegP := by kernel_rfl
theorem cNegP : E1C P 24 true neg1 := p_of mixed num qm_ok pg_ok hNegP (by decide +kernel) fun _ _ h0 h1 => negP_goal h0 h1
theorem hAddP : sxCall P qm pg 5000 33 pp2 (hp0 [] 0 4) leafE = some (tAddP true 4 3) := by kernel_rfl
theorem cAddP : EE2C P 33 true add1 := pp_of mixed num qm_ok pg_ok hAddP (by decide +kernel) fun _ _ _ h0 h1 h2 h3 => addP_goal h0 h1 h2 h3
theorem hSubP : sxCall P qm pg 5000 34 pp2 (hp0 [] 0 4) leafE = some tSubP := by kernel_rfl
theorem cSubP : EE2C P 34 true fun p r => add1 p (neg1 r) := pp_of mixed num qm_ok pg_ok hSubP (by decide +kernel) fun _ _ _ h0 h1 h2 h3 => subP_goal h0 h1 h2 h3
/-- The laws' table. -/
abbrev q7 : QSum := orF (elG false 25 mkAdd1) (orF (elG false 26 mkNeg1) (orF (elG true 23 mkDbl1) (orF (elG true 24 mkNeg1) (orF (elG true 33 mkAdd1) (orF (elG true 34 mkSub1) q2)))))
theorem q7_ok : QOk P q7 := orF_q (add1_q cAddS) (orF_q (neg1_q cNegS) (orF_q (dbl1_q cDblP) (orF_q (neg1_q cNegP) (orF_q (add1_q cAddP) (orF_q (sub1_q cSubP) q2_ok)))))
end Go.Sx.D
