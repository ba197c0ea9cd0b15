import Derived.Test.YtolmolkcjoibiaaDoorNdL
import Derived.Test.YtolmolkcjoibiaaDoorSt
/- Aids to the claim: what is shown here is said at each theorem. -/
namespace Go.Sx.D
open Go Go.Proofs Go.Sx
set_option maxRecDepth 100000
theorem hJac : sxCall P noF pg 5000 71 [.one (.agg (ems 0 ++ ems 1))] (hp0 [] 0 2) leafE = some tJac1 := by kernel_rfl
theorem cJac : JacC P 71 := jacC_of mixed num (noF_q P) pg_ok hJac
abbrev qj : QSum := orF (jacF 71) (maF 69)
theorem qj_ok : QOk P qj := orF_q (jacF_q cJac) (maF_q cMade)
theorem hDblJ : sxCall P qj pg 5000 41 pp1 (hp0 [] 0 2) leafE = some tDblJ := by kernel_rfl
theorem cDblJ : E1C P 41 true fun p => add1 p p := p_of mixed num qj_ok pg_ok hDblJ (by decide +kernel) fun _ _ h0 h1 => dblJ_goal h0 h1
theorem hAddJ : sxCall P qj pg 5000 38 pp2 (hp0 [] 0 4) leafE = some tAddJ := by kernel_rfl
theorem cAddJ : EE2C P 38 true add1 := pp_of mixed num qj_ok pg_ok hAddJ (by decide +kernel) fun _ _ _ h0 h1 h2 h3 => addJ_goal h0 h1 h2 h3
theorem hSubJ : sxCall P qj pg 5000 39 pp2 (hp0 [] 0 4) leafE = some tSubJ := by kernel_rfl
theorem cSubJ : EE2C P 39 true fun p r => add1 p (neg1 r) := pp_of mixed num qj_ok pg_ok hSubJ (by decide +kernel) fun _ _ _ h0 h1 h2 h3 => subJ_goal h0 h1 h2 h3
theorem hMix : sxCall P qj pg 5000 40 pp2 (hp0 [] 0 4) leafE = some tMix := by kernel_rfl
theorem cMix : EE2C P 40 true add1 := pp_of mixed num qj_ok pg_ok hMix (by decide +kernel) fun _ _ _ h0 h1 h2 h3 => mix_goal h0 h1 h2 h3
abbrev q8 : QSum := orF (elG true 38 mkAdd1) (orF (elG true 39 mkSub1) (orF (elG true 40 mkAdd1) (orF (elG true 41 mkDbl1) q7)))
theorem q8_ok : QOk P q8 := orF_q (add1_q cAddJ) (orF_q (sub1_q cSubJ) (orF_q (add1_q cMix) (orF_q (dbl1_q cDblJ) q7_ok)))
end Go.Sx.D
