import Derived.Test.YtolmolkcjoibiaaGreatDoorNzG
/- Aids to the claim: what is shown here is said at each theorem. -/
namespace Go.Sx.Z
open Go Go.Proofs Go.Sx
set_option maxRecDepth 100000
theorem hJac : sxCall P noF pt2 5000 35 [.one (.agg (ems 0 ++ (ems 1 ++ (ems 2 ++ ems 3))))] (hp0 [] 0 4) leafE = some tJac2 := by kernel_rfl
theorem cJac : Jac2C P 35 := jac2C_of mixed num (noF_q P) pt2_ok hJac
abbrev qj : QSum := orF (jac2F 35) qm
theorem qj_ok : QOk P qj := orF_q (jac2F_q cJac) qm_ok
theorem hDblJ : sxCall P qj pt2 5000 20 pp1 (hp0 [] 0 4) leafE = some tDblJ2 := by kernel_rfl
theorem cDblJ : P1C2 P 20 true fun p => add2 p p := p2_of mixed num qj_ok pt2_ok hDblJ (by decide +kernel) fun _ _ h0 h1 => dblJ2_goal h0 h1
theorem hAddJ : sxCall P qj pt2 5000 17 pp2 (hp0 [] 0 8) leafE = some tAddJ2 := by kernel_rfl
theorem cAddJ : PP2C P 17 true add2 := pp2_of mixed num qj_ok pt2_ok hAddJ (by decide +kernel) fun _ _ _ h0 h1 h2 h3 => addJ2_goal h0 h1 h2 h3
theorem hSubJ : sxCall P qj pt2 5000 18 pp2 (hp0 [] 0 8) leafE = some tSubJ2 := by kernel_rfl
theorem cSubJ : PP2C P 18 true fun p r => add2 p (neg2 r) := pp2_of mixed num qj_ok pt2_ok hSubJ (by decide +kernel) fun _ _ _ h0 h1 h2 h3 => subJ2_goal h0 h1 h2 h3
theorem hMix : sxCall P qj pt2 5000 19 pp2 (hp0 [] 0 8) leafE = some tMix2 := by kernel_rfl
theorem cMix : PP2C P 19 true add2 := pp2_of mixed num qj_ok pt2_ok hMix (by decide +kernel) fun _ _ _ h0 h1 h2 h3 => mix2_goal h0 h1 h2 h3
abbrev q8 : QSum := orF (elG true 17 mkAdd2) (orF (elG true 18 mkSub2) (orF (elG true 19 mkAdd2) (orF (elG true 20 mkDbl2) q7)))
theorem q8_ok : QOk P q8 := orF_q (add2_q cAddJ) (orF_q (sub2_q cSubJ) (orF_q (add2_q cMix) (orF_q (dbl2_q cDblJ) q7_ok)))
end Go.Sx.Z
