import Derived.Test.YtolmolkcjoibiaaGreatDoorNzC
import Derived.Test.YtolmolkcjoibiaaGreatDoorNzK
import Derived.Test.YtolmolkcjoibiaaGreatDoorSv
/- Aids to the claim: what is shown here is said at each theorem. -/
namespace Go.Sx.Z
open Go Go.Proofs Go.Sx
set_option maxRecDepth 100000
theorem fin0 : ∀ (e : Env) (i : Nat), (FD.fn 0 [i]).ev e = finv (e.f i) := fun _ _ => fn0
abbrev pg : QSum := orF (unF 101 fun i => .fn 0 [i]) (orF (bkF 109) pfp)
theorem pg_ok : POk P pg := orF_p (unF_p fin0 cInvU) (orF_p (bkF_p cBack) pfp_ok)
theorem hZ2 : sxCall P noF pg 5000 67 ([1].map pt) (hp0 [[], ems 0 ++ ems 1] 0 2) leafE = some tZ2 := by kernel_rfl
theorem hI4 : sxCall P noF pg 5000 36 ([1].map pt) (hp0 [[], ems 0 ++ (ems 1 ++ (ems 2 ++ ems 3))] 0 4) leafE = some tI4 := by kernel_rfl
theorem hQ2 : sxCall P noF pg 5000 59 ([1, 2].map pt) (hp0 [[], ems 0 ++ ems 1, ems 2 ++ ems 3] 0 4) leafE = some tQ2 := by kernel_rfl
/-- With the tests of numbers of two parts. -/
abbrev pt2 : QSum := orF (t1F 67 2 4) (orF (t1F 36 4 3) (orF (t2F 59 2 5) pg))
theorem pt2_ok : POk P pt2 := orF_p (t1F_p (z2_of mixed num (noF_q P) pg_ok hZ2)) (orF_p (t1F_p (i4_of mixed num (noF_q P) pg_ok hI4)) (orF_p (t2F_p (q2_of mixed num (noF_q P) pg_ok hQ2)) pg_ok))
abbrev pp2 : List SV := [pArg 0, pArg 4]
abbrev pp1 : List SV := [pArg 0]
theorem hSubE : sxCall P q3 noF 5000 27 [.one (.agg (eps 0 ++ eps 1)), .one (.agg (eps 2 ++ eps 3))] (hp0 [] 0 4) leafE = some tSubE := by kernel_rfl
theorem cSubE : EE2C P 27 false F2.sub := subE_of mixed num q3_ok (noF_p P) hSubE
theorem hThree : sxCall P noF noF 5000 29 [.one (.at (.int .i64 (.c 3)))] (hp0 [] 0 0) leafE = some (.leaf (.one (.agg threeA), [])) := by kernel_rfl
theorem cThree : ThreeC P 29 := threeC_of mixed num (noF_q P) (noF_p P) hThree
abbrev qE : QSum := orF (threeF 29) (orF (elG false 26 mkMulE) (orF (elG false 30 mkAddE) (orF (elG false 27 mkSubE) (orF (elG false 28 mkInvE) q3))))
theorem qE_ok : QOk P qE := orF_q (threeF_q cThree) (orF_q (mulE_q cMulE) (orF_q (addE_q cAddE) (orF_q (subE_q cSubE) (orF_q (invE_q cInvE) q3_ok))))
theorem hAddS : sxCall P qE noF 5000 10 pp2 (hp0 [] 0 8) leafE = some tAddS2 := by kernel_rfl
theorem cAddS : PP2C P 10 false add2 := pp2_of mixed num qE_ok (noF_p P) hAddS (by decide +kernel) fun _ _ _ h0 h1 h2 h3 => addS2_goal h0 h1 h2 h3
theorem hNegS : sxCall P qE noF 5000 11 pp1 (hp0 [] 0 4) leafE = some tNegS2 := by kernel_rfl
theorem cNegS : P1C2 P 11 false neg2 := p2_of mixed num qE_ok (noF_p P) hNegS (by decide +kernel) fun _ _ h0 h1 => negS2_goal h0 h1
theorem hTold : sxCall P noF pg 5000 48 [.one (.agg (ems 0 ++ ems 1))] (hp0 [] 0 2) leafE = some (.leaf (.one (.agg (eps 0 ++ eps 1)), [])) := by kernel_rfl
theorem cTold : ToldC P 48 := toldC_of mixed num (noF_q P) pg_ok hTold
abbrev qm : QSum := orF (toldF 48) (maF 33)
theorem qm_ok : QOk P qm := orF_q (toldF_q cTold) (maF_q cMade)
theorem hDblP : sxCall P qm pt2 5000 8 pp1 (hp0 [] 0 4) leafE = some tDouble2 := by kernel_rfl
theorem cDblP : P1C2 P 8 true fun p => add2 p p := p2_of mixed num qm_ok pt2_ok hDblP (by decide +kernel) fun _ _ h0 h1 => double2_goal h0 h1
theorem hNegP : sxCall P qm pt2 5000 9 pp1 (hp0 [] 0 4) leafE = some tNegP2 := by kernel_rfl
theorem cNegP : P1C2 P 9 true neg2 := p2_of mixed num qm_ok pt2_ok hNegP (by decide +kernel) fun _ _ h0 h1 => negP2_goal h0 h1
theorem hAddP : sxCall P qm pt2 5000 12 pp2 (hp0 [] 0 8) leafE = some (tAddP2 true 8 bY) := by kernel_rfl
theorem cAddP : PP2C P 12 true add2 := pp2_of mixed num qm_ok pt2_ok hAddP (by decide +kernel) fun _ _ _ h0 h1 h2 h3 => addP2_goal h0 h1 h2 h3
theorem hSubP : sxCall P qm pt2 5000 13 pp2 (hp0 [] 0 8) leafE = some tSubP2 := by kernel_rfl
theorem cSubP : PP2C P 13 true fun p r => add2 p (neg2 r) := pp2_of mixed num qm_ok pt2_ok hSubP (by decide +kernel) fun _ _ _ h0 h1 h2 h3 => subP2_goal h0 h1 h2 h3
/-- The laws' table. -/
abbrev q7 : QSum := orF (elG false 10 mkAdd2) (orF (elG false 11 mkNeg2) (orF (elG true 8 mkDbl2) (orF (elG true 9 mkNeg2) (orF (elG true 12 mkAdd2) (orF (elG true 13 mkSub2) q6)))))
theorem q7_ok : QOk P q7 := orF_q (add2_q cAddS) (orF_q (neg2_q cNegS) (orF_q (dbl2_q cDblP) (orF_q (neg2_q cNegP) (orF_q (add2_q cAddP) (orF_q (sub2_q cSubP) q6_ok)))))
end Go.Sx.Z
