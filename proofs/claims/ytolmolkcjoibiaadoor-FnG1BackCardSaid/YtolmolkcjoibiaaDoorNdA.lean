import Derived.Test.YtolmolkcjoibiaaDoorNdZ
import Derived.Test.YtolmolkcjoibiaaDoorLw1
/- Aids to the claim: what is shown here is said at each theorem. -/
namespace Go.Sx.D
open Go Go.Proofs Go.Sx
set_option maxRecDepth 100000
abbrev qAm : QSum := orF (leF 35) (orF (ltF 35) (orF (lesF 102) (sumF 104)))
theorem qAm_ok : QOk P qAm := orF_q (leF_q cLe) (orF_q (ltF_q cLe) (orF_q (lesF_q cLes) (sumF_q cSum)))
theorem hAm : sxCall P qAm noF 5000 86 [ag 0, ag 4, qArg] (hp0 [] 8 0) leafE = some tAm := by kernel_rfl
theorem cAm : Op3C P 86 (· + ·) := addOp3 mixed num qAm_ok (noF_p P) hAm
theorem hSm : sxCall P qAm noF 5000 99 [ag 0, ag 4, qArg] (hp0 [] 8 0) leafE = some tSm := by kernel_rfl
theorem cSm : Op3C P 99 (· - ·) := subOp3 mixed num qAm_ok (noF_p P) hSm
/-- The reference's numbers: three arguments. -/
abbrev q0 : QSum := orF (prF 36) (orF (leF 35) (orF (op3F 85 .mul) (orF (op3F 86 .add) (op3F 99 .sub))))
theorem q0_ok : QOk P q0 := orF_q (prF_q cPr) (orF_q (leF_q cLe) (orF_q (op3F_q (fun _ _ _ => rfl) (mm_op3 cMm)) (orF_q (op3F_q (fun _ _ _ => rfl) cAm) (op3F_q (fun _ _ _ => rfl) cSm))))
theorem hMul2 : sxCall P q0 noF 5000 49 [.one (.agg (eps 0)), .one (.agg (eps 1))] (hp0 [] 0 2) leafE = some (.dn (.f 2 (.mul 0 1)) (.leaf (.one (.agg (eps 2)), []))) := by kernel_rfl
theorem cMul2 : Op2C P 49 (· * ·) := op2_of mixed num q0_ok (noF_p P) (fun _ _ _ => rfl) hMul2 rfl
theorem hAdd2 : sxCall P q0 noF 5000 50 [.one (.agg (eps 0)), .one (.agg (eps 1))] (hp0 [] 0 2) leafE = some (.dn (.f 2 (.add 0 1)) (.leaf (.one (.agg (eps 2)), []))) := by kernel_rfl
theorem cAdd2 : Op2C P 50 (· + ·) := op2_of mixed num q0_ok (noF_p P) (fun _ _ _ => rfl) hAdd2 rfl
theorem hSub2 : sxCall P q0 noF 5000 59 [.one (.agg (eps 0)), .one (.agg (eps 1))] (hp0 [] 0 2) leafE = some (.dn (.f 2 (.sub 0 1)) (.leaf (.one (.agg (eps 2)), []))) := by kernel_rfl
theorem cSub2 : Op2C P 59 (· - ·) := op2_of mixed num q0_ok (noF_p P) (fun _ _ _ => rfl) hSub2 rfl
/-- Two arguments. -/
abbrev q1 : QSum := orF (elF 49 (two .mul)) (orF (elF 50 (two .add)) (orF (elF 59 (two .sub)) q0))
theorem q1_ok : QOk P q1 := orF_q (two_q (fun _ _ _ => rfl) cMul2) (orF_q (two_q (fun _ _ _ => rfl) cAdd2) (orF_q (two_q (fun _ _ _ => rfl) cSub2) q0_ok))
theorem hOn1 : sxCall P q1 noF 5000 19 [.one (.agg (eps 0 ++ eps 1))] (hp0 [] 0 2) leafE = some tOn1 := by kernel_rfl
theorem cOn1 : On1C P 19 := on1_of mixed num q1_ok (noF_p P) hOn1
abbrev q2 : QSum := orF (tsF 19 on1B) (orF (maF 69) q1)
theorem q2_ok : QOk P q2 := orF_q (on1_q cOn1) (orF_q (maF_q cMade) q1_ok)
end Go.Sx.D
