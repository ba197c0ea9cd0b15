import Derived.Test.YtolmolkcjoibiaaGreatDoorNzZ
import Derived.Test.YtolmolkcjoibiaaGreatDoorLw1
/- Aids to the claim: what is shown here is said at each theorem. -/
namespace Go.Sx.Z
open Go Go.Proofs Go.Sx
set_option maxRecDepth 100000
abbrev qAm : QSum := orF (leF 14) (orF (ltF 14) (orF (lesF 88) (sumF 103)))
theorem qAm_ok : QOk P qAm := orF_q (leF_q cLe) (orF_q (ltF_q cLe) (orF_q (lesF_q cLes) (sumF_q cSum)))
theorem hAm : sxCall P qAm noF 5000 85 [ag 0, ag 4, qArg] (hp0 [] 8 0) leafE = some tAm := by kernel_rfl
theorem cAm : Op3C P 85 (· + ·) := addOp3 mixed num qAm_ok (noF_p P) hAm
theorem hSm : sxCall P qAm noF 5000 83 [ag 0, ag 4, qArg] (hp0 [] 8 0) leafE = some tSm := by kernel_rfl
theorem cSm : Op3C P 83 (· - ·) := subOp3 mixed num qAm_ok (noF_p P) hSm
/-- The reference's numbers: three arguments. -/
abbrev q0 : QSum := orF (prF 15) (orF (leF 14) (orF (op3F 84 .mul) (orF (op3F 85 .add) (op3F 83 .sub))))
theorem q0_ok : QOk P q0 := orF_q (prF_q cPr) (orF_q (leF_q cLe) (orF_q (op3F_q (fun _ _ _ => rfl) (mm_op3 cMm)) (orF_q (op3F_q (fun _ _ _ => rfl) cAm) (op3F_q (fun _ _ _ => rfl) cSm))))
theorem hMul2 : sxCall P q0 noF 5000 54 [.one (.agg (eps 0)), .one (.agg (eps 1))] (hp0 [] 0 2) leafE = some (.dn (.f 2 (.mul 0 1)) (.leaf (.one (.agg (eps 2)), []))) := by kernel_rfl
theorem cMul2 : Op2C P 54 (· * ·) := op2_of mixed num q0_ok (noF_p P) (fun _ _ _ => rfl) hMul2 rfl
theorem hAdd2 : sxCall P q0 noF 5000 55 [.one (.agg (eps 0)), .one (.agg (eps 1))] (hp0 [] 0 2) leafE = some (.dn (.f 2 (.add 0 1)) (.leaf (.one (.agg (eps 2)), []))) := by kernel_rfl
theorem cAdd2 : Op2C P 55 (· + ·) := op2_of mixed num q0_ok (noF_p P) (fun _ _ _ => rfl) hAdd2 rfl
theorem hSub2 : sxCall P q0 noF 5000 53 [.one (.agg (eps 0)), .one (.agg (eps 1))] (hp0 [] 0 2) leafE = some (.dn (.f 2 (.sub 0 1)) (.leaf (.one (.agg (eps 2)), []))) := by kernel_rfl
theorem cSub2 : Op2C P 53 (· - ·) := op2_of mixed num q0_ok (noF_p P) (fun _ _ _ => rfl) hSub2 rfl
/-- Two arguments. -/
abbrev q1 : QSum := orF (elF 54 (two .mul)) (orF (elF 55 (two .add)) (orF (elF 53 (two .sub)) q0))
theorem q1_ok : QOk P q1 := orF_q (two_q (fun _ _ _ => rfl) cMul2) (orF_q (two_q (fun _ _ _ => rfl) cAdd2) (orF_q (two_q (fun _ _ _ => rfl) cSub2) q0_ok))
end Go.Sx.Z
