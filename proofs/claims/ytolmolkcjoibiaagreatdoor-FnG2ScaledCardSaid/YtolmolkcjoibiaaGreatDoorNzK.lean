import Derived.Test.YtolmolkcjoibiaaGreatDoorNzI
import Derived.Test.YtolmolkcjoibiaaGreatDoorNzJ
import Derived.Test.YtolmolkcjoibiaaGreatDoorSp
/- Aids to the claim: what is shown here is said at each theorem. -/
namespace Go.Sx.Z
open Go Go.Proofs Go.Sx
set_option maxRecDepth 100000
noncomputable abbrev FI : Code := cb (cb ((flat bodyI).getD 11 .skip))
theorem j1 : P.funcs[101]? = some fnI := by kernel_rfl
theorem j2 : fnI.body = some bodyI := by kernel_rfl
theorem j3 : fnI.ntmps = 239 := by kernel_rfl
theorem j4 : flat bodyI = (flat bodyI).take 9 ++ ([.block 0 (.loop BI)] ++ (((flat bodyI).drop 10).take 1 ++ ([.block 4 (.loop FI)] ++ (flat bodyI).drop 12))) := by kernel_rfl
theorem j5 (d : Bool) : sxs P qb noF 300 ((flat bodyI).take 9) (ieS d).st (kM fun _ => ivP ty d hdT []) = some (tS d) := by cases d <;> kernel_rfl
theorem j6 (d : Bool) : sxs P qb noF 300 (((flat bodyI).drop 10).take 1) (ivP ty d hdT []).st (kM fun _ => ieE ty d) = some (t54 d) := by cases d <;> kernel_rfl
theorem j7 (d : Bool) : sxs P qb pE 300 (flat FI) (ieE ty d).st (kM fun _ => ieE ty d) = some (tF d) := by cases d <;> kernel_rfl
theorem j8 (d : Bool) : sxs P qb pE 3000 ((flat bodyI).drop 12) (ieE ty d).st (kR P fnI) = some (tEnd d) := by cases d <;> kernel_rfl
theorem cInvU : UnC P 101 finv := invU_of mixed num qb_ok (lenF_q cLen) pE_ok ivChk j1 j2 j3 fun d => ⟨j4, j5 d, j6 d, j7 d, j8 d⟩
end Go.Sx.Z
