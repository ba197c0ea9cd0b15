import Derived.Test.YtolmolkcjoibiaaDoorNdP
import Derived.Test.YtolmolkcjoibiaaDoorSxb
/- Aids to the claim: what is shown here is said at each theorem. -/
namespace Go.Sx.D
open Go Go.Proofs Go.Sx
set_option maxRecDepth 100000
/-- The points' functions of bytes. -/
abbrev pPs : QSum := orF (sqF 148) (orF (t1F 135 1 0) (orF (bkF 139) pfp))
theorem pPs_ok : POk P pPs := orF_p (sqF_p cSqt) (orF_p (t1F_p cLex) (orF_p (bkF_p cBack) pfp_ok))
abbrev qPs : QSum := orF (rtF 66) (orF (tsF 62 larB) (orF (maF 69) q1))
theorem qPs_ok : QOk P qPs := orF_q (rtF_q cRoot) (orF_q (larF_q cLar) (orF_q (maF_q cMade) q1_ok))
theorem hGp : sxCall P qPs pPs 5000 30 [sl32] (hp0 (gl8 by32 155) 32 0) leafE = some tGp := by kernel_rfl
theorem cGp : GpC P 30 155 := gp_of mixed num qPs_ok pPs_ok hGp
theorem hSp : sxCall P qPs noF 5000 31 [sl32] (hp0 [[], by32] 32 0) leafE = some tSp := by kernel_rfl
theorem cSp : SpC P 31 := sp_of mixed num qPs_ok (noF_p P) hSp
theorem hGen : sxCall P noF noF 5000 32 [] (hp0 [] 0 0) leafE = some (.leaf (.one (.agg (cvL [1, 0, 0, 0, 2, 0, 0, 0])), [])) := by kernel_rfl
theorem cGen : CvC P 32 [1, 0, 0, 0, 2, 0, 0, 0] := cv_of mixed num (noF_q P) (noF_p P) hGen
end Go.Sx.D
