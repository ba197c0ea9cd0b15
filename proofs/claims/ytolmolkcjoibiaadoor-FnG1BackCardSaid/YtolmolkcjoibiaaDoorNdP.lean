import Derived.Test.YtolmolkcjoibiaaDoorNdA
import Derived.Test.YtolmolkcjoibiaaDoorSqt
/- Aids to the claim: what is shown here is said at each theorem. -/
namespace Go.Sx.D
open Go Go.Proofs Go.Sx
set_option maxRecDepth 100000
theorem hHalf : sxCall P qAm noF 5000 100 ([0].map ag) (hp0 [] 4 0) leafE = some tHalf := by kernel_rfl
theorem cHalf : HalfC P 100 := halfC_of mixed num qAm_ok (noF_p P) hHalf
abbrev qPw : QSum := elF 49 (two .mul)
theorem qPw_ok : QOk P qPw := two_q (fun _ _ _ => rfl) cMul2
theorem hPow : okCO EX finE 0 1 (sxCall P qPw noF 5000 105 [.one (.agg (eps 0)), .one (.agg rxL)] (hp0 [] 0 1) leafE) = true := by kernel_rfl
theorem cPow : PowC P 105 := powC_of mixed num qPw_ok (noF_p P) hPow
abbrev qRt : QSum := orF (powF' 105) (orF (hcF 100) (orF (elF 49 (two .mul)) (prF 36)))
theorem qRt_ok : QOk P qRt := orF_q (powF_q cPow) (orF_q (hcF_q cHalf) (orF_q (two_q (fun _ _ _ => rfl) cMul2) (prF_q cPr)))
theorem hRoot : sxCall P qRt noF 5000 66 [.one (.agg (eps 0))] (hp0 [] 0 1) leafE = some tRoot := by kernel_rfl
theorem cRoot : RootC P 66 := rootC_of mixed num qRt_ok (noF_p P) hRoot
abbrev pSq : QSum := orF (binF 74 .mul) (unF 73 fun i => .mul i i)
theorem pSq_ok : POk P pSq := orF_p (binF_p (fun _ _ _ => rfl) cMul) (unF_p (fun _ _ => rfl) cSq)
theorem hSqt : okCO EX finP 4 1 (sxCall P noF pSq 5000 148 [pt 0, .one (.agg (ems 0))] (hp0 [ws 0] 4 1) leafE) = true := by kernel_rfl
theorem cSqt : SqC P 148 := sqC_of mixed num (noF_q P) pSq_ok hSqt
abbrev pLx : QSum := orF (bkF 139) pfp
theorem pLx_ok : POk P pLx := orF_p (bkF_p cBack) pfp_ok
theorem hLex : sxCall P qb pLx 5000 135 ([1].map pt) (hp0 [[], ems 0] 0 1) leafE = some tLex := by kernel_rfl
theorem cLex : T1C P 135 1 0 := lex_of mixed num qb_ok pLx_ok hLex
abbrev qLr : QSum := orF (leF 35) (orF (ltF 35) (orF (lesF 102) (orF (sumF 104) (prF 36))))
theorem qLr_ok : QOk P qLr := orF_q (leF_q cLe) (orF_q (ltF_q cLe) (orF_q (lesF_q cLes) (orF_q (sumF_q cSum) (prF_q cPr))))
theorem hLar : sxCall P qLr noF 5000 62 [.one (.agg (eps 0))] (hp0 [] 0 1) leafE = some tLar := by kernel_rfl
theorem cLar : LarC P 62 := larC_of mixed num qLr_ok (noF_p P) hLar
end Go.Sx.D
