import Derived.Test.YtolmolkcjoibiaaDoorNdX
import Derived.Test.YtolmolkcjoibiaaDoorSp
/- Aids to the claim: what is shown here is said at each theorem. -/
namespace Go.Sx.D
open Go Go.Proofs Go.Sx
set_option maxRecDepth 100000
theorem hMulW012 : sxCall P qb pSm 5000 74 ([0, 1, 2].map pt) (hp0 [ws 0, ws 4, ws 8] 12 0) leafE = some tMul := hMul012
theorem cMulW : BinW P 74 := binW_of mixed num qb_ok pSm_ok hMul012 hMul001 hMul010 (by kernel_rfl) (by kernel_rfl) mul_w
theorem hOne : sxCall P noF noF 5000 146 ([1].map pt) (hp0 [[], ws 0] 4 0) leafE = some tIsOne := by kernel_rfl
theorem cOne : OneC P 146 := oneC_of mixed num (noF_q P) (noF_p P) hOne
abbrev pX : QSum := orF (binF 74 .mul) (unF 73 fun i => .mul i i)
theorem pX_ok : POk P pX := orF_p (binF_p (fun _ _ _ => rfl) cMul) (unF_p (fun _ _ => rfl) cSq)
theorem hIex : okEO (q - 2) 253 4 1 (sxCall P noF pX 5000 147 [pt 0, .one (.agg (ems 0))] (hp0 [ws 0] 4 1) leafE) = true := by kernel_rfl
theorem cIex : IexC P 147 := iexC_of mixed num (noF_q P) pX_ok hIex
abbrev pE : QSum := orF (binWF 74) (orF (zeF 70) (orF (oneF 146) (iexF 147)))
theorem pE_ok : POk P pE := orF_p (binWF_p cMulW) (orF_p (zeF_p isZero) (orF_p (oneF_p cOne) (iexF_p cIex)))
end Go.Sx.D
