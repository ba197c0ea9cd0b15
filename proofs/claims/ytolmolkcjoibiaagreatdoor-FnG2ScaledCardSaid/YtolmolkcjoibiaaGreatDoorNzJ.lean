import Derived.Test.YtolmolkcjoibiaaGreatDoorNzX
import Derived.Test.YtolmolkcjoibiaaGreatDoorSp
/- Aids to the claim: what is shown here is said at each theorem. -/
namespace Go.Sx.Z
open Go Go.Proofs Go.Sx
set_option maxRecDepth 100000
theorem hMulW012 : sxCall P qb pSm 5000 39 ([0, 1, 2].map pt) (hp0 [ws 0, ws 4, ws 8] 12 0) leafE = some tMul := hMul012
theorem cMulW : BinW P 39 := binW_of mixed num qb_ok pSm_ok hMul012 hMul001 hMul010 (by kernel_rfl) (by kernel_rfl) mul_w
theorem hOne : sxCall P noF noF 5000 116 ([1].map pt) (hp0 [[], ws 0] 4 0) leafE = some tIsOne := by kernel_rfl
theorem cOne : OneC P 116 := oneC_of mixed num (noF_q P) (noF_p P) hOne
abbrev pX : QSum := orF (binF 39 .mul) (unF 37 fun i => .mul i i)
theorem pX_ok : POk P pX := orF_p (binF_p (fun _ _ _ => rfl) cMul) (unF_p (fun _ _ => rfl) cSq)
theorem hIex : okEO (q - 2) 253 4 1 (sxCall P noF pX 5000 117 [pt 0, .one (.agg (ems 0))] (hp0 [ws 0] 4 1) leafE) = true := by kernel_rfl
theorem cIex : IexC P 117 := iexC_of mixed num (noF_q P) pX_ok hIex
abbrev pE : QSum := orF (binWF 39) (orF (zeF 34) (orF (oneF 116) (iexF 117)))
theorem pE_ok : POk P pE := orF_p (binWF_p cMulW) (orF_p (zeF_p isZero) (orF_p (oneF_p cOne) (iexF_p cIex)))
end Go.Sx.Z
