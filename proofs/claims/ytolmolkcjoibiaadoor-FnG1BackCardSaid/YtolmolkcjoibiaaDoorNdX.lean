import Derived.Test.YtolmolkcjoibiaaDoorNdW
import Derived.Test.YtolmolkcjoibiaaDoorSh
/- Aids to the claim: what is shown here is said at each theorem. -/
namespace Go.Sx.D
open Go Go.Proofs Go.Sx
set_option maxRecDepth 100000
abbrev pSm : QSum := smF 114
theorem pSm_ok : POk P pSm := smF_p small
theorem hMul012 : sxCall P qb pSm 5000 74 ([0, 1, 2].map pt) (hp0 [ws 0, ws 4, ws 8] 12 0) leafE = some tMul := by kernel_rfl
theorem hMul001 : sxCall P qb pSm 5000 74 ([0, 0, 1].map pt) (hp0 [ws 4, ws 8] 12 0) leafE = some tMul := by kernel_rfl
theorem hMul010 : sxCall P qb pSm 5000 74 ([0, 1, 0].map pt) (hp0 [ws 8, ws 4] 12 0) leafE = some tMul := by kernel_rfl
theorem cMul : BinC P 74 (· * ·) := binC_of mixed num qb_ok pSm_ok hMul012 hMul001 hMul010 (by kernel_rfl) (by kernel_rfl) mul_bin
theorem hSq01 : sxCall P qb pSm 5000 73 ([0, 1].map pt) (hp0 [ws 0, ws 4] 8 0) leafE = some tSq := by kernel_rfl
theorem hSq00 : sxCall P qb pSm 5000 73 ([0, 0].map pt) (hp0 [ws 4] 8 0) leafE = some tSq := by kernel_rfl
theorem cSq : UnC P 73 (fun a => a * a) := unC_of mixed num qb_ok pSm_ok hSq01 hSq00 (by kernel_rfl) (by kernel_rfl) sq_un
theorem hAdd012 : sxCall P qb pSm 5000 83 ([0, 1, 2].map pt) (hp0 [ws 0, ws 4, ws 8] 12 0) leafE = some tAdd := by kernel_rfl
theorem hAdd001 : sxCall P qb pSm 5000 83 ([0, 0, 1].map pt) (hp0 [ws 4, ws 8] 12 0) leafE = some tAdd := by kernel_rfl
theorem hAdd010 : sxCall P qb pSm 5000 83 ([0, 1, 0].map pt) (hp0 [ws 8, ws 4] 12 0) leafE = some tAdd := by kernel_rfl
theorem cAdd : BinC P 83 (· + ·) := binC_of mixed num qb_ok pSm_ok hAdd012 hAdd001 hAdd010 (by kernel_rfl) (by kernel_rfl) add_bin
theorem hSub012 : sxCall P qb pSm 5000 108 ([0, 1, 2].map pt) (hp0 [ws 0, ws 4, ws 8] 12 0) leafE = some tSub := by kernel_rfl
theorem hSub001 : sxCall P qb pSm 5000 108 ([0, 0, 1].map pt) (hp0 [ws 4, ws 8] 12 0) leafE = some tSub := by kernel_rfl
theorem hSub010 : sxCall P qb pSm 5000 108 ([0, 1, 0].map pt) (hp0 [ws 8, ws 4] 12 0) leafE = some tSub := by kernel_rfl
theorem cSub : BinC P 108 (· - ·) := binC_of mixed num qb_ok pSm_ok hSub012 hSub001 hSub010 (by kernel_rfl) (by kernel_rfl) sub_bin
theorem hDbl01 : sxCall P qb pSm 5000 109 ([0, 1].map pt) (hp0 [ws 0, ws 4] 8 0) leafE = some tDbl := by kernel_rfl
theorem hDbl00 : sxCall P qb pSm 5000 109 ([0, 0].map pt) (hp0 [ws 4] 8 0) leafE = some tDbl := by kernel_rfl
theorem cDbl : UnC P 109 (fun a => a + a) := unC_of mixed num qb_ok pSm_ok hDbl01 hDbl00 (by kernel_rfl) (by kernel_rfl) dbl_un
theorem hNeg01 : sxCall P qb pSm 5000 98 ([0, 1].map pt) (hp0 [ws 0, ws 4] 8 0) leafE = some tNeg := by kernel_rfl
theorem hNeg00 : sxCall P qb pSm 5000 98 ([0, 0].map pt) (hp0 [ws 4] 8 0) leafE = some tNeg := by kernel_rfl
theorem cNeg : UnC P 98 (fun a => - a) := unC_of mixed num qb_ok pSm_ok hNeg01 hNeg00 (by kernel_rfl) (by kernel_rfl) neg_un
theorem hBack : sxCall P qb pSm 5000 139 ([0].map pt) (hp0 [ws 4] 8 0) leafE = some tFromMont := by kernel_rfl
theorem cBack : BackC P 139 := backC_of mixed num qb_ok pSm_ok hBack
/-- The field's functions of places. -/
abbrev pfp : QSum := orF pSm (orF (binF 74 .mul) (orF (binF 83 .add) (orF (binF 108 .sub) (orF (unF 73 fun i => .mul i i) (orF (unF 109 fun i => .add i i) (orF (unF 98 .neg) (orF (zeF 70) (eqF 80))))))))
theorem pfp_ok : POk P pfp := orF_p pSm_ok (orF_p (binF_p (fun _ _ _ => rfl) cMul) (orF_p (binF_p (fun _ _ _ => rfl) cAdd) (orF_p (binF_p (fun _ _ _ => rfl) cSub) (orF_p (unF_p (fun _ _ => rfl) cSq) (orF_p (unF_p (fun _ _ => rfl) cDbl) (orF_p (unF_p (fun _ _ => rfl) cNeg) (orF_p (zeF_p isZero) (eqF_p equal))))))))
end Go.Sx.D
