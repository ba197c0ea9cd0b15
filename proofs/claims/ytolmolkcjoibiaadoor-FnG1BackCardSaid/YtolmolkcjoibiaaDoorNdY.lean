import Derived.Test.YtolmolkcjoibiaaDoorNdX
import Derived.Test.YtolmolkcjoibiaaDoorSi
/- Aids to the claim: what is shown here is said at each theorem. -/
namespace Go.Sx.D
open Go Go.Proofs Go.Sx
set_option maxRecDepth 100000
abbrev pMade : QSum := orF pSm (orF (binF 74 .mul) (orF (eqF 80) noF))
theorem pMade_ok : POk P pMade := orF_p pSm_ok (orF_p (binF_p (fun _ _ _ => rfl) cMul) (orF_p (eqF_p equal) (noF_p P)))
theorem hMade : sxCall P qb pMade 5000 69 ([0].map ag) (hp0 [] 4 0) leafE = some tMade := by kernel_rfl
theorem cMade : MadeC P 69 := madeC_of mixed num qb_ok pMade_ok hMade (by kernel_rfl) (by kernel_rfl)
theorem hLe : sxCall P noF noF 5000 35 ([0, 4].map ag) (hp0 [] 8 0) leafE = some tLess := by kernel_rfl
theorem cLe : LeC P 35 := leC_of mixed num (noF_q P) (noF_p P) hLe (by kernel_rfl) (by kernel_rfl)
theorem hSum : sxCall P noF noF 5000 104 ([0, 4].map ag) (hp0 [] 8 0) leafE = some tSum := by kernel_rfl
theorem cSum : SumC P 104 := sumC_of mixed num (noF_q P) (noF_p P) hSum (by kernel_rfl) (by kernel_rfl)
theorem hLes : sxCall P noF noF 5000 102 ([0, 4].map ag) (hp0 [] 8 0) leafE = some tLes := by kernel_rfl
theorem cLes : LesC P 102 := lesC_of mixed num (noF_q P) (noF_p P) hLes (by kernel_rfl) (by kernel_rfl)
theorem hPr : sxCall P noF noF 5000 36 ([].map ag) (hp0 [] 0 0) leafE = some tPr := by kernel_rfl
theorem cPr : PrC P 36 := prC_of mixed num (noF_q P) (noF_p P) hPr
end Go.Sx.D
