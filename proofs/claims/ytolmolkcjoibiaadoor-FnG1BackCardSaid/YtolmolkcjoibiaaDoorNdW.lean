import Derived.Test.YtolmolkcjoibiaaDoorNd
import Derived.Test.YtolmolkcjoibiaaDoorSh
/- Aids to the claim: what is shown here is said at each theorem. -/
namespace Go.Sx.D
open Go Go.Proofs Go.Sx
set_option maxRecDepth 100000
theorem hMul64 : sxCall P noF noF 5000 112 [.one (.at (.int .u64 (.v 0))), .one (.at (.int .u64 (.v 1)))] (hp0 [] 2 0) leafE = some tMul64 := by kernel_rfl
theorem mul64 : MulC P 112 := mul64_of mixed num hMul64
abbrev qb : QSum := bitsF 113 115 112
theorem qb_ok : QOk P qb := bitsF_q add64 sub64 mul64
theorem hSmall : sxCall P noF noF 5000 114 ([1].map pt) (hp0 [[], ws 0] 4 0) leafE = some tSmall := by kernel_rfl
theorem small : SmallC P 114 := smallC_of mixed num (noF_q P) (noF_p P) hSmall
theorem hIsZero : sxCall P noF noF 5000 70 ([1].map pt) (hp0 [[], ws 0] 4 0) leafE = some tIsZero := by kernel_rfl
theorem isZero : ZeroC P 70 := zeroC_of mixed num (noF_q P) (noF_p P) hIsZero
theorem hEqual : sxCall P noF noF 5000 80 ([1, 2].map pt) (hp0 [[], ws 0, ws 4] 8 0) leafE = some tEqual := by kernel_rfl
theorem equal : EqC P 80 := eqC_of mixed num (noF_q P) (noF_p P) hEqual
end Go.Sx.D
