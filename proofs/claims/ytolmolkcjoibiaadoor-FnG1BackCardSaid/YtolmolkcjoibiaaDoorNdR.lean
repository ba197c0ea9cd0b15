import Derived.Test.YtolmolkcjoibiaaDoorNdQ
import Derived.Test.YtolmolkcjoibiaaDoorSxd
/- Aids to the claim: what is shown here is said at each theorem. -/
namespace Go.Sx.D
open Go Go.Proofs Go.Sx
set_option maxRecDepth 100000
theorem hG64 : sxCall P qPs pPs 5000 30 [sl64] (hp1 (gl8 by64 155) 64 0) leafE = some t64 := by kernel_rfl
theorem cG64 : G64C P 30 155 := g64_of mixed num qPs_ok pPs_ok hG64
end Go.Sx.D
